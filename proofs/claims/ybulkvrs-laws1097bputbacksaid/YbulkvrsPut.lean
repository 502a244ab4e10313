/- The walk of 'put' and of the law 'LawS1097BPutBack'. -/
import Derived.Test.YbulkvrsTakeLaw
import Derived.Deep.RegionWith
namespace Go.Proofs.Ybulkvrs
open Go.RowKit
set_option linter.unusedVariables false

theorem Store.congr {w : World} {B n : Nat} {C D : Nat → Nat → Value} {free : Int} (h : Store w B n C free) (e : ∀ j f, j < n → f < 7 → C j f = D j f) : Store w B n D free := by
  obtain ⟨hs, hrow, hc0, hc1, hc2, hc3, hfz, hsz⟩ := h
  exact ⟨hs.congr e, hrow, hc0, hc1, hc2, hc3, hfz, hsz⟩

/-- The seven stores of a whole slot. -/
theorem Store.setAll {w : World} {B n : Nat} {X A K N : Nat → Int} {free : Int} (h : Store w B n (fun j f => sf (X j) (A j) (K j) (N j) f) free) (i : Nat) (hi : i < n) (x kd fr : Int) :
    Store ((((((((w.setCell ⟨B + 2, 3, none⟩ (.int .i64 fr)).setCell ⟨B, i * 7, none⟩ (.int .i64 x)).setCell ⟨B, i * 7 + 1, none⟩ (.int .u64 0)).setCell ⟨B, i * 7 + 2, none⟩ (.int .i64 0)).setCell ⟨B, i * 7 + 3, none⟩ (.int .i64 0)).setCell
      ⟨B, i * 7 + 4, none⟩ (.int .u32 kd)).setCell ⟨B, i * 7 + 5, none⟩ (.bool false)).setCell ⟨B, i * 7 + 6, none⟩ (.int .i64 0)) B n (fun j f => if j = i then sf x 0 kd 0 f else sf (X j) (A j) (K j) (N j) f) fr := by
  refine ((((((((h.setFree fr).setSlot i 0 hi (by omega) (.int .i64 x)).setSlot i 1 hi (by omega) (.int .u64 0)).setSlot i 2 hi (by omega) (.int .i64 0)).setSlot i 3 hi (by omega) (.int .i64 0)).setSlot i 4 hi (by omega) (.int .u32 kd)).setSlot i 5 hi (by omega) (.bool false)).setSlot i 6 hi (by omega) (.int .i64 0)).congr ?_
  intro j f hj hf
  by_cases e : j = i
  · subst e
    rcases f7 f hf with rfl | rfl | rfl | rfl | rfl | rfl | rfl <;> simp [sf]
  · simp [e]

theorem below_setAll (w : World) (B : Nat) (i : Nat) (x kd fr : Int) :
    Below B w ((((((((w.setCell ⟨B + 2, 3, none⟩ (.int .i64 fr)).setCell ⟨B, i * 7, none⟩ (.int .i64 x)).setCell ⟨B, i * 7 + 1, none⟩ (.int .u64 0)).setCell ⟨B, i * 7 + 2, none⟩ (.int .i64 0)).setCell ⟨B, i * 7 + 3, none⟩ (.int .i64 0)).setCell
      ⟨B, i * 7 + 4, none⟩ (.int .u32 kd)).setCell ⟨B, i * 7 + 5, none⟩ (.bool false)).setCell ⟨B, i * 7 + 6, none⟩ (.int .i64 0)) := by
  have h0 : Below B w (w.setCell ⟨B + 2, 3, none⟩ (.int .i64 fr)) := (Below.refl B w).setCell (p := ⟨B + 2, 3, none⟩) (Nat.le_add_right _ _) _
  exact ((((((h0.setCell (Nat.le_refl _) _).setCell (Nat.le_refl _) _).setCell (Nat.le_refl _) _).setCell (Nat.le_refl _) _).setCell (Nat.le_refl _) _).setCell (Nat.le_refl _) _).setCell (Nat.le_refl _) _

set_option maxRecDepth 100000 in
set_option maxHeartbeats 1000000 in
theorem put_any (B n i : Nat) (X A K N : Nat → Int) (free x kd : Int) (w : World) (hi : i < n) (hn : n ≤ 1024) (hf : free = (i : Int) + 1)
    (h : Store w B n (fun j f => sf (X j) (A j) (K j) (N j) f) free) :
    Calls Yba.prog 13 #[.pointer (some ⟨B + 2, 0, none⟩), .agg #[.int .i64 x, .int .u64 0, .int .i64 0, .int .i64 0, .int .u32 kd, .bool false]] w fun e w' =>
      e = .returned (.int .i64 free) ∧
      Store w' B n (fun j f => if j = i then sf x 0 kd 0 f else sf (X j) (A j) (K j) (N j) f) (N i) ∧ Below B w w' := by
  subst hf
  have ST := ((h.setAll i hi x kd (N i)).alloc (.cells #[.int .i64 x, .int .u64 0, .int .i64 0, .int .i64 0, .int .u32 kd, .bool false] 47)).drew
  have BL := ((below_setAll w B i x kd (N i)).alloc (Nat.le_of_lt (Nat.lt_of_lt_of_le (Nat.lt_of_le_of_lt (Nat.le_add_right B 2) h.size) (below_setAll w B i x kd (N i)).size)) (.cells #[.int .i64 x, .int .u64 0, .int .i64 0, .int .i64 0, .int .u32 kd, .bool false] 47)).drew
  obtain ⟨hs, hrow, hc0, hc1, hc2, hc3, hfz, hsz⟩ := h
  have g0 := hs.cell i 0 hi (by omega)
  have g1 := hs.cell i 1 hi (by omega)
  have g2 := hs.cell i 2 hi (by omega)
  have g3 := hs.cell i 3 hi (by omega)
  have g4 := hs.cell i 4 hi (by omega)
  have g5 := hs.cell i 5 hi (by omega)
  have g6 := hs.cell i 6 hi (by omega)
  simp only [Nat.add_zero, sf] at g0 g1 g2 g3 g4 g5 g6
  have hfr := hs.frozen
  have hB0 : B < w.heap.size := by omega
  have hB1 : B + 1 < w.heap.size := by omega
  have hk : ((i : Int) + 1 == 0) = false := by simp; omega
  go_enter Yba.func13, Yba.ntmps13
  go_wp2_with fail
  refine (slot_any B (B + 1) (B + 2) n i _ hi hn (by go_simp) (by go_simp)).mono ?_
  rintro e w' ⟨rfl, rfl⟩
  go_wp2
  go_region_with (go_at_call 15; refine (slot_any B (B + 1) (B + 2) n i _ hi hn (by go_simp) (by go_simp)).mono ?_; rintro e w' ⟨rfl, rfl⟩)
  all_goals go_wp2
  all_goals go_ret
  all_goals exact ⟨rfl, ST, BL⟩

set_option maxRecDepth 100000 in
set_option maxHeartbeats 1000000 in
theorem putLaw (b off n cap : Nat) (z : List Int) (a1 : Option Addr) (len1 cap1 : Nat) (nx : Nat → Int) (free sel x : Int) (w : World) (h0 : 0 < n) (hn : n ≤ 1024) (hl1 : len1 ≤ maxLen)
    (hs0 : 0 ≤ sel) (hs1 : sel ≤ 18446744073709551615)
    (hb : b < w.heap.size) (hc : ∀ j, j < n → w.cell? ⟨b, off + j, none⟩ = some (.int .i64 (z.getD j 0))) (hN : NextOk w a1 len1 nx) :
    Calls Yba.prog 5 #[.slice (some ⟨b, off, none⟩) n cap, .slice a1 len1 cap1, .int .i64 free, .int .u64 sel, .int .i64 x] w fun e w' => e = .returned (.bool true) ∧ Below w.heap.size w w' := by
  obtain ⟨i, hi, hm⟩ : ∃ i : Nat, i < n ∧ sel % (n : Int) = (i : Int) := ⟨(sel % (n : Int)).toNat, by have := Int.emod_lt_of_pos sel (show (0 : Int) < n by omega); omega, by have := Int.emod_nonneg sel (show (n : Int) ≠ 0 by omega); omega⟩
  have hn0 : ((n : Int) == 0) = false := by simp; omega
  have hn1 : ¬ (1024 : Int) < (n : Int) := by omega
  have hn2 : (0 : Int) < (n : Int) := by omega
  have hi' : (i : Int) < (n : Int) := by omega
  have hk1 : (1 : Int) + (i : Int) - 1 = (i : Int) := by omega
  go_enter Yba.func5, Yba.ntmps5
  go_wp2_with fail
  refine (build_any b off n cap z a1 len1 cap1 nx free _ hn hl1 hb hc hN).mono ?_
  rintro e w1 ⟨rfl, hst, hb1⟩
  go_wp2_with fail
  refine (take_at w.heap.size n i _ _ _ _ _ free _ (by omega) hi hn hst).mono ?_
  rintro e w2 ⟨rfl, hst2, hb2⟩
  go_wp2_with fail
  refine (put_any w.heap.size n i _ _ _ _ _ x 7 _ hi hn (by omega) hst2).mono ?_
  rintro e w3 ⟨rfl, hst3, hb3⟩
  have hbel := (hb1.trans hb2).trans hb3
  have ST : Store w3 w.heap.size n (fun j f => sf (if j = i then x else z.getD j 0) (if j = i then 0 else j) (if j = i then 7 else j) (if j = i then 0 else nx j) f) free := by
    simp only [if_true] at hst3
    refine hst3.congr fun j f hj hf => ?_
    by_cases e : j = i
    · simp [e]
    · simp [e]
  have g0 := ST.slots.cell i 0 hi (by omega)
  have g1 := ST.slots.cell i 1 hi (by omega)
  have g2 := ST.slots.cell i 2 hi (by omega)
  have g3 := ST.slots.cell i 3 hi (by omega)
  have g4 := ST.slots.cell i 4 hi (by omega)
  have g5 := ST.slots.cell i 5 hi (by omega)
  have g6 := ST.slots.cell i 6 hi (by omega)
  simp only [Nat.add_zero, sf, if_true] at g0 g1 g2 g3 g4 g5 g6
  have e0 := ST.row
  have e1 := ST.c0
  have e4 := ST.c3
  have hz2 := ST.size
  have hz1 : w.heap.size + 1 < w3.heap.size := by omega
  have hz0 : w.heap.size < w3.heap.size := by omega
  clear hst hst2 hst3 hb1 hb2 hb3
  go_wp2_with fail
  refine (take_at w.heap.size n i _ _ _ _ _ free _ (by omega) hi hn (ST.alloc _)).mono ?_
  rintro e w4 ⟨rfl, hst4, hb4⟩
  have hbel4 := (hbel.alloc (by omega) _).trans hb4
  have f0 := hst4.row
  have f1 := hst4.c0
  have f4 := hst4.c3
  have f6 := hst4.slots.cell i 6 hi (by omega)
  have fz2 := hst4.size
  have fz1 : w.heap.size + 1 < w4.heap.size := by omega
  have fz0 : w.heap.size < w4.heap.size := by omega
  simp only [sf, if_true] at f6
  clear g0 g1 g2 g3 g4 g5 g6 e0 e1 e4 hst4 ST
  simp only [if_true]
  go_wp2
  go_ret
  exact ⟨rfl, hbel4.alloc (by omega) _⟩
end Go.Proofs.Ybulkvrs
