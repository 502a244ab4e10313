/- The walk of the law 'LawS1097BTake'. -/
import Derived.Test.YbulkvrsGlue
import Derived.WalkSmall
namespace Go.Proofs.Ybulkvrs
open Go.RowKit
set_option linter.unusedVariables false

theorem Store.drewN {w : World} {B n : Nat} {C : Nat → Nat → Value} {free : Int} (h : Store w B n C free) (q : Nat) : Store (w.drewN q) B n C free := by
  obtain ⟨⟨h1, h2⟩, hrow, hc0, hc1, hc2, hc3, hfz, hsz⟩ := h
  exact ⟨⟨h1, h2⟩, hrow, hc0, hc1, hc2, hc3, hfz, hsz⟩

theorem NextOk.alloc {w : World} {a1 : Option Addr} {len1 : Nat} {nx : Nat → Int} (h : NextOk w a1 len1 nx) (o : Obj) (q : Nat) : NextOk ((w.alloc o).drewN q) a1 len1 nx :=
  h.below (below_drewN ((Below.refl _ _).alloc (Nat.le_refl _) o) q)

theorem NextOk.drewN {w : World} {a1 : Option Addr} {len1 : Nat} {nx : Nat → Int} (h : NextOk w a1 len1 nx) (q : Nat) : NextOk (w.drewN q) a1 len1 nx :=
  h.below (below_drewN (Below.refl _ _) q)

set_option maxRecDepth 100000 in
set_option maxHeartbeats 1000000 in
theorem takeLaw (b off n cap : Nat) (z : List Int) (a1 : Option Addr) (len1 cap1 : Nat) (nx : Nat → Int) (free sel : Int) (w : World) (h0 : 0 < n) (hn : n ≤ 1024) (hl1 : len1 ≤ maxLen)
    (hs0 : 0 ≤ sel) (hs1 : sel ≤ 18446744073709551615)
    (hb : b < w.heap.size) (hc : ∀ j, j < n → w.cell? ⟨b, off + j, none⟩ = some (.int .i64 (z.getD j 0))) (hN : NextOk w a1 len1 nx) :
    Calls Yba.prog 4 #[.slice (some ⟨b, off, none⟩) n cap, .slice a1 len1 cap1, .int .i64 free, .int .u64 sel] w fun e w' => e = .returned (.bool true) ∧ Below w.heap.size w w' := by
  obtain ⟨i, hi, hm⟩ : ∃ i : Nat, i < n ∧ sel % (n : Int) = (i : Int) := ⟨(sel % (n : Int)).toNat, by have := Int.emod_lt_of_pos sel (show (0 : Int) < n by omega); omega, by have := Int.emod_nonneg sel (show (n : Int) ≠ 0 by omega); omega⟩
  have hn0 : ((n : Int) == 0) = false := by simp; omega
  have hn1 : ¬ (1024 : Int) < (n : Int) := by omega
  have hn2 : (0 : Int) < (n : Int) := by omega
  have hi' : (i : Int) < (n : Int) := by omega
  have hk1 : (1 : Int) + (i : Int) - 1 = (i : Int) := by omega
  go_enter Yba.func4, Yba.ntmps4
  go_wp2_with fail
  refine (build_any b off n cap z a1 len1 cap1 nx free _ hn hl1 hb hc hN).mono ?_
  rintro e w1 ⟨rfl, hst, hb1⟩
  go_wp2_with fail
  refine (take_at w.heap.size n i _ _ _ _ _ free _ (by omega) hi hn hst).mono ?_
  rintro e w2 ⟨rfl, hst2, hb2⟩
  have hbel := hb1.trans hb2
  have hci : w2.cell? ⟨b, off + i, none⟩ = some (.int .i64 (z.getD i 0)) := (hbel.cell (p := ⟨b, off + i, none⟩) hb).trans (hc i hi)
  have hz2 := hst2.size
  have hbz : b < w2.heap.size := by omega
  have hz1 : w.heap.size + 1 < w2.heap.size := by omega
  have hz0 : w.heap.size < w2.heap.size := by omega
  have e0 := hst2.row
  have e1 := hst2.c0
  have e2 := hst2.c1
  have e3 := hst2.c2
  have e4 := hst2.c3
  have HN : NextOk w2 a1 len1 nx := hN.below hbel
  clear hst hb1 hb2
  go_wp2
  go_quiet (fail)
  go_wp2_with fail
  refine (next_any a1 len1 cap1 nx i _ (HN.alloc _ _)).mono ?_
  rintro e w3 ⟨rfl, rfl⟩
  have ST := fun o => (hst2.alloc o).drewN nq
  have BL := fun o => below_drewN (hbel.alloc (by omega) o) nq
  clear HN hci
  go_wp2
  go_loopw [15] (fun t wr => ∃ k : Nat, k ≤ n ∧ t = .int .i64 k ∧ Store wr w.heap.size n (fun j f => sf (z.getD j 0) (↑j) (↑j) (if j = i then free else nx j) f) (1 + ↑i) ∧ Below w.heap.size w wr)
    (fun t _ => n - (intOf t).toNat)
  case atStart => exact ⟨0, Nat.zero_le _, rfl, ST _, BL _⟩
  case round =>
    clear ST BL e0 e1 e2 e3 e4
    obtain ⟨k, hk, rfl, hs, hbl⟩ := hrel
    by_cases hlt : k < n
    · have hck : wr.cell? ⟨b, off + k, none⟩ = some (.int .i64 (z.getD k 0)) := (hbl.cell (p := ⟨b, off + k, none⟩) hb).trans (hc k hlt)
      have g0 := hs.slots.cell k 0 hlt (by omega)
      have g1 := hs.slots.cell k 1 hlt (by omega)
      have g2 := hs.slots.cell k 2 hlt (by omega)
      have g3 := hs.slots.cell k 3 hlt (by omega)
      have g4 := hs.slots.cell k 4 hlt (by omega)
      have g5 := hs.slots.cell k 5 hlt (by omega)
      have g6 := hs.slots.cell k 6 hlt (by omega)
      simp only [Nat.add_zero, sf] at g0 g1 g2 g3 g4 g5 g6
      have hz2' := hs.size
      have hbz' : b < wr.heap.size := by omega
      have hz1' : w.heap.size + 1 < wr.heap.size := by omega
      have hz0' : w.heap.size < wr.heap.size := by omega
      have e0 := hs.row
      have e1 := hs.c0
      have HN := hN.below hbl
      have hk' : (k : Int) < (n : Int) := by omega
      by_cases hki : k = i
      · subst hki
        simp only [if_true] at g6
        clear hc hN
        go_wp2
        go_quiet (fail)
        go_wp2
        go_roundw
        case rel => exact ⟨k + 1, by omega, by go_num, (hs.alloc _).drewN _, below_drewN (hbl.alloc (by omega) _) _⟩
        case measure => simp [intOf]; omega
      · simp only [hki, if_false] at g6
        have hki' : ((k : Int) == (i : Int)) = false := by simp; omega
        clear hc hN
        go_wp2
        go_quiet (fail)
        go_wp2
        go_quiet ((go_at_call 12; refine (next_any a1 len1 cap1 nx k _ (HN.alloc _ _)).mono ?_; rintro e w'' ⟨hh1, hh2⟩; exact ⟨hh1, _, hh2⟩))
        go_wp2
        go_roundw
        case rel => exact ⟨k + 1, by omega, by go_num, (hs.alloc _).drewN _, below_drewN (hbl.alloc (by omega) _) _⟩
        case measure => simp [intOf]; omega
    · go_wp2
      go_ret
      exact ⟨rfl, hbl⟩
end Go.Proofs.Ybulkvrs
