/- The walks of 'slot', 'take' and 'zzs1097bnext'. -/
import Derived.Test.YbulkvrsBuild
import Derived.RegionTactic
import Derived.BigRegion
import Derived.Deep.QuietTactic
import Derived.BigQuiet
namespace Go.Proofs.Ybulkvrs
open Go.RowKit
set_option linter.unusedVariables false

theorem next_in (b off len cap : Nat) (i : Nat) (x : Int) (w : World) (hi : i < len)
    (hc : w.cell? ⟨b, off + i, none⟩ = some (.int .i64 x)) :
    Calls Yba.prog 12 #[.slice (some ⟨b, off, none⟩) len cap, .int .i64 i] w fun e w' => e = .returned (.int .i64 x) ∧ w' = w := by
  have h1 : (i : Int) < (len : Int) := by omega
  go_enter Yba.func12, Yba.ntmps12
  go_wp2
  go_ret
  exact ⟨rfl, rfl⟩

theorem next_out (a : Option Addr) (len cap : Nat) (i : Nat) (w : World) (hi : len ≤ i)  :
    Calls Yba.prog 12 #[.slice a len cap, .int .i64 i] w fun e w' => e = .returned (.int .i64 0) ∧ w' = w := by
  have h1 : ¬ (i : Int) < (len : Int) := by omega
  go_enter Yba.func12, Yba.ntmps12
  go_wp2
  go_ret
  exact ⟨rfl, rfl⟩

theorem slot_any (b0 b1 b2 n i : Nat) (w : World) (hi : i < n) (hn : n ≤ 1024)
    (h2 : w.cell? ⟨b2, 0, none⟩ = some (.slice (some ⟨b1, 0, none⟩) 1 1)) (h1 : w.cell? ⟨b1, 0, none⟩ = some (.slice (some ⟨b0, 0, none⟩) n n)) :
    Calls Yba.prog 15 #[.pointer (some ⟨b2, 0, none⟩), .int .i64 ((i : Int) + 1)] w fun e w' => e = .returned (.pointer (some ⟨b0, i * 7, none⟩)) ∧ w' = w := by
  have hd : (i : Int) / 1024 = 0 := by omega
  have hm : (i : Int) % 1024 = i := by omega
  have hi' : (i : Int) < (n : Int) := by omega
  go_enter Yba.func15, Yba.ntmps15
  go_wp2
  go_ret
  exact ⟨rfl, rfl⟩

theorem Store.alloc {w : World} {B n : Nat} {C : Nat → Nat → Value} {free : Int} (h : Store w B n C free) (o : Obj) : Store (w.alloc o) B n C free := by
  obtain ⟨hs, hrow, hc0, hc1, hc2, hc3, hfz, hsz⟩ := h
  have hb : Below w.heap.size w (w.alloc o) := (Below.refl w.heap.size w).alloc (Nat.le_refl _) o
  exact ⟨hs.below hb (by omega), (hb.cell (p := ⟨B + 1, 0, none⟩) (by simp; omega)).trans hrow, (hb.cell (p := ⟨B + 2, 0, none⟩) hsz).trans hc0, (hb.cell (p := ⟨B + 2, 1, none⟩) hsz).trans hc1,
    (hb.cell (p := ⟨B + 2, 2, none⟩) hsz).trans hc2, (hb.cell (p := ⟨B + 2, 3, none⟩) hsz).trans hc3, fun o' => (hb.frozen (p := ⟨B + 2, o', none⟩) hsz).trans (hfz o'), by simp; omega⟩

theorem Store.drew {w : World} {B n : Nat} {C : Nat → Nat → Value} {free : Int} (h : Store w B n C free) : Store w.drew B n C free := by
  obtain ⟨⟨h1, h2⟩, hrow, hc0, hc1, hc2, hc3, hfz, hsz⟩ := h
  exact ⟨⟨h1, h2⟩, hrow, hc0, hc1, hc2, hc3, hfz, hsz⟩

theorem Store.setSlot {w : World} {B n : Nat} {C : Nat → Nat → Value} {free : Int} (h : Store w B n C free) (j0 f0 : Nat) (hj : j0 < n) (hf : f0 < 7) (v : Value) :
    Store (w.setCell ⟨B, j0 * 7 + f0, none⟩ v) B n (fun j f => if j = j0 ∧ f = f0 then v else C j f) free := by
  obtain ⟨hs, hrow, hc0, hc1, hc2, hc3, hfz, hsz⟩ := h
  have ne : ∀ b o, b ≠ B → (⟨B, j0 * 7 + f0, none⟩ : Addr) ≠ ⟨b, o, none⟩ := by
    intro b o hb q
    simp only [Addr.mk.injEq] at q
    omega
  exact ⟨hs.set j0 f0 hj hf v, by rw [World.cell?_setCell_other _ _ _ _ (ne _ _ (by omega))]; exact hrow, by rw [World.cell?_setCell_other _ _ _ _ (ne _ _ (by omega))]; exact hc0, by rw [World.cell?_setCell_other _ _ _ _ (ne _ _ (by omega))]; exact hc1,
    by rw [World.cell?_setCell_other _ _ _ _ (ne _ _ (by omega))]; exact hc2, by rw [World.cell?_setCell_other _ _ _ _ (ne _ _ (by omega))]; exact hc3, fun o => by rw [World.frozen?_setCell]; exact hfz o, by simpa [World.setCell] using hsz⟩

theorem Store.setFree {w : World} {B n : Nat} {C : Nat → Nat → Value} {free : Int} (h : Store w B n C free) (fr : Int) :
    Store (w.setCell ⟨B + 2, 3, none⟩ (.int .i64 fr)) B n C fr := by
  obtain ⟨hs, hrow, hc0, hc1, hc2, hc3, hfz, hsz⟩ := h
  have ne : ∀ b o, b ≠ B + 2 ∨ o ≠ 3 → (⟨B + 2, 3, none⟩ : Addr) ≠ ⟨b, o, none⟩ := by
    intro b o hb q
    simp only [Addr.mk.injEq] at q
    omega
  exact ⟨hs.far _ (by simp) _, by rw [World.cell?_setCell_other _ _ _ _ (ne _ _ (by omega))]; exact hrow, by rw [World.cell?_setCell_other _ _ _ _ (ne _ _ (by omega))]; exact hc0, by rw [World.cell?_setCell_other _ _ _ _ (ne _ _ (by omega))]; exact hc1,
    by rw [World.cell?_setCell_other _ _ _ _ (ne _ _ (by omega))]; exact hc2, World.cell?_setCell_same _ _ _ hc3, fun o => by rw [World.frozen?_setCell]; exact hfz o, by simpa [World.setCell] using hsz⟩

theorem take_any (B n i : Nat) (C : Nat → Nat → Value) (free : Int) (x a kd nx : Int) (w : World) (hi : i < n) (hn : n ≤ 1024)
    (h : Store w B n C free) (hC : ∀ f, f < 7 → C i f = sf x a kd nx f) :
    Calls Yba.prog 11 #[.pointer (some ⟨B + 2, 0, none⟩), .int .i64 ((i : Int) + 1)] w fun e w' =>
      e = .returned (.tuple #[.agg #[.int .i64 x, .int .u64 0, .int .i64 a, .int .i64 0, .int .u32 kd, .bool false], .int .i64 nx]) ∧
      Store w' B n (fun j f => if j = i ∧ f = 6 then .int .i64 free else C j f) ((i : Int) + 1) ∧ Below B w w' := by
  have ST := ((((h.setSlot i 6 hi (by omega) (.int .i64 free)).setFree ((i : Int) + 1)).alloc (.cells #[.int .i64 x, .int .u64 0, .int .i64 a, .int .i64 0, .int .u32 kd, .bool false] 47)).alloc (.cells #[.int .i64 x, .int .u64 0, .int .i64 a, .int .i64 0, .int .u32 kd, .bool false] 47)).drew
  obtain ⟨hs, hrow, hc0, hc1, hc2, hc3, hfz, hsz⟩ := h
  have g0 : w.cell? ⟨B, i * 7, none⟩ = some (.int .i64 x) := by have := hs.cell i 0 hi (by omega); rw [hC 0 (by omega)] at this; exact this
  have g1 : w.cell? ⟨B, i * 7 + 1, none⟩ = some (.int .u64 0) := by have := hs.cell i 1 hi (by omega); rw [hC 1 (by omega)] at this; exact this
  have g2 : w.cell? ⟨B, i * 7 + 2, none⟩ = some (.int .i64 a) := by have := hs.cell i 2 hi (by omega); rw [hC 2 (by omega)] at this; exact this
  have g3 : w.cell? ⟨B, i * 7 + 3, none⟩ = some (.int .i64 0) := by have := hs.cell i 3 hi (by omega); rw [hC 3 (by omega)] at this; exact this
  have g4 : w.cell? ⟨B, i * 7 + 4, none⟩ = some (.int .u32 kd) := by have := hs.cell i 4 hi (by omega); rw [hC 4 (by omega)] at this; exact this
  have g5 : w.cell? ⟨B, i * 7 + 5, none⟩ = some (.bool false) := by have := hs.cell i 5 hi (by omega); rw [hC 5 (by omega)] at this; exact this
  have g6 : w.cell? ⟨B, i * 7 + 6, none⟩ = some (.int .i64 nx) := by have := hs.cell i 6 hi (by omega); rw [hC 6 (by omega)] at this; exact this
  have hfr := hs.frozen
  have hB0 : B < w.heap.size := by omega
  have hB1 : B + 1 < w.heap.size := by omega
  clear hC
  go_enter Yba.func11, Yba.ntmps11
  go_wp2_with fail
  refine (slot_any B (B + 1) (B + 2) n i _ hi hn (by go_simp) (by go_simp)).mono ?_
  rintro e w' ⟨rfl, rfl⟩
  go_wp2
  go_region
  all_goals go_wp2
  refine bodyPost_ret (v := .tuple #[.agg #[.int .i64 x, .int .u64 0, .int .i64 a, .int .i64 0, .int .u32 kd, .bool false], .int .i64 nx]) (by simp [results, Yba.results11, go_sem]) rfl ⟨rfl, ST, ?_⟩
  refine Below.drew (Below.alloc (Below.alloc (Below.setCell (Below.setCell (Below.refl _ _) ?_ _) ?_ _) ?_ _) ?_ _)
  · exact Nat.le_refl _
  · exact Nat.le_add_right _ _
  · simp [World.setCell]; omega
  · simp [World.setCell]; omega
end Go.Proofs.Ybulkvrs
