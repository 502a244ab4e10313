/- The walk of 'zzs1097bbuild'. -/
import Derived.Test.YbulkvrsParts
import Derived.OpenShut
import Derived.WalkSpells
import Derived.WalkLawsBesides
import Derived.Outline
namespace Go.Proofs.Ybulkvrs
open Go.RowKit
set_option linter.unusedVariables false

/-- The store in memory: its slots in block B, the row of one block in block B + 1, the struct in block B + 2. -/
structure Store (w : World) (B n : Nat) (C : Nat → Nat → Value) (free : Int) : Prop where
  slots : Slots w B n C
  row : w.cell? ⟨B + 1, 0, none⟩ = some (.slice (some ⟨B, 0, none⟩) n n)
  c0 : w.cell? ⟨B + 2, 0, none⟩ = some (.slice (some ⟨B + 1, 0, none⟩) 1 1)
  c1 : w.cell? ⟨B + 2, 1, none⟩ = some (.int .i64 n)
  c2 : w.cell? ⟨B + 2, 2, none⟩ = some (.int .i64 n)
  c3 : w.cell? ⟨B + 2, 3, none⟩ = some (.int .i64 free)
  fz : ∀ o, w.frozen? ⟨B + 2, o, none⟩ = false
  size : B + 2 < w.heap.size

theorem slots_alloc {w : World} {B n : Nat} {C : Nat → Nat → Value} (h : Slots w B n C) (hB : B < w.heap.size) (o : Obj) : Slots (w.alloc o) B n C :=
  h.below ((Below.refl w.heap.size w).alloc (Nat.le_refl _) o) hB

theorem store_made {wr : World} {B n : Nat} {C : Nat → Nat → Value} (free : Int) (hs : Slots wr B n C) (hsz : wr.heap.size = B + 1) :
    Store ((wr.alloc (.cells #[.slice (some ⟨B, 0, none⟩) n n] 54)).alloc (.cells #[.slice (some ⟨B + 1, 0, none⟩) 1 1, .int .i64 n, .int .i64 n, .int .i64 free] 53)) B n C free := by
  have e2 : B + 2 = (wr.alloc (.cells #[.slice (some ⟨B, 0, none⟩) n n] 54)).heap.size := by simp [hsz]
  refine ⟨slots_alloc (slots_alloc hs (by omega) _) (by simp; omega) _, ?_, ?_, ?_, ?_, ?_, fun o => World.frozen?_alloc_at _ _ _ _ e2, by simp; omega⟩
  · rw [World.cell?_alloc_past _ _ _ (by simp; omega), World.cell?_alloc_at _ _ _ _ hsz.symm]; rfl
  · rw [World.cell?_alloc_at _ _ _ _ e2]; rfl
  · rw [World.cell?_alloc_at _ _ _ _ e2]; rfl
  · rw [World.cell?_alloc_at _ _ _ _ e2]; rfl
  · rw [World.cell?_alloc_at _ _ _ _ e2]; rfl

theorem build_some (b off n cap : Nat) (z : List Int) (b1 off1 len1 cap1 : Nat) (nx : Nat → Int) (free : Int) (w : World) (hn : n ≤ 1024) (hl1 : len1 ≤ maxLen)
    (hb : b < w.heap.size) (hc : ∀ j, j < n → w.cell? ⟨b, off + j, none⟩ = some (.int .i64 (z.getD j 0)))
    (hb1 : b1 < w.heap.size) (hin : ∀ j, j < len1 → w.cell? ⟨b1, off1 + j, none⟩ = some (.int .i64 (nx j))) (hout : ∀ j, len1 ≤ j → nx j = 0) :
    Calls Yba.prog 10 #[.slice (some ⟨b, off, none⟩) n cap, .slice (some ⟨b1, off1, none⟩) len1 cap1, .int .i64 free] w fun e w' =>
      e = .returned (.pointer (some ⟨w.heap.size + 2, 0, none⟩)) ∧ Store w' w.heap.size n (fld z nx n) free ∧ Below w.heap.size w w' := by
  unfold maxLen at hl1
  have hmk := make54 n hn
  go_enter Yba.func10, Yba.ntmps10
  go_wp2
  go_loopw [9] (fun i wr => ∃ k : Nat, k ≤ n ∧ i = .int .i64 k ∧ Slots wr w.heap.size n (fld z nx k) ∧ wr.heap.size = w.heap.size + 1 ∧ Below w.heap.size w wr)
    (fun i _ => n - (intOf i).toNat)
  case atStart => exact ⟨0, Nat.zero_le _, rfl, slots_made w n, by simp, (Below.refl _ _).alloc (Nat.le_refl _) _⟩
  case round =>
    obtain ⟨k, hk, rfl, hs, hsz, hbel⟩ := hrel
    by_cases hlt : k < n
    · have g0 := hs.cell k 0 hlt (by omega)
      have g2 := hs.cell k 2 hlt (by omega)
      have g4 := hs.cell k 4 hlt (by omega)
      have g6 := hs.cell k 6 hlt (by omega)
      have hfz := hs.frozen
      have gz : wr.cell? ⟨b, off + k, none⟩ = some (.int .i64 (z.getD k 0)) := (hbel.cell (p := ⟨b, off + k, none⟩) hb).trans (hc k hlt)
      simp only [Nat.add_zero] at g0
      by_cases hl : k < len1
      · have gn : wr.cell? ⟨b1, off1 + k, none⟩ = some (.int .i64 (nx k)) := (hbel.cell (p := ⟨b1, off1 + k, none⟩) hb1).trans (hin k hl)
        have S := fld_step hs hlt
        clear hc hin hout hmk
        go_wp2
        go_roundw
        case rel => exact ⟨k + 1, by omega, by go_num, S, by simpa [World.setCell] using hsz, (((hbel.setCell (Nat.le_refl _) _).setCell (Nat.le_refl _) _).setCell (Nat.le_refl _) _).setCell (Nat.le_refl _) _⟩
        case measure => simp [intOf]; omega
      · have S := fld_step0 hs hlt (hout k (by omega))
        clear hc hin hout hmk
        go_wp2
        go_roundw
        case rel => exact ⟨k + 1, by omega, by go_num, S, by simpa [World.setCell] using hsz, ((hbel.setCell (Nat.le_refl _) _).setCell (Nat.le_refl _) _).setCell (Nat.le_refl _) _⟩
        case measure => simp [intOf]; omega
    · have hkn : k = n := by omega
      subst hkn
      have ST := store_made free hs hsz
      clear hc hin hout hmk
      go_wp2
      go_ret
      exact ⟨rfl, ST, (hbel.alloc (by omega) _).alloc (by simp; omega) _⟩

theorem build_none (b off n cap : Nat) (z : List Int) (a1 : Option Addr) (cap1 : Nat) (nx : Nat → Int) (free : Int) (w : World) (hn : n ≤ 1024)
    (hb : b < w.heap.size) (hc : ∀ j, j < n → w.cell? ⟨b, off + j, none⟩ = some (.int .i64 (z.getD j 0))) (hout : ∀ j, nx j = 0) :
    Calls Yba.prog 10 #[.slice (some ⟨b, off, none⟩) n cap, .slice a1 0 cap1, .int .i64 free] w fun e w' =>
      e = .returned (.pointer (some ⟨w.heap.size + 2, 0, none⟩)) ∧ Store w' w.heap.size n (fld z nx n) free ∧ Below w.heap.size w w' := by
  have hmk := make54 n hn
  go_enter Yba.func10, Yba.ntmps10
  go_wp2
  go_loopw [9] (fun i wr => ∃ k : Nat, k ≤ n ∧ i = .int .i64 k ∧ Slots wr w.heap.size n (fld z nx k) ∧ wr.heap.size = w.heap.size + 1 ∧ Below w.heap.size w wr)
    (fun i _ => n - (intOf i).toNat)
  case atStart => exact ⟨0, Nat.zero_le _, rfl, slots_made w n, by simp, (Below.refl _ _).alloc (Nat.le_refl _) _⟩
  case round =>
    obtain ⟨k, hk, rfl, hs, hsz, hbel⟩ := hrel
    by_cases hlt : k < n
    · have g0 := hs.cell k 0 hlt (by omega)
      have g2 := hs.cell k 2 hlt (by omega)
      have g4 := hs.cell k 4 hlt (by omega)
      have g6 := hs.cell k 6 hlt (by omega)
      have hfz := hs.frozen
      have gz : wr.cell? ⟨b, off + k, none⟩ = some (.int .i64 (z.getD k 0)) := (hbel.cell (p := ⟨b, off + k, none⟩) hb).trans (hc k hlt)
      simp only [Nat.add_zero] at g0
      have S := fld_step0 hs hlt (hout k)
      clear hc hout hmk
      go_wp2
      go_roundw
      case rel => exact ⟨k + 1, by omega, by go_num, S, by simpa [World.setCell] using hsz, ((hbel.setCell (Nat.le_refl _) _).setCell (Nat.le_refl _) _).setCell (Nat.le_refl _) _⟩
      case measure => simp [intOf]; omega
    · have hkn : k = n := by omega
      subst hkn
      have ST := store_made free hs hsz
      clear hc hout hmk
      go_wp2
      go_ret
      exact ⟨rfl, ST, (hbel.alloc (by omega) _).alloc (by simp; omega) _⟩

end Go.Proofs.Ybulkvrs
