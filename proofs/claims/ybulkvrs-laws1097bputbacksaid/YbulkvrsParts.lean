/- Plain facts on memory for the store's rows of slots (seven cells a slot). -/
import Derived.Test.YbulkvrsRows
import Derived.WalkKit
import Derived.ProofKit
namespace Go.Proofs.Ybulkvrs
open Go.RowKit

/-- A row of n slots of seven cells each in block B: cell f of slot j holds C j f; nothing of it is frozen. -/
structure Slots (w : World) (B n : Nat) (C : Nat → Nat → Value) : Prop where
  cell : ∀ j f, j < n → f < 7 → w.cell? ⟨B, j * 7 + f, none⟩ = some (C j f)
  frozen : ∀ o, w.frozen? ⟨B, o, none⟩ = false

theorem Slots.congr {w : World} {B n : Nat} {C D : Nat → Nat → Value} (h : Slots w B n C) (e : ∀ j f, j < n → f < 7 → C j f = D j f) : Slots w B n D :=
  ⟨fun j f hj hf => by rw [h.cell j f hj hf, e j f hj hf], h.frozen⟩

theorem Slots.set {w : World} {B n : Nat} {C : Nat → Nat → Value} (h : Slots w B n C) (j0 f0 : Nat) (hj : j0 < n) (hf : f0 < 7) (v : Value) :
    Slots (w.setCell ⟨B, j0 * 7 + f0, none⟩ v) B n (fun j f => if j = j0 ∧ f = f0 then v else C j f) := by
  refine ⟨fun j f hj' hf' => ?_, fun o => by rw [World.frozen?_setCell]; exact h.frozen o⟩
  by_cases e : j = j0 ∧ f = f0
  · obtain ⟨rfl, rfl⟩ := e
    simp only [and_self, if_true]
    exact World.cell?_setCell_same _ _ _ (h.cell j f hj hf)
  · rw [if_neg e, World.cell?_setCell_other]
    · exact h.cell j f hj' hf'
    · intro q
      apply e
      simp only [Addr.mk.injEq, true_and, and_true] at q
      omega

theorem Slots.far {w : World} {B n : Nat} {C : Nat → Nat → Value} (h : Slots w B n C) (p : Addr) (hp : p.block ≠ B) (v : Value) : Slots (w.setCell p v) B n C := by
  refine ⟨fun j f hj hf => ?_, fun o => by rw [World.frozen?_setCell]; exact h.frozen o⟩
  rw [World.cell?_setCell_other]
  · exact h.cell j f hj hf
  · intro q
    exact hp (by rw [q])

theorem Slots.below {w w' : World} {B n : Nat} {C : Nat → Nat → Value} (h : Slots w B n C) {b : Nat} (hb : Below b w w') (hB : B < b) : Slots w' B n C :=
  ⟨fun j f hj hf => (hb.cell (p := ⟨B, j * 7 + f, none⟩) hB).trans (h.cell j f hj hf), fun o => (hb.frozen (p := ⟨B, o, none⟩) hB).trans (h.frozen o)⟩

def zero7 : Array Value := #[.int .i64 0, .int .u64 0, .int .i64 0, .int .i64 0, .int .u32 0, .bool false, .int .i64 0]

/-- The seven cells of a slot. -/
def sf (x a : Int) (k nx : Int) : Nat → Value
  | 0 => .int .i64 x
  | 1 => .int .u64 0
  | 2 => .int .i64 a
  | 3 => .int .i64 0
  | 4 => .int .u32 k
  | 5 => .bool false
  | _ => .int .i64 nx

theorem made_at (n j f : Nat) (hj : j < n) (hf : f < 7) : (madeCells zero7 (n * 7))[j * 7 + f]? = some (sf 0 0 0 0 f) := by
  have h1 : j * 7 + f < n * 7 := by omega
  have h2 : (j * 7 + f) % 7 = f := by omega
  simp only [madeCells, Array.getElem?_map]
  rw [Array.getElem?_range, if_pos h1]
  have e : zero7.size = 7 := rfl
  simp only [Option.map_some, e, h2]
  match f, hf with
  | 0, _ => rfl
  | 1, _ => rfl
  | 2, _ => rfl
  | 3, _ => rfl
  | 4, _ => rfl
  | 5, _ => rfl
  | 6, _ => rfl

theorem slots_made (w : World) (n : Nat) : Slots (w.alloc (.cells (madeCells zero7 (n * 7)) 56)) w.heap.size n (fun _ f => sf 0 0 0 0 f) :=
  ⟨fun j f hj hf => by rw [World.cell?_alloc_at _ _ _ _ rfl]; exact made_at n j f hj hf, fun o => World.frozen?_alloc_at _ _ _ _ rfl⟩

theorem info56 : (Yba.prog.info? 56).map (fun i => (i.zero.map Value.cells, i.size, i.bytes)) = some (some zero7, 7, 48) := by kernel_rfl

theorem make54 (n : Nat) (hn : n ≤ 1024) (w : World) : (Instr.makeSlice 54 (.int .i64 (n : Int)) (.int .i64 (n : Int))).run Yba.prog w = .ok (.slice (some ⟨w.heap.size, 0, none⟩) n n) (w.alloc (.cells (madeCells zero7 (n * 7)) 56)) := by
  have h := info56
  cases hi : Yba.prog.info? 56 with
  | none => rw [hi] at h; cases h
  | some i =>
    rw [hi] at h
    simp only [Option.map_some, Option.some.injEq, Prod.mk.injEq] at h
    obtain ⟨hz, hs, hb⟩ := h
    cases hz' : i.zero with
    | none => rw [hz'] at hz; cases hz
    | some z =>
      rw [hz'] at hz
      simp only [Option.map_some, Option.some.injEq] at hz
      have hr := run_make (P := Yba.prog) w 54 56 i z Yba.underlying54 hi hz' .i64 .i64 n n (by omega) (Int.le_refl _) (by rw [hb]; omega) (by omega)
      rw [hr, hz, hs]
      simp

/-- What the loop of 'build' has laid after k rounds: the slots below k are filled, the others are zero. -/
def fld (z : List Int) (nx : Nat → Int) (k j f : Nat) : Value :=
  if j < k then sf (z.getD j 0) j j (nx j) f else sf 0 0 0 0 f

theorem f7 (f : Nat) (h : f < 7) : f = 0 ∨ f = 1 ∨ f = 2 ∨ f = 3 ∨ f = 4 ∨ f = 5 ∨ f = 6 := by omega

/-- A round of 'build' where 'nexts' has an element. -/
theorem fld_step {w : World} {B n : Nat} {z : List Int} {nx : Nat → Int} {k : Nat} (h : Slots w B n (fld z nx k)) (hk : k < n) :
    Slots ((((w.setCell ⟨B, k * 7, none⟩ (.int .i64 (z.getD k 0))).setCell ⟨B, k * 7 + 4, none⟩ (.int .u32 k)).setCell ⟨B, k * 7 + 2, none⟩ (.int .i64 k)).setCell ⟨B, k * 7 + 6, none⟩ (.int .i64 (nx k))) B n (fld z nx (k + 1)) := by
  refine ((((h.set k 0 hk (by omega) _).set k 4 hk (by omega) _).set k 2 hk (by omega) _).set k 6 hk (by omega) _).congr ?_
  intro j f hj hf
  by_cases e : j = k
  · subst e
    rcases f7 f hf with rfl | rfl | rfl | rfl | rfl | rfl | rfl <;> simp [fld, sf]
  · have e1 : (j < k + 1) = (j < k) := by simp; omega
    simp [e, fld, e1]

/-- A round where it has none: the link stays zero. -/
theorem fld_step0 {w : World} {B n : Nat} {z : List Int} {nx : Nat → Int} {k : Nat} (h : Slots w B n (fld z nx k)) (hk : k < n) (hz : nx k = 0) :
    Slots (((w.setCell ⟨B, k * 7, none⟩ (.int .i64 (z.getD k 0))).setCell ⟨B, k * 7 + 4, none⟩ (.int .u32 k)).setCell ⟨B, k * 7 + 2, none⟩ (.int .i64 k)) B n (fld z nx (k + 1)) := by
  refine (((h.set k 0 hk (by omega) _).set k 4 hk (by omega) _).set k 2 hk (by omega) _).congr ?_
  intro j f hj hf
  by_cases e : j = k
  · subst e
    rcases f7 f hf with rfl | rfl | rfl | rfl | rfl | rfl | rfl <;> simp [fld, sf, hz]
  · have e1 : (j < k + 1) = (j < k) := by simp; omega
    simp [e, fld, e1]

end Go.Proofs.Ybulkvrs
