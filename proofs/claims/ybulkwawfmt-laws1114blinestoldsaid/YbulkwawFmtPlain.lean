/- Plain facts on what the body holds; the walks of 'newNamer' and 'newBody'. -/
import Derived.Test.YbulkwawFmtStmts
namespace Go.Proofs.YbulkwawFmt
open Go.RowKit Go.Extern.Stop Go.Stop Go.Extern
set_option linter.unusedVariables false
set_option maxRecDepth 100000
set_option maxHeartbeats 1000000

/-- 'continued', 'left' and 'numbers' go together. -/
def NC (lB tB : Nat) (g : G) : Prop :=
  (g.cont = [] ∧ g.left = [] ∧ g.nums = []) ∨
  (g.cont = [(ptr lB, .bool true)] ∧ g.left = [] ∧ g.nums = [(stm 30 lB, .int .i64 1)]) ∨
  (g.cont = [] ∧ g.left = [(stm 36 tB, .bool true)] ∧ g.nums = [(stm 36 tB, .int .i64 1)]) ∨
  (g.cont = [(ptr lB, .bool true)] ∧ g.left = [(stm 36 tB, .bool true)] ∧ (g.nums = [(stm 30 lB, .int .i64 1), (stm 36 tB, .int .i64 2)] ∨ g.nums = [(stm 36 tB, .int .i64 1), (stm 30 lB, .int .i64 2)]))

theorem NC.step {lB tB : Nat} {g : G} (hg : NC lB tB g) (k : Nat) (x : Value) : NC lB tB (stepG lB tB g k x) := by
  unfold stepG
  split <;> try exact hg
  · rcases hg with ⟨a, b, c⟩ | ⟨a, b, c⟩ | ⟨a, b, c⟩ | ⟨a, b, c | c⟩
    · exact .inr (.inl ⟨rfl, b, by show addNum 30 lB g.nums = _; rw [c]; rfl⟩)
    · exact .inr (.inl ⟨rfl, b, by show addNum 30 lB g.nums = _; rw [c]; rfl⟩)
    · exact .inr (.inr (.inr ⟨rfl, b, .inr (by show addNum 30 lB g.nums = _; rw [c]; rfl)⟩))
    · exact .inr (.inr (.inr ⟨rfl, b, .inl (by show addNum 30 lB g.nums = _; rw [c]; rfl)⟩))
    · exact .inr (.inr (.inr ⟨rfl, b, .inr (by show addNum 30 lB g.nums = _; rw [c]; rfl)⟩))
  · rcases hg with ⟨a, b, c⟩ | ⟨a, b, c⟩ | ⟨a, b, c⟩ | ⟨a, b, c | c⟩
    · exact .inr (.inr (.inl ⟨a, rfl, by show addNum 36 tB g.nums = _; rw [c]; rfl⟩))
    · exact .inr (.inr (.inr ⟨a, rfl, .inl (by show addNum 36 tB g.nums = _; rw [c]; rfl)⟩))
    · exact .inr (.inr (.inl ⟨a, rfl, by show addNum 36 tB g.nums = _; rw [c]; rfl⟩))
    · exact .inr (.inr (.inr ⟨a, rfl, .inl (by show addNum 36 tB g.nums = _; rw [c]; rfl)⟩))
    · exact .inr (.inr (.inr ⟨a, rfl, .inr (by show addNum 36 tB g.nums = _; rw [c]; rfl)⟩))

theorem run_NC (lB tB : Nat) (ks : List Nat) (xs : List Value) : ∀ i, NC lB tB (runG lB tB ks xs i)
  | 0 => .inl ⟨rfl, rfl, rfl⟩
  | i + 1 => (run_NC lB tB ks xs i).step _ _

def G.c (g : G) : Bool := !g.cont.isEmpty
def G.b (g : G) : Bool := !g.left.isEmpty

theorem NC.len {lB tB : Nat} {g : G} (hg : NC lB tB g) : g.nums.length = (if g.c then 1 else 0) + (if g.b then 1 else 0) := by
  rcases hg with ⟨a, b, c⟩ | ⟨a, b, c⟩ | ⟨a, b, c⟩ | ⟨a, b, c | c⟩ <;> simp [G.c, G.b, a, b, c]

theorem step_st (lB tB : Nat) (g : G) (k : Nat) (x : Value) : ∃ tl, (stepG lB tB g k x).st = g.st ++ tl := by
  unfold stepG
  split <;> first | exact ⟨_, rfl⟩ | exact ⟨[], by simp⟩
theorem run_st (lB tB : Nat) (ks : List Nat) (xs : List Value) (i : Nat) : ∀ d, ∃ tl, (runG lB tB ks xs (i + d)).st = (runG lB tB ks xs i).st ++ tl
  | 0 => ⟨[], by simp⟩
  | d + 1 => by
    obtain ⟨tl, h1⟩ := run_st lB tB ks xs i d
    obtain ⟨tl2, h2⟩ := step_st lB tB (runG lB tB ks xs (i + d)) (ks.getD (i + d) 0) (xs.getD (i + d) undef)
    exact ⟨tl ++ tl2, by rw [← Nat.add_assoc, runG, h2, h1, List.append_assoc]⟩

theorem find_append {eq : Value → Bool} : ∀ (a b : Prs) (i : Nat), find eq a i = none → find eq (a ++ b) i = find eq b (i + a.length)
  | [], b, i, _ => by simp
  | p :: a, b, i, h => by
    simp only [find] at h
    split at h
    · cases h
    · rename_i hp
      simp only [List.cons_append, find, hp]
      rw [if_neg (by simp), find_append a b (i + 1) h]
      simp
      congr 1
      omega

/-- The line of the i-th statement stands for it. -/
theorem stands_at (lB tB : Nat) (ks : List Nat) (xs : List Value) (i m : Nat) (him : i < m) (hk : ks.getD i 0 = 0 ∨ ks.getD i 0 = 1 ∨ ks.getD i 0 = 3) (hKeys : Keys (runG lB tB ks xs i).st (runG lB tB ks xs i).n) :
    ∃ j, find (isInt ((runG lB tB ks xs i).n : Int)) (runG lB tB ks xs m).st 0 = some (j, xs.getD i undef) := by
  obtain ⟨tl, h1⟩ := run_st lB tB ks xs (i + 1) (m - (i + 1))
  rw [show i + 1 + (m - (i + 1)) = m by omega] at h1
  have h2 : (runG lB tB ks xs (i + 1)).st = (runG lB tB ks xs i).st ++ [(.int .i64 (runG lB tB ks xs i).n, xs.getD i undef)] := by
    rw [runG]
    rcases hk with q | q | q <;> rw [q] <;> rfl
  rw [h1, h2, List.append_assoc, find_append _ _ _ (new_key _ _ hKeys)]
  exact ⟨0 + (runG lB tB ks xs i).st.length, by simp [find, isInt]⟩

theorem new_namer (p : ByteArray) (w : World) : Calls Ybaf.prog 5 #[.string p] w fun e w' => e = .returned (.pointer (some ⟨w.heap.size + 2, 0, none⟩)) ∧
    w' = ((w.alloc (.map #[] 0)).alloc (.map #[] 0)).alloc (.cells #[.string p, .map (some w.heap.size), .map (some (w.heap.size + 1))] 95) := by
  have hmm := @run_makeMap Ybaf.prog
  go_enter Ybaf.func5, Ybaf.ntmps5
  go_wp2
  go_ret
  exact ⟨rfl, rfl⟩

theorem heap_alloc (w : World) (o : Obj) (k : Nat) : (w.alloc o).heap[k]? = if k = w.heap.size then some o else w.heap[k]? := by
  show (w.heap.push o)[k]? = _
  rw [Array.getElem?_push]

theorem new_body (F : Interp) (p1 p2 : Value) (q : Nat) (hp1 : ∃ a, p1 = .pointer a) (hp2 : ∃ a, p2 = .pointer a) (w : World) (hF : F.told.answers w.tape) : Calls Ybaf.prog 4 #[p1, p2, .map (some q)] w fun e w' => e = .returned (.pointer (some ⟨w.heap.size + 8, 0, none⟩)) ∧ SG F w.heap.size G.start w' ∧ Below w.heap.size w w' := by
  obtain ⟨a1, rfl⟩ := hp1
  obtain ⟨a2, rfl⟩ := hp2
  have hmm := @run_makeMap Ybaf.prog
  go_enter Ybaf.func4, Ybaf.ntmps4
  go_wp2_with fail
  refine (new_namer _ _).mono ?_
  rintro e w1 ⟨rfl, hw1⟩
  have hs1 : w1.heap.size = w.heap.size + 3 := by rw [hw1]; simp
  go_wp2
  subst hw1
  go_ret
  refine ⟨rfl, ⟨⟨.pointer a1, .pointer a2, .map (some q), .slice none 0 0, [], ?_, ⟨rfl, .inl ⟨rfl, rfl⟩⟩⟩, ⟨.string ⟨#[99, 104, 95]⟩, .map (some (w.heap.size + 1)), ?_⟩, ⟨#[], 0, ?_, rfl⟩, ⟨#[], 0, ?_, rfl⟩, ⟨#[], 0, ?_, rfl⟩, ⟨#[], 0, ?_, rfl⟩, ⟨#[], 0, ?_, rfl⟩, ?_, hF⟩, ?_⟩
  rotate_right
  · refine (((((((((Below.refl _ _).alloc ?_ _).alloc ?_ _).alloc ?_ _).alloc ?_ _).alloc ?_ _).alloc ?_ _).alloc ?_ _).alloc ?_ _).alloc ?_ _ <;> simp <;> omega
  rotate_right
  · simp
  all_goals (simp only [heap_alloc, World.size_alloc]; (repeat (first | rw [if_pos (by first | trivial | omega)] | rw [if_neg (by omega)])); try first | rfl | (simp; done))
end Go.Proofs.YbulkwawFmt
