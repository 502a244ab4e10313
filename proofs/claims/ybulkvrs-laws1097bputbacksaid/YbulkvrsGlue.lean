/- The contracts in the form in which the laws take them. -/
import Derived.Test.YbulkvrsTake
namespace Go.Proofs.Ybulkvrs
open Go.RowKit
set_option linter.unusedVariables false

/-- What a caller knows of 'nexts': the link of slot j is nx j. -/
def NextOk (w : World) (a1 : Option Addr) (len1 : Nat) (nx : Nat → Int) : Prop :=
  (∀ j, len1 ≤ j → nx j = 0) ∧ (len1 = 0 ∨ ∃ b1 off1, a1 = some ⟨b1, off1, none⟩ ∧ b1 < w.heap.size ∧ ∀ j, j < len1 → w.cell? ⟨b1, off1 + j, none⟩ = some (.int .i64 (nx j)))

theorem NextOk.below {w w' : World} {a1 : Option Addr} {len1 : Nat} {nx : Nat → Int} (h : NextOk w a1 len1 nx) (hb : Below w.heap.size w w') : NextOk w' a1 len1 nx := by
  obtain ⟨h0, h1⟩ := h
  refine ⟨h0, ?_⟩
  rcases h1 with h1 | ⟨b1, off1, e, hlt, hc⟩
  · exact .inl h1
  · exact .inr ⟨b1, off1, e, Nat.lt_of_lt_of_le hlt hb.size, fun j hj => (hb.cell (p := ⟨b1, off1 + j, none⟩) hlt).trans (hc j hj)⟩

theorem next_any (a1 : Option Addr) (len1 cap1 : Nat) (nx : Nat → Int) (i : Nat) (w : World) (h : NextOk w a1 len1 nx) :
    Calls Yba.prog 12 #[.slice a1 len1 cap1, .int .i64 i] w fun e w' => e = .returned (.int .i64 (nx i)) ∧ w' = w := by
  obtain ⟨h0, h1⟩ := h
  by_cases hi : i < len1
  · rcases h1 with h1 | ⟨b1, off1, rfl, hlt, hc⟩
    · omega
    · exact next_in b1 off1 len1 cap1 i (nx i) w hi (hc i hi)
  · rw [h0 i (by omega)]
    exact next_out a1 len1 cap1 i w (by omega)

theorem build_any (b off n cap : Nat) (z : List Int) (a1 : Option Addr) (len1 cap1 : Nat) (nx : Nat → Int) (free : Int) (w : World) (hn : n ≤ 1024) (hl1 : len1 ≤ maxLen)
    (hb : b < w.heap.size) (hc : ∀ j, j < n → w.cell? ⟨b, off + j, none⟩ = some (.int .i64 (z.getD j 0))) (hN : NextOk w a1 len1 nx) :
    Calls Yba.prog 10 #[.slice (some ⟨b, off, none⟩) n cap, .slice a1 len1 cap1, .int .i64 free] w fun e w' =>
      e = .returned (.pointer (some ⟨w.heap.size + 2, 0, none⟩)) ∧ Store w' w.heap.size n (fun j f => sf (z.getD j 0) j j (nx j) f) free ∧ Below w.heap.size w w' := by
  have conv : ∀ w', Store w' w.heap.size n (fld z nx n) free → Store w' w.heap.size n (fun j f => sf (z.getD j 0) j j (nx j) f) free := by
    intro w' h
    obtain ⟨hs, r⟩ := h
    exact ⟨hs.congr fun j f hj hf => by simp [fld, hj], by assumption, by assumption, by assumption, by assumption, by assumption, by assumption, by assumption⟩
  obtain ⟨h0, h1⟩ := hN
  rcases h1 with rfl | ⟨b1, off1, rfl, hlt, hcn⟩
  · exact (build_none b off n cap z a1 cap1 nx free w hn hb hc (fun j => h0 j (Nat.zero_le _))).mono fun e w' ⟨h1, h2, h3⟩ => ⟨h1, conv _ h2, h3⟩
  · exact (build_some b off n cap z b1 off1 len1 cap1 nx free w hn hl1 hb hc hlt hcn h0).mono fun e w' ⟨h1, h2, h3⟩ => ⟨h1, conv _ h2, h3⟩

/-- 'take' at a plain number k: slot i = k - 1. -/
theorem take_at (B n i : Nat) (k : Int) (X A K N : Nat → Int) (free : Int) (w : World) (hk : k = (i : Int) + 1) (hi : i < n) (hn : n ≤ 1024)
    (h : Store w B n (fun j f => sf (X j) (A j) (K j) (N j) f) free) :
    Calls Yba.prog 11 #[.pointer (some ⟨B + 2, 0, none⟩), .int .i64 k] w fun e w' =>
      e = .returned (.tuple #[.agg #[.int .i64 (X i), .int .u64 0, .int .i64 (A i), .int .i64 0, .int .u32 (K i), .bool false], .int .i64 (N i)]) ∧
      Store w' B n (fun j f => sf (X j) (A j) (K j) (if j = i then free else N j) f) k ∧ Below B w w' := by
  subst hk
  refine (take_any B n i _ free (X i) (A i) (K i) (N i) w hi hn h (fun f hf => rfl)).mono fun e w' ⟨h1, h2, h3⟩ => ⟨h1, ?_, h3⟩
  obtain ⟨hs, r⟩ := h2
  refine ⟨hs.congr fun j f hj hf => ?_, by assumption, by assumption, by assumption, by assumption, by assumption, by assumption, by assumption⟩
  by_cases e : j = i
  · subst e
    rcases f7 f hf with rfl | rfl | rfl | rfl | rfl | rfl | rfl <;> simp [sf]
  · simp [e]

end Go.Proofs.Ybulkvrs
