/- The two rows that the law's first loop fills. -/
import Derived.Test.YbulkwawFmtPlain
namespace Go.Proofs.YbulkwawFmt
open Go.RowKit Go.Extern.Stop Go.Stop Go.Extern
set_option linter.unusedVariables false
set_option maxRecDepth 100000
set_option maxHeartbeats 1000000

theorem info42 : (Ybaf.prog.info? 42).map (fun i => (i.zero, i.size, i.bytes)) = some (some .nilIface, 1, 16) := by kernel_rfl
theorem info3 : (Ybaf.prog.info? 3).map (fun i => (i.zero, i.size, i.bytes)) = some (some (.int .i64 0), 1, 8) := by kernel_rfl

theorem row_other {w w' : World} {base g g' n cap : Nat} {e : TypeId} {xs : List Value} (h : w.ownsRow base e 1 (.slice (some ⟨g, 0, none⟩) n cap) n xs) (hg : w.grownBy w' (some g')) (hne : g ≠ g') : w'.ownsRow base e 1 (.slice (some ⟨g, 0, none⟩) n cap) n xs := by
  obtain ⟨h1, h2⟩ := h
  refine ⟨h1, ?_⟩
  rcases h2 with h2 | ⟨q, c, cur, a, hb, hh, d⟩
  · exact .inl h2
  · cases a
    have hlt : g < w.heap.size := (Array.getElem?_eq_some_iff.1 hh).1
    exact .inr ⟨g, cap, cur, rfl, hb, (hg.block g hlt (by simp; omega)).trans hh, d⟩

/-- The kind of the i-th byte. -/
def kd (zs : List Int) (i : Nat) : Nat := (zs.getD i 0 % 10).toNat
def kv (zs : List Int) (j : Nat) : List Value := (List.range j).map fun i => .int .i64 (kd zs i)
theorem kv_succ (zs : List Int) (j : Nat) : kv zs (j + 1) = kv zs j ++ [.int .i64 (kd zs j)] := by simp [kv, List.range_succ]
theorem kv_length (zs : List Int) (j : Nat) : (kv zs j).length = j := by simp [kv]
theorem kd_lt (zs : List Int) (i : Nat) : kd zs i < 10 := by unfold kd; omega

structure Inv1 (w : World) (n0 KB m : Nat) (zs : List Int) (j : Nat) (xs : List Value) (wr : World) : Prop where
  len : xs.length = j
  rowL : wr.ownsRow (n0 + 3) 42 1 (.slice (some ⟨n0 + 3, 0, none⟩) j m) j xs
  rowK : wr.ownsRow (n0 + 3) 3 1 (.slice (some ⟨KB, 0, none⟩) j m) j (kv zs j)
  stm : ∀ i, i < j → IsStm (KB + 1) wr.heap.size n0 (n0 + 1) (n0 + 2) wr (kd zs i) (xs.getD i undef)
  chan : wr.cell? ⟨n0, 4, none⟩ = some (.bool false)
  size : KB + 1 ≤ wr.heap.size
  below : Below n0 w wr
  kb : n0 + 4 ≤ KB

theorem Inv1.next {w : World} {n0 KB m j : Nat} {zs : List Int} {xs : List Value} {wr wa wb wc : World} {x : Value} {o1 o2 : Obj} (hi : Inv1 w n0 KB m zs j xs wr) (hw : w.heap.size = n0)
    (g1 : (wa.alloc o1).grownBy wb (some (n0 + 3))) (r1 : wb.ownsRow (n0 + 3) 42 1 (.slice (some ⟨n0 + 3, 0, none⟩) (j + 1) m) (j + 1) (xs ++ [x]))
    (g2 : (wb.alloc o2).grownBy wc (some (KB))) (r2 : wc.ownsRow (n0 + 3) 3 1 (.slice (some ⟨KB, 0, none⟩) (j + 1) m) (j + 1) (kv zs j ++ [.int .i64 (kd zs j)]))
    (ha : Below wr.heap.size wr wa) (hx : IsStm (KB + 1) wa.heap.size n0 (n0 + 1) (n0 + 2) wa (kd zs j) x) : Inv1 w n0 KB m zs (j + 1) (xs ++ [x]) wc := by
  obtain ⟨hlen, hrL, hrK, hst, hch, hsz, hbl, hkb⟩ := hi
  have hsa := ha.size
  have hs1 := g1.size
  have hs2 := g2.size
  simp only [World.size_alloc] at hs1 hs2
  have hb : ∀ k, k < wa.heap.size → k ≠ n0 + 3 → k ≠ KB → wc.heap[k]? = wa.heap[k]? := by
    intro k hk h3 h4
    have e1 := g1.block k (by simp; omega) (by simp; omega)
    have e2 := g2.block k (by simp; omega) (by simp; omega)
    rw [e2, heap_alloc, if_neg (by omega), e1, heap_alloc, if_neg (by omega)]
  refine ⟨by simp [hlen], ?_, by rw [kv_succ]; exact r2, ?_, ?_, by omega, ?_, hkb⟩
  · exact row_other (r1.alloc o2) g2 (by omega)
  · intro i hij
    by_cases hq : i = j
    · subst hq
      rw [show (xs ++ [x]).getD i undef = x by simp [← hlen]]
      exact hx.keep (kd_lt zs i) (by omega) (fun k h1 h2 => hb k h2 (by omega) (by omega))
    · have hij' : i < j := by omega
      rw [show (xs ++ [x]).getD i undef = xs.getD i undef by rw [List.getD_eq_getElem?_getD, List.getD_eq_getElem?_getD, List.getElem?_append_left (by omega)]]
      exact (hst i hij').keep (kd_lt zs i) (by omega) (fun k h1 h2 => (hb k (by omega) (by omega) (by omega)).trans (ha.block k h2))
  · exact (World.cell?_of_block (w := wr) (a := ⟨n0, 4, none⟩) ((hb n0 (by omega) (by omega) (by omega)).trans (ha.block n0 (by omega)))).trans hch
  · refine ⟨?_, ?_, ?_, by omega, fun k hk => ?_⟩
    · rw [g2.os]; show wb.os = _; rw [g1.os]; show wa.os = _; rw [ha.os, hbl.os]
    · rw [g2.tape]; show wb.tape = _; rw [g1.tape]; show wa.tape = _; rw [ha.tape, hbl.tape]
    · rw [g2.output]; show wb.output = _; rw [g1.output]; show wa.output = _; rw [ha.output, hbl.output]
    · exact ((hb k (by omega) (by omega) (by omega)).trans (ha.block k (by omega))).trans (hbl.block k hk)

theorem new_body_at (F : Interp) (p1 p2 : Value) (q : Nat) (hp1 : ∃ a, p1 = .pointer a) (hp2 : ∃ a, p2 = .pointer a) (w : World) (hF : F.told.answers w.tape) (h : Nat) (hh : w.heap.size = h) : Calls Ybaf.prog 4 #[p1, p2, .map (some q)] w fun e w' => e = .returned (.pointer (some ⟨h + 8, 0, none⟩)) ∧ SG F h G.start w' ∧ Below h w w' := by
  subst hh
  exact new_body F p1 p2 q hp1 hp2 w hF

theorem new_namer_at (p : ByteArray) (w : World) : Calls Ybaf.prog 5 #[.string p] w fun e w' => ∃ a, e = .returned (.pointer (some ⟨a, 0, none⟩)) ∧ Below w.heap.size w w' :=
  (new_namer p w).mono fun e w' ⟨h1, h2⟩ => ⟨_, h1, by
    rw [h2]
    refine (((Below.refl _ _).alloc ?_ _).alloc ?_ _).alloc ?_ _ <;> simp <;> omega⟩

theorem run_keys (lB tB : Nat) (ks : List Nat) (xs : List Value) : ∀ i, Keys (runG lB tB ks xs i).st (runG lB tB ks xs i).n
  | 0 => fun p hp => by cases hp
  | i + 1 => by
    have ih := run_keys lB tB ks xs i
    simp only [runG]
    generalize runG lB tB ks xs i = g at ih
    unfold stepG
    split <;> first | exact ih.snoc _ | exact ih | exact ih.more (Nat.le_succ _) | exact ih.more (Nat.le_add_right _ _)

theorem run_len (lB tB : Nat) (ks : List Nat) (xs : List Value) : ∀ i, (runG lB tB ks xs i).st.length ≤ i
  | 0 => Nat.le_refl _
  | i + 1 => by
    have ih := run_len lB tB ks xs i
    simp only [runG]
    generalize runG lB tB ks xs i = g at ih
    unfold stepG
    split <;> simp <;> omega

def kl (zs : List Int) (m : Nat) : List Nat := (List.range m).map (kd zs)
theorem kl_get (zs : List Int) (m i : Nat) (h : i < m) : (kl zs m).getD i 0 = kd zs i := by
  simp [kl, h]
theorem kv_get (zs : List Int) (m i : Nat) (h : i < m) : (kv zs m)[i]? = some (.int .i64 (kd zs i)) := by
  simp [kv, h]
end Go.Proofs.YbulkwawFmt
