/- Plain facts on memory, and laws on 'append' in the form in which the walks take them. -/
import Derived.Test.YbulkvsuFmtRows
import Derived.WalkKit
import Derived.ProofKit
import Derived.OpenShut
import Derived.WalkSpells
import Derived.WalkLawsBesides
import Derived.WalkSmall
import Derived.Outline
import Derived.Laws.BytesArg
namespace Go.Proofs.YbulkvsuFmt
open Go.RowKit
set_option linter.unusedVariables false

theorem info5 : (Ybaf.prog.info? 5).map (fun i => (i.zero, i.size, i.bytes)) = some (some (.int .u8 0), 1, 1) := by kernel_rfl
theorem info26 : (Ybaf.prog.info? 26).map (fun i => (i.zero, i.size, i.bytes)) = some (some (.int .u16 0), 1, 2) := by kernel_rfl

/-- Below block b nothing but block L has turned. -/
structure But (L b : Nat) (w w' : World) : Prop where
  os : w'.os = w.os
  tape : w'.tape = w.tape
  output : w'.output = w.output
  size : w.heap.size ≤ w'.heap.size
  block : ∀ k, k < b → k ≠ L → w'.heap[k]? = w.heap[k]?

theorem But.refl (L b : Nat) (w : World) : But L b w w := ⟨rfl, rfl, rfl, Nat.le_refl _, fun _ _ _ => rfl⟩
theorem But.trans {L b : Nat} {x y z : World} (h : But L b x y) (k : But L b y z) : But L b x z :=
  ⟨k.os.trans h.os, k.tape.trans h.tape, k.output.trans h.output, Nat.le_trans h.size k.size, fun i hi hn => (k.block i hi hn).trans (h.block i hi hn)⟩
theorem But.mono {L b b' : Nat} {w w' : World} (h : But L b w w') (hb : b' ≤ b) : But L b' w w' := ⟨h.os, h.tape, h.output, h.size, fun k hk hn => h.block k (by omega) hn⟩
theorem But.below {L b B : Nat} {w w' : World} (h : But L b w w') (h1 : B ≤ L) (h2 : B ≤ b) : Below B w w' :=
  ⟨h.os, h.tape, h.output, h.size, fun k hk => h.block k (by omega) (by omega)⟩
theorem But.of_below {L b : Nat} {w w' : World} (h : Below b w w') : But L b w w' := ⟨h.os, h.tape, h.output, h.size, fun k hk _ => h.block k hk⟩
theorem But.cell {L b : Nat} {w w' : World} (h : But L b w w') {p : Addr} (hp : p.block < b) (hn : p.block ≠ L) : w'.cell? p = w.cell? p := World.cell?_of_block (w := w) (h.block p.block hp hn)
theorem But.frozen {L b : Nat} {w w' : World} (h : But L b w w') {p : Addr} (hp : p.block < b) (hn : p.block ≠ L) : w'.frozen? p = w.frozen? p := World.frozen?_of_block (w := w) (h.block p.block hp hn)
theorem But.set {L b : Nat} {w : World} (o : Nat) (v : Value) : But L b w (w.setCell ⟨L, o, none⟩ v) :=
  ⟨rfl, rfl, rfl, by simp [World.setCell], fun k hk hn => Below.heap_setCell _ _ _ _ hn⟩

theorem own_ne {w : World} {base : Nat} {e : TypeId} {size : Nat} {v : Value} {n : Nat} {xs : List Value} (h : w.ownsRow base e size v n xs) {k : Nat} (hk : k < base) : some k ≠ v.ownBlock := by
  intro q
  have := (h.lt k q.symm).1
  omega

theorem below_of_grown {w w' : World} {base : Nat} {e : TypeId} {size : Nat} {v : Value} {n : Nat} {xs : List Value} (h : w.ownsRow base e size v n xs) (hg : w.grownBy w' v.ownBlock) (hb : base ≤ w.heap.size) : Below base w w' :=
  ⟨hg.os, hg.tape, hg.output, hg.size, fun k hk => hg.block k (by omega) (own_ne h hk)⟩

theorem ownsRow_base {w : World} {base base' : Nat} {e : TypeId} {size : Nat} {v : Value} {n : Nat} {xs : List Value} (h : w.ownsRow base e size v n xs) (hb : base' ≤ base) : w.ownsRow base' e size v n xs := by
  obtain ⟨h1, h2⟩ := h
  refine ⟨h1, ?_⟩
  rcases h2 with h2 | ⟨g, cap, cur, a, b, c⟩
  · exact .inl h2
  · exact .inr ⟨g, cap, cur, a, by omega, c⟩

/-- The cells of a literal block that was just laid. -/
theorem cells_new (w : World) (b : Nat) (hb : b = w.heap.size) (cs : Array Value) (t : TypeId) : ∀ j u, cs.toList[j]? = some u → (w.alloc (.cells cs t)).cell? ((⟨b, 0, none⟩ : Addr).add j) = some u := by
  intro j u h
  have e : (⟨b, 0, none⟩ : Addr).add j = ⟨b, j, none⟩ := by simp [Addr.add]; omega
  rw [e, World.cell?_alloc_at _ _ _ _ hb]
  simpa using h

/-- 'append(b, ..)' of at least one element onto a row of the call's own: the new slice's shape written out. -/
theorem wpList_append_news {P : Program} (w : World) {ops : Array Oper} {rest : List Oper} {o : Oper} {a : Act} {Q : Exit → Act → World → Prop} (hgd : o.guard = none) (s x : Operand) (t : TypeId)
    (ho : o.op = .call { callee := .builtin .append, args := #[s, x], argTypes := #[t, t] })
    (base : Nat) (e : TypeId) (i : TypeInfo) (z : Value) (bytes : Nat) (ht : P.underlying t = some (.slice e)) (hi : P.info? e = some i) (hz : i.zero = some z)
    (hsize : i.size = 1) (hby : i.bytes = bytes) (hzs : z.cells.size = 1) (v : Value) (n : Nat) (xs : List Value) (hs : a.eval s = v) (hown : w.ownsRow base e 1 v n xs)
    (ad : Addr) (m c : Nat) (news : List Value) (hx : a.eval x = .slice (some ad) m c) (hl : news.length = m) (hnews : ∀ j u, news[j]? = some u → w.cell? (ad.add j) = some u) (h1 : ∀ u ∈ news, u.oneCell' = true) (hm : 0 < m)
    (h63 : n + m ≤ maxLen) (hbytes : (n + m) * bytes ≤ 140737488355328) (hbase : base ≤ w.heap.size)
    (h : ∀ g cap w', w'.ownsRow base e 1 (.slice (some ⟨g, 0, none⟩) (n + m) cap) (n + m) (xs ++ news) → Below base w w' → wpList P ops Q rest (a.put o.dst (.slice (some ⟨g, 0, none⟩) (n + m) cap)) w') : wpList P ops Q (o :: rest) a w := by
  refine wpList_append_own w hgd s x t ho base e i z 1 bytes ht hi hz hsize hby hzs (by decide) v n xs hs hown ad m c news hx (by omega) hnews h1 h63 hbytes hbase ?_
  intro v' w' hown' hgrow _
  rcases hown'.2 with ⟨_, h0⟩ | ⟨g, cap, cur, hv, _⟩
  · omega
  · rw [hv] at hown' ⊢
    exact h g cap w' hown' (below_of_grown hown hgrow hbase)

/-- 'append(b, ..)' onto a full slice: a new row. -/
theorem wpList_append_full {P : Program} (w : World) {ops : Array Oper} {rest : List Oper} {o : Oper} {a : Act} {Q : Exit → Act → World → Prop} (hgd : o.guard = none) (s x : Operand) (t : TypeId)
    (ho : o.op = .call { callee := .builtin .append, args := #[s, x], argTypes := #[t, t] })
    (e : TypeId) (i : TypeInfo) (z : Value) (bytes : Nat) (ht : P.underlying t = some (.slice e)) (hi : P.info? e = some i) (hz : i.zero = some z)
    (hsize : i.size = 1) (hby : i.bytes = bytes) (hzs : z.cells.size = 1) (g0 n : Nat) (xs : List Value) (hs : a.eval s = .slice (some ⟨g0, 0, none⟩) n n) (hxl : xs.length = n) (hxc : ∀ j u, xs[j]? = some u → w.cell? ⟨g0, j, none⟩ = some u)
    (ad : Addr) (m c : Nat) (news : List Value) (hx : a.eval x = .slice (some ad) m c) (hl : news.length = m) (hnews : ∀ j u, news[j]? = some u → w.cell? (ad.add j) = some u) (h1 : ∀ u ∈ news, u.oneCell' = true) (hm : 0 < m)
    (h63 : n + m ≤ maxLen) (hbytes : (n + m) * bytes ≤ 140737488355328)
    (h : ∀ g cap w', w'.ownsRow w.heap.size e 1 (.slice (some ⟨g, 0, none⟩) (n + m) cap) (n + m) (xs ++ news) → Below w.heap.size w w' → wpList P ops Q rest (a.put o.dst (.slice (some ⟨g, 0, none⟩) (n + m) cap)) w') : wpList P ops Q (o :: rest) a w := by
  refine wpList_append_grows w hgd s x t ho e i z 1 bytes ht hi hz hsize hby hzs (by decide) (some ⟨g0, 0, none⟩) n n xs hs (fun q => by cases q) (by omega) ?_ ad m c news hx (by omega) hnews h1 (by omega) h63 hbytes ?_
  · intro b hb j u hj
    cases hb
    have e : (⟨g0, 0, none⟩ : Addr).add j = ⟨g0, j, none⟩ := by simp [Addr.add]; omega
    rw [e]
    exact hxc j u hj
  intro v' w' hown' hgrow
  rcases hown'.2 with ⟨_, h0⟩ | ⟨g, cap, cur, hv, _⟩
  · omega
  · rw [hv] at hown' ⊢
    exact h g cap w' hown' ⟨hgrow.os, hgrow.tape, hgrow.output, hgrow.size, fun k hk => hgrow.block k hk (by simp)⟩

/-- Bytes as cells. -/
def B8 (xs : List Int) : List Value := xs.map (Value.int .u8)
theorem B8_append (xs ys : List Int) : B8 (xs ++ ys) = B8 xs ++ B8 ys := by simp [B8]
theorem B8_length (xs : List Int) : (B8 xs).length = xs.length := by simp [B8]
theorem B8_one (xs : List Int) : ∀ u ∈ B8 xs, u.oneCell' = true := ints_oneCell .u8 xs
theorem B8_get (xs : List Int) (j : Nat) (h : j < xs.length) : (B8 xs)[j]? = some (.int .u8 (xs.getD j 0)) := by simp [B8, h]

end Go.Proofs.YbulkvsuFmt
