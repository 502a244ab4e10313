/- The body in memory, its maps as lists of pairs, and the laws under which both turn. -/
import Derived.Test.YbulkwawFmtRows
import Derived.WalkKit
import Derived.ProofKit
import Derived.OpenShut
import Derived.WalkSpells
import Derived.WalkLawsBesides
import Derived.WalkSmall
import Derived.Outline
import Derived.Laws.BytesArg
import Derived.Maps.Own
import Derived.Maps.OwnSet
import Derived.Maps.OwnOps
namespace Go.Proofs.YbulkwawFmt
open Go.RowKit Go.Extern.Stop Go.Stop Go.Extern Go.ChangeMaps
set_option linter.unusedVariables false

theorem own_ne {w : World} {base : Nat} {e : TypeId} {size : Nat} {v : Value} {n : Nat} {xs : List Value} (h : w.ownsRow base e size v n xs) {k : Nat} (hk : k < base) : some k ≠ v.ownBlock := by
  intro q
  have := (h.lt k q.symm).1
  omega

theorem below_of_grown {w w' : World} {base : Nat} {e : TypeId} {size : Nat} {v : Value} {n : Nat} {xs : List Value} (h : w.ownsRow base e size v n xs) (hg : w.grownBy w' v.ownBlock) (hb : base ≤ w.heap.size) : Below base w w' :=
  ⟨hg.os, hg.tape, hg.output, hg.size, fun k hk => hg.block k (by omega) (own_ne h hk)⟩

/-- The cells of a literal block that was just laid. -/
theorem cells_new (w : World) (b : Nat) (hb : b = w.heap.size) (cs : Array Value) (t : TypeId) : ∀ j u, cs.toList[j]? = some u → (w.alloc (.cells cs t)).cell? ((⟨b, 0, none⟩ : Addr).add j) = some u := by
  intro j u h
  have e : (⟨b, 0, none⟩ : Addr).add j = ⟨b, j, none⟩ := by simp [Addr.add]; omega
  rw [e, World.cell?_alloc_at _ _ _ _ hb]
  simpa using h

/-- 'append(b, ..)' of at least one element onto a row of the call's own: the new slice's shape written out. -/
theorem wpList_append_news {P : Program} (w : World) {ops : Array Oper} {rest : List Oper} {o : Oper} {a : Act} {Q : Exit → Act → World → Prop} (hgd : o.guard = none) (s x : Operand) (t : TypeId)
    (ho : o.op = .call { callee := .builtin .append, args := #[s, x], argTypes := #[t, t] })
    (base : Nat) (e : TypeId) (i : TypeInfo) (z : Value) (bytes : Nat) (ht : P.underlying t = some (.slice e)) (hi : P.info? e = some i) (hz : i.zero = some z)
    (hsize : i.size = 1) (hby : i.bytes = bytes) (hzs : z.cells.size = 1) (v : Value) (n : Nat) (xs : List Value) (hs : a.eval s = v) (hown : w.ownsRow base e 1 v n xs)
    (ad : Addr) (m c : Nat) (news : List Value) (hx : a.eval x = .slice (some ad) m c) (hl : news.length = m) (hnews : ∀ j u, news[j]? = some u → w.cell? (ad.add j) = some u) (h1 : ∀ u ∈ news, u.oneCell' = true) (hm : 0 < m)
    (h63 : n + m ≤ maxLen) (hbytes : (n + m) * bytes ≤ 140737488355328) (hbase : base ≤ w.heap.size)
    (h : ∀ g cap w', w'.ownsRow base e 1 (.slice (some ⟨g, 0, none⟩) (n + m) cap) (n + m) (xs ++ news) → Below base w w' → wpList P ops Q rest (a.put o.dst (.slice (some ⟨g, 0, none⟩) (n + m) cap)) w') : wpList P ops Q (o :: rest) a w := by
  refine wpList_append_own w hgd s x t ho base e i z 1 bytes ht hi hz hsize hby hzs (by decide) v n xs hs hown ad m c news hx (by omega) hnews h1 h63 hbytes hbase ?_
  intro v' w' hown' hgrow _
  rcases hown'.2 with ⟨_, h0⟩ | ⟨g, cap, cur, hv, _⟩
  · omega
  · rw [hv] at hown' ⊢
    exact h g cap w' hown' (below_of_grown hown hgrow hbase)

/-! ### Maps as lists of pairs -/
abbrev Prs := List (Value × Value)
def prs (es : List MapEntry) : Prs := es.map fun e => (e.key, e.val)
/-- Block b is a map of just these keys and values, in this order. -/
def Mp (w : World) (b : Nat) (ps : Prs) : Prop := ∃ es clock, w.heap[b]? = some (.map es clock) ∧ prs es.toList = ps

theorem Mp.congr {w w' : World} {b : Nat} {ps : Prs} (h : Mp w b ps) (e : w'.heap[b]? = w.heap[b]?) : Mp w' b ps := by
  obtain ⟨es, c, h1, h2⟩ := h
  exact ⟨es, c, e.trans h1, h2⟩

def find (eq : Value → Bool) : Prs → Nat → Option (Nat × Value)
  | [], _ => none
  | p :: ps, i => if eq p.1 then some (i, p.2) else find eq ps (i + 1)

theorem findAsking_run {P : Program} {w : World} {kt : TypeId} {key : Value} {eq : Value → Bool} : ∀ (es : List MapEntry) (i : Nat), (∀ p ∈ prs es, (Op.equal kt key p.1).run P w = .ok (eq p.1) w) → (Instr.findAsking kt key es i).run P w = .ok (find eq (prs es) i) w
  | [], i, _ => rfl
  | e :: es, i, h => by
    have h1 := h (e.key, e.val) (by simp [prs])
    have h2 := findAsking_run es (i + 1) (fun p hp => h p (by simp [prs] at hp ⊢; exact .inr hp))
    simp only [Instr.findAsking, prs, List.map, find]
    cases hq : eq e.key <;> simp [hq, h1, Result.andThen]
    exact h2

theorem findNow_run {kind : TypeDesc} {key : Value} {eq : Value → Bool} : ∀ (es : List MapEntry) (i : Nat), (∀ p ∈ prs es, Instr.sameNow kind key p.1 = none ∨ Instr.sameNow kind key p.1 = some (eq p.1)) → Instr.findNow kind key es i = none ∨ Instr.findNow kind key es i = some (find eq (prs es) i)
  | [], i, _ => .inr rfl
  | e :: es, i, h => by
    have h1 := h (e.key, e.val) (by simp [prs])
    have h2 := findNow_run es (i + 1) (fun p hp => h p (by simp [prs] at hp ⊢; exact .inr hp))
    simp only [Instr.findNow, prs, List.map, find]
    rcases h1 with h1 | h1
    · left; simp only [h1]
    · cases hq : eq e.key
      · simp only at h1; simp only [hq] at h1; simp only [h1]; simpa [hq, prs] using h2
      · simp only at h1; simp only [hq] at h1; simp only [h1]; right; simp

theorem findKey_run {P : Program} {w : World} {kt : TypeId} {kind : TypeDesc} {key : Value} {eq : Value → Bool} (hu : P.underlying kt = some kind) (es : List MapEntry) (hA : ∀ p ∈ prs es, (Op.equal kt key p.1).run P w = .ok (eq p.1) w)
    (hN : ∀ p ∈ prs es, Instr.sameNow kind key p.1 = none ∨ Instr.sameNow kind key p.1 = some (eq p.1)) : (Instr.findKey kt key es).run P w = .ok (find eq (prs es) 0) w := by
  rcases findNow_run (i := 0) es hN with h | h
  · simp [Instr.findKey, run_underlying hu, h, Result.andThen, findAsking_run es 0 hA]
  · simp [Instr.findKey, run_underlying hu, h, Result.andThen]

/-- What a key is asked: its type's look, and '==' with each key that lies there. -/
structure Asks (P : Program) (kt : TypeId) (key : Value) (eq : Value → Bool) (ps : Prs) : Prop where
  ck : ∀ w em, (Instr.checkKey em 10000 kt key).run P w = .ok () w
  eqs : ∀ w, ∀ p ∈ ps, (Op.equal kt key p.1).run P w = .ok (eq p.1) w
  now : ∃ kind, P.underlying kt = some kind ∧ ∀ p ∈ ps, Instr.sameNow kind key p.1 = none ∨ Instr.sameNow kind key p.1 = some (eq p.1)

theorem look_run {P : Program} {w : World} {t kt et : TypeId} {b : Nat} {ps : Prs} {key z : Value} {eq : Value → Bool} (hm : Mp w b ps) (ht : P.underlying t = some (.map kt et)) (hq : Asks P kt key eq ps) (hz : (zeroValue et).run P w = .ok z w) (c : Bool) :
    (Instr.lookup t (.map (some b)) key c).run P w = .ok (if c then .tuple #[((find eq ps 0).map (·.2)).getD z, .bool (find eq ps 0).isSome] else ((find eq ps 0).map (·.2)).getD z) w := by
  obtain ⟨es, clock, hb, rfl⟩ := hm
  obtain ⟨kind, hk, hn⟩ := hq.now
  have h1 := findKey_run hk es.toList (hq.eqs w) hn
  simp only [Instr.lookup]
  cases hf : find eq (prs es.toList) 0 with
  | none => simp [run_underlying ht, MapKept.run_getObj_map hb, hq.ck, Result.andThen, h1, hf, hz]
  | some q => simp [run_underlying ht, MapKept.run_getObj_map hb, hq.ck, Result.andThen, h1, hf]

theorem upd_new {P : Program} {w : World} {t kt et : TypeId} {b : Nat} {ps : Prs} {key val : Value} {eq : Value → Bool} (hm : Mp w b ps) (ht : P.underlying t = some (.map kt et)) (hq : Asks P kt key eq ps) (hno : find eq ps 0 = none) :
    ∃ w', (Instr.mapUpdate t (.map (some b)) key val).run P w = .ok () w' ∧ Mp w' b (ps ++ [(key, val)]) ∧ w.mapTurned w' b := by
  obtain ⟨es, clock, hb, rfl⟩ := hm
  obtain ⟨kind, hk, hn⟩ := hq.now
  have h1 := findKey_run hk es.toList (hq.eqs w) hn
  refine ⟨setBlock w b (.map (es.push { key := key, val := val, born := clock }) (clock + 1)), ?_, ⟨_, _, heap_setBlock_same hb _, by simp [prs]⟩, ⟨_, _, _, _, hb, rfl⟩⟩
  simp [Instr.mapUpdate, run_underlying ht, MapKept.run_getObj_map hb, hq.ck, Result.andThen, h1, hno, MapKept.run_setObj_map _ hb, setBlock]

theorem upd_same {P : Program} {w : World} {t kt et : TypeId} {b : Nat} {key val v0 : Value} {eq : Value → Bool} (hm : Mp w b [(key, v0)]) (ht : P.underlying t = some (.map kt et)) (hq : Asks P kt key eq [(key, v0)]) (hyes : eq key = true) (hbits : Instr.sameBits 10000 key key = true) :
    ∃ w', (Instr.mapUpdate t (.map (some b)) key val).run P w = .ok () w' ∧ Mp w' b [(key, val)] ∧ w.mapTurned w' b := by
  obtain ⟨es, clock, hb, hp⟩ := hm
  obtain ⟨kind, hk, hn⟩ := hq.now
  obtain ⟨es⟩ := es
  obtain ⟨e, rfl, he1, he2⟩ : ∃ e, es = [e] ∧ e.key = key ∧ e.val = v0 := by
    match es, hp with
    | [e], hp => simp [prs] at hp; exact ⟨e, rfl, hp.1, hp.2⟩
  have h1 := findKey_run hk [e] (by rw [show prs [e] = [(key, v0)] from hp]; exact hq.eqs w) (by rw [show prs [e] = [(key, v0)] from hp]; exact hn)
  rw [show prs [e] = [(key, v0)] from hp] at h1
  refine ⟨setBlock w b (.map #[{ e with key := key, val := val }] clock), ?_, ⟨_, _, heap_setBlock_same hb _, by simp [prs]⟩, ⟨_, _, _, _, hb, rfl⟩⟩
  simp [Instr.mapUpdate, run_underlying ht, MapKept.run_getObj_map hb, hq.ck, Result.andThen, h1, find, hyes, Instr.keyThatStays, he1, hbits, MapKept.run_setObj_map _ hb, setBlock]

theorem wpList_upd {P : Program} {ops : Array Oper} {rest : List Oper} {o : Oper} {a : Act} {Q : Exit → Act → World → Prop} (w : World) (hg : o.guard = none) (m x v : Operand) (t : TypeId) (hop : o.op = Op.mapUpdate t m x v)
    (M key val : Value) (hm : a.eval m = M) (hx : a.eval x = key) (hv : a.eval v = val) (Z : World → Prop) (hrun : ∃ w', (Instr.mapUpdate t M key val).run P w = .ok () w' ∧ Z w')
    (hK : ∀ w', Z w' → wpList P ops Q rest (a.put o.dst undef) w') : wpList P ops Q (o :: rest) a w := by
  refine wpList_plain hg fun K' hK' => ?_
  obtain ⟨w', hrun, hz⟩ := hrun
  unfold Oper.wp
  simp [execOp, hop, hm, hx, hv, hrun, Result.andThen]
  exact hK' _ _ (hK w' hz)

theorem wpList_look {P : Program} {ops : Array Oper} {rest : List Oper} {o : Oper} {a : Act} {Q : Exit → Act → World → Prop} (w : World) (hg : o.guard = none) (m x : Operand) (t : TypeId) (c : Bool) (hop : o.op = Op.lookup t m x c)
    (M key r : Value) (hm : a.eval m = M) (hx : a.eval x = key) (hrun : (Instr.lookup t M key c).run P w = .ok r w)
    (hK : wpList P ops Q rest (a.put o.dst r) w) : wpList P ops Q (o :: rest) a w := by
  refine wpList_plain hg fun K' hK' => ?_
  unfold Oper.wp
  simp [execOp, hop, hm, hx, hrun, Result.andThen]
  exact hK' _ _ hK

/-! ### '==' between the keys of this program -/
abbrev ptr (A : Nat) : Value := .pointer (some ⟨A, 0, none⟩)
abbrev stm (T A : Nat) : Value := .iface T (.pointer (some ⟨A, 0, none⟩))

theorem ck42 (T A : Nat) (hT : T = 30 ∨ T = 36 ∨ T = 57 ∨ T = 65) (w : World) (em : Bool) : (Instr.checkKey em 10000 42 (stm T A)).run Ybaf.prog w = .ok () w := by
  rcases hT with rfl | rfl | rfl | rfl <;> kernel_rfl
theorem ck30 (A : Nat) (w : World) (em : Bool) : (Instr.checkKey em 10000 30 (ptr A)).run Ybaf.prog w = .ok () w := by kernel_rfl
theorem ck20 (A : Nat) (w : World) (em : Bool) : (Instr.checkKey em 10000 20 (stm 23 A)).run Ybaf.prog w = .ok () w := by kernel_rfl
theorem ck3 (a : Int) (w : World) (em : Bool) : (Instr.checkKey em 10000 3 (.int .i64 a)).run Ybaf.prog w = .ok () w := by kernel_rfl
theorem eqIn_ne (d T T' A A' : Nat) (h : T ≠ T') (w : World) : (Op.equalIn (d + 1) 42 (stm T A) (stm T' A')).run Ybaf.prog w = .ok false w := by
  have hu := run_underlying (w := w) Ybaf.underlying42
  simp [Op.equalIn, stm, hu, Result.andThen, h]
theorem eq42_ne (T T' A A' : Nat) (h : T ≠ T') (w : World) : (Op.equal 42 (stm T A) (stm T' A')).run Ybaf.prog w = .ok false w := eqIn_ne 9999 T T' A A' h w
theorem eqIn_ptr (d t e A : Nat) (h : Ybaf.prog.underlying t = some (.pointer e)) (n : Nat) (hs : ∀ w, (sizeOf e).run Ybaf.prog w = .ok (n + 1) w) (w : World) : (Op.equalIn (d + 1) t (ptr A) (ptr A)).run Ybaf.prog w = .ok true w := by
  have hu := run_underlying (w := w) h
  simp [Op.equalIn, ptr, hu, Result.andThen, hs, sameAddr]
theorem eq30 (A : Nat) (w : World) : (Op.equal 30 (ptr A) (ptr A)).run Ybaf.prog w = .ok true w := eqIn_ptr 9999 30 35 A Ybaf.underlying30 (Ybaf.prog.cellsOf 35 - 1) (fun w => by kernel_rfl) w
theorem eqIn_stm (d T e A : Nat) (h : Ybaf.prog.underlying T = some (.pointer e)) (n : Nat) (hs : ∀ w, (sizeOf e).run Ybaf.prog w = .ok (n + 1) w) (i : TypeInfo) (hi : ∀ w, (typeInfo T).run Ybaf.prog w = .ok i w) (hc : i.comparable = true) (w : World) :
    (Op.equalIn (d + 1 + 1) 42 (stm T A) (stm T A)).run Ybaf.prog w = .ok true w := by
  have hu := run_underlying (w := w) Ybaf.underlying42
  have hp := eqIn_ptr d T e A h n hs w
  rw [Op.equalIn]
  simp [stm, hu, Result.andThen, hi, hc]
  exact hp
theorem tinfo (T : Nat) (h : (Ybaf.prog.info? T).map (·.comparable) = some true) : ∃ i : TypeInfo, (∀ w, (typeInfo T).run Ybaf.prog w = .ok i w) ∧ i.comparable = true := by
  obtain ⟨i, hi, hc⟩ := Option.map_eq_some_iff.1 h
  exact ⟨i, fun w => run_typeInfo w hi, hc⟩
theorem eqStm (T e : TypeId) (A : Nat) (h : Ybaf.prog.underlying T = some (.pointer e)) (n : Nat) (hs : ∀ w, (sizeOf e).run Ybaf.prog w = .ok (n + 1) w) (hc : (Ybaf.prog.info? T).map (·.comparable) = some true) (w : World) :
    (Op.equal 42 (stm T A) (stm T A)).run Ybaf.prog w = .ok true w := by
  obtain ⟨i, hi, hc⟩ := tinfo T hc
  exact eqIn_stm 9998 T e A h n hs i hi hc w

/-! ### The body -/
def bodyCells (h : Nat) (p1 p2 p3 v : Value) (ind : Int) (ret : Bool) (sn : Value) : Array Value :=
  #[.pointer (some ⟨h + 2, 0, none⟩), p1, p2, p3, .slice none 0 0, v, .int .i64 ind, .slice none 0 0, .map (some (h + 3)), .map (some (h + 4)), .map (some (h + 5)), .bool ret, .map (some (h + 6)), .map (some (h + 7)), sn, .nilIface]

/-- The body in block h + 8: n lines, the map 'stands', 'standsNext', the indent, 'returned', the maps 'continued', 'left', 'numbers'. -/
structure St (F : Interp) (h n : Nat) (st : Prs) (sn : Value) (ind : Int) (ret : Bool) (cont left nums : Prs) (w : World) : Prop where
  body : ∃ p1 p2 p3 v xs, w.heap[h + 8]? = some (.cells (bodyCells h p1 p2 p3 v ind ret sn) 90) ∧ w.ownsRow (h + 9) 9 1 v n xs
  namer : ∃ p0 p2, w.heap[h + 2]? = some (.cells #[p0, .map (some h), p2] 95)
  names : Mp w h []
  num : Mp w (h + 3) nums
  con : Mp w (h + 4) cont
  lef : Mp w (h + 5) left
  stn : Mp w (h + 7) st
  size : h + 9 ≤ w.heap.size
  ans : F.answers w.tape

theorem cell_at {w : World} {b : Nat} {cs : Array Value} {t : TypeId} (hb : w.heap[b]? = some (.cells cs t)) (o : Nat) : w.cell? ⟨b, o, none⟩ = cs[o]? := by simp [World.cell?, hb]
theorem frozen_at {w : World} {b : Nat} {cs : Array Value} {t : TypeId} (hb : w.heap[b]? = some (.cells cs t)) (o : Nat) : w.frozen? ⟨b, o, none⟩ = false := by simp [World.frozen?, hb]
theorem heap_set_at {w : World} {b : Nat} {cs : Array Value} {t : TypeId} (hb : w.heap[b]? = some (.cells cs t)) (o : Nat) (u : Value) : (w.setCell ⟨b, o, none⟩ u).heap[b]? = some (.cells (cs.setIfInBounds o u) t) := by
  simp [World.setCell, Array.getElem?_modify, hb]

theorem turned_below {w w' : World} {b B : Nat} (h : w.mapTurned w' b) (hb : B ≤ b) : Below B w w' := by
  obtain ⟨h1, h2, h3, h4, h5⟩ := h.grown
  exact ⟨h1, h2, h3, h4, fun k hk => by
    by_cases hs : k < w.heap.size
    · exact h5 k hs (by simp; omega)
    · obtain ⟨es, c, es', c', hb, rfl⟩ := h
      exact heap_setBlock_other hb _ (by omega)⟩
theorem turned_other {w w' : World} {b k : Nat} (h : w.mapTurned w' b) (hk : k ≠ b) : w'.heap[k]? = w.heap[k]? := by
  obtain ⟨es, c, es', c', hb, rfl⟩ := h
  exact heap_setBlock_other hb _ hk
theorem turned_size {w w' : World} {b : Nat} (h : w.mapTurned w' b) : w'.heap.size = w.heap.size := by
  obtain ⟨es, c, es', c', hb, rfl⟩ := h
  simp [setBlock]
theorem turned_tape {w w' : World} {b : Nat} (h : w.mapTurned w' b) : w'.tape = w.tape := h.grown.tape
theorem turned_row {w w' : World} {b base : Nat} {e : TypeId} {v : Value} {n : Nat} {xs : List Value} (h : w.mapTurned w' b) (hb : b < base) (ho : w.ownsRow base e 1 v n xs) : w'.ownsRow base e 1 v n xs := by
  obtain ⟨h1, h2⟩ := ho
  refine ⟨h1, ?_⟩
  rcases h2 with h2 | ⟨g, cap, cur, a, hg, c, d⟩
  · exact .inl h2
  · exact .inr ⟨g, cap, cur, a, hg, by rw [turned_other h (by omega)]; exact c, d⟩

section
variable {F : Interp} {h n : Nat} {st : Prs} {sn : Value} {ind : Int} {ret : Bool} {cont left nums : Prs} {w w' : World}

/-- What is laid anew past the body leaves it as it is. -/
theorem St.grow (s : St F h n st sn ind ret cont left nums w) (hb : Below (h + 9) w w') (hrow : ∀ v xs, w.ownsRow (h + 9) 9 1 v n xs → w'.ownsRow (h + 9) 9 1 v n xs) : St F h n st sn ind ret cont left nums w' := by
  obtain ⟨⟨p1, p2, p3, v, xs, hB, ho⟩, ⟨q0, q2, hN⟩, m0, m3, m4, m5, m7, hs, ha⟩ := s
  exact ⟨⟨p1, p2, p3, v, xs, (hb.block _ (by omega)).trans hB, hrow v xs ho⟩, ⟨q0, q2, (hb.block _ (by omega)).trans hN⟩, m0.congr (hb.block _ (by omega)), m3.congr (hb.block _ (by omega)), m4.congr (hb.block _ (by omega)), m5.congr (hb.block _ (by omega)), m7.congr (hb.block _ (by omega)), Nat.le_trans hs hb.size, by rw [hb.tape]; exact ha⟩

theorem St.alloc (s : St F h n st sn ind ret cont left nums w) (o : Obj) : St F h n st sn ind ret cont left nums (w.alloc o) :=
  s.grow ((Below.refl _ _).alloc s.size o) (fun _ _ h => h.alloc o)
theorem St.drew (s : St F h n st sn ind ret cont left nums w) : St F h n st sn ind ret cont left nums w.drew := s.grow (Below.refl _ _).drew (fun _ _ h => h)

theorem St.setB (s : St F h n st sn ind ret cont left nums w) (o : Nat) (u : Value) {n' : Nat} {sn' : Value} {ind' : Int} {ret' : Bool}
    (hset : ∀ p1 p2 p3 v xs, w.ownsRow (h + 9) 9 1 v n xs → ∃ v' xs', (bodyCells h p1 p2 p3 v ind ret sn).setIfInBounds o u = bodyCells h p1 p2 p3 v' ind' ret' sn' ∧ w.ownsRow (h + 9) 9 1 v' n' xs') :
    St F h n' st sn' ind' ret' cont left nums (w.setCell ⟨h + 8, o, none⟩ u) := by
  obtain ⟨⟨p1, p2, p3, v, xs, hB, ho⟩, ⟨q0, q2, hN⟩, m0, m3, m4, m5, m7, hs, ha⟩ := s
  obtain ⟨v', xs', e, ho'⟩ := hset p1 p2 p3 v xs ho
  have hb : ∀ k, k ≠ h + 8 → (w.setCell ⟨h + 8, o, none⟩ u).heap[k]? = w.heap[k]? := fun k hk => Below.heap_setCell _ _ _ _ hk
  exact ⟨⟨p1, p2, p3, v', xs', by rw [heap_set_at hB, e], ownsRow_setCell_below ho' (by show h + 8 < h + 9; omega) _⟩, ⟨q0, q2, (hb _ (by omega)).trans hN⟩, m0.congr (hb _ (by omega)), m3.congr (hb _ (by omega)), m4.congr (hb _ (by omega)), m5.congr (hb _ (by omega)), m7.congr (hb _ (by omega)), by simpa [World.setCell] using hs, ha⟩

theorem St.setNext (s : St F h n st sn ind ret cont left nums w) (sn' : Value) : St F h n st sn' ind ret cont left nums (w.setCell ⟨h + 8, 14, none⟩ sn') :=
  s.setB 14 sn' (fun p1 p2 p3 v xs ho => ⟨v, xs, rfl, ho⟩)
theorem St.setInd (s : St F h n st sn ind ret cont left nums w) (i' : Int) : St F h n st sn i' ret cont left nums (w.setCell ⟨h + 8, 6, none⟩ (.int .i64 i')) :=
  s.setB 6 _ (fun p1 p2 p3 v xs ho => ⟨v, xs, rfl, ho⟩)
theorem St.setRet (s : St F h n st sn ind ret cont left nums w) (r' : Bool) : St F h n st sn ind r' cont left nums (w.setCell ⟨h + 8, 11, none⟩ (.bool r')) :=
  s.setB 11 _ (fun p1 p2 p3 v xs ho => ⟨v, xs, rfl, ho⟩)

/-- The new line: laid by 'append' past the body, then written into its cell. -/
theorem St.addLine (s : St F h n st sn ind ret cont left nums w) (hb : Below (h + 9) w w') {v' : Value} {xs' : List Value} (ho : w'.ownsRow (h + 9) 9 1 v' (n + 1) xs') : St F h (n + 1) st sn ind ret cont left nums (w'.setCell ⟨h + 8, 5, none⟩ v') := by
  obtain ⟨⟨p1, p2, p3, v, xs, hB, _⟩, ⟨q0, q2, hN⟩, m0, m3, m4, m5, m7, hs, ha⟩ := s
  have hB' := (hb.block (h + 8) (by omega)).trans hB
  have hb2 : ∀ k, k < h + 8 → (w'.setCell ⟨h + 8, 5, none⟩ v').heap[k]? = w.heap[k]? := fun k hk => (Below.heap_setCell _ _ _ _ (by show k ≠ h + 8; omega)).trans (hb.block k (by omega))
  exact ⟨⟨p1, p2, p3, v', xs', by rw [heap_set_at hB']; rfl, ownsRow_setCell_below ho (by show h + 8 < h + 9; omega) _⟩, ⟨q0, q2, (hb2 _ (by omega)).trans hN⟩, m0.congr (hb2 _ (by omega)), m3.congr (hb2 _ (by omega)), m4.congr (hb2 _ (by omega)), m5.congr (hb2 _ (by omega)), m7.congr (hb2 _ (by omega)),
    by have := hb.size; simp [World.setCell]; omega, by show F.answers w'.tape; rw [hb.tape]; exact ha⟩

theorem St.turnSt (s : St F h n st sn ind ret cont left nums w) (ht : w.mapTurned w' (h + 7)) {ps : Prs} (hm : Mp w' (h + 7) ps) : St F h n ps sn ind ret cont left nums w' := by
  obtain ⟨⟨p1, p2, p3, v, xs, hB, ho⟩, ⟨q0, q2, hN⟩, m0, m3, m4, m5, m7, hs, ha⟩ := s
  exact ⟨⟨p1, p2, p3, v, xs, (turned_other ht (by omega)).trans hB, turned_row ht (by omega) ho⟩, ⟨q0, q2, (turned_other ht (by omega)).trans hN⟩, m0.congr (turned_other ht (by omega)), m3.congr (turned_other ht (by omega)), m4.congr (turned_other ht (by omega)), m5.congr (turned_other ht (by omega)), hm, by rw [turned_size ht]; exact hs, by rw [turned_tape ht]; exact ha⟩
theorem St.turnCon (s : St F h n st sn ind ret cont left nums w) (ht : w.mapTurned w' (h + 4)) {ps : Prs} (hm : Mp w' (h + 4) ps) : St F h n st sn ind ret ps left nums w' := by
  obtain ⟨⟨p1, p2, p3, v, xs, hB, ho⟩, ⟨q0, q2, hN⟩, m0, m3, m4, m5, m7, hs, ha⟩ := s
  exact ⟨⟨p1, p2, p3, v, xs, (turned_other ht (by omega)).trans hB, turned_row ht (by omega) ho⟩, ⟨q0, q2, (turned_other ht (by omega)).trans hN⟩, m0.congr (turned_other ht (by omega)), m3.congr (turned_other ht (by omega)), hm, m5.congr (turned_other ht (by omega)), m7.congr (turned_other ht (by omega)), by rw [turned_size ht]; exact hs, by rw [turned_tape ht]; exact ha⟩
theorem St.turnLef (s : St F h n st sn ind ret cont left nums w) (ht : w.mapTurned w' (h + 5)) {ps : Prs} (hm : Mp w' (h + 5) ps) : St F h n st sn ind ret cont ps nums w' := by
  obtain ⟨⟨p1, p2, p3, v, xs, hB, ho⟩, ⟨q0, q2, hN⟩, m0, m3, m4, m5, m7, hs, ha⟩ := s
  exact ⟨⟨p1, p2, p3, v, xs, (turned_other ht (by omega)).trans hB, turned_row ht (by omega) ho⟩, ⟨q0, q2, (turned_other ht (by omega)).trans hN⟩, m0.congr (turned_other ht (by omega)), m3.congr (turned_other ht (by omega)), m4.congr (turned_other ht (by omega)), hm, m7.congr (turned_other ht (by omega)), by rw [turned_size ht]; exact hs, by rw [turned_tape ht]; exact ha⟩
theorem St.turnNum (s : St F h n st sn ind ret cont left nums w) (ht : w.mapTurned w' (h + 3)) {ps : Prs} (hm : Mp w' (h + 3) ps) : St F h n st sn ind ret cont left ps w' := by
  obtain ⟨⟨p1, p2, p3, v, xs, hB, ho⟩, ⟨q0, q2, hN⟩, m0, m3, m4, m5, m7, hs, ha⟩ := s
  exact ⟨⟨p1, p2, p3, v, xs, (turned_other ht (by omega)).trans hB, turned_row ht (by omega) ho⟩, ⟨q0, q2, (turned_other ht (by omega)).trans hN⟩, m0.congr (turned_other ht (by omega)), hm, m4.congr (turned_other ht (by omega)), m5.congr (turned_other ht (by omega)), m7.congr (turned_other ht (by omega)), by rw [turned_size ht]; exact hs, by rw [turned_tape ht]; exact ha⟩

/-- The cells that the walks read. -/
structure Cells (h : Nat) (sn : Value) (ind : Int) (ret : Bool) (v : Value) (w : World) : Prop where
  c0 : w.cell? ⟨h + 8, 0, none⟩ = some (.pointer (some ⟨h + 2, 0, none⟩))
  c4 : w.cell? ⟨h + 8, 4, none⟩ = some (.slice none 0 0)
  c5 : w.cell? ⟨h + 8, 5, none⟩ = some v
  c6 : w.cell? ⟨h + 8, 6, none⟩ = some (.int .i64 ind)
  c7 : w.cell? ⟨h + 8, 7, none⟩ = some (.slice none 0 0)
  c8 : w.cell? ⟨h + 8, 8, none⟩ = some (.map (some (h + 3)))
  c9 : w.cell? ⟨h + 8, 9, none⟩ = some (.map (some (h + 4)))
  c10 : w.cell? ⟨h + 8, 10, none⟩ = some (.map (some (h + 5)))
  c11 : w.cell? ⟨h + 8, 11, none⟩ = some (.bool ret)
  c13 : w.cell? ⟨h + 8, 13, none⟩ = some (.map (some (h + 7)))
  c14 : w.cell? ⟨h + 8, 14, none⟩ = some sn
  c15 : w.cell? ⟨h + 8, 15, none⟩ = some .nilIface
  fz : ∀ o, w.frozen? ⟨h + 8, o, none⟩ = false
  n1 : w.cell? ⟨h + 2, 1, none⟩ = some (.map (some h))
theorem St.cells (s : St F h n st sn ind ret cont left nums w) : ∃ v xs, Cells h sn ind ret v w ∧ w.ownsRow (h + 9) 9 1 v n xs := by
  obtain ⟨⟨p1, p2, p3, v, xs, hB, ho⟩, ⟨q0, q2, hN⟩, _⟩ := s
  exact ⟨v, xs, ⟨cell_at hB 0, cell_at hB 4, cell_at hB 5, cell_at hB 6, cell_at hB 7, cell_at hB 8, cell_at hB 9, cell_at hB 10, cell_at hB 11, cell_at hB 13, cell_at hB 14, cell_at hB 15, frozen_at hB, cell_at hN 1⟩, ho⟩
end
end Go.Proofs.YbulkwawFmt
