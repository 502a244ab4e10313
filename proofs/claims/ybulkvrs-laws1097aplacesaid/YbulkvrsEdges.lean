/- The closure of the law (func 8) and 'placeEdges' (func 9). -/
import Derived.Test.YbulkvrsIndexWalk
import Derived.Deep.RegionWith
namespace Go.Proofs.Ybulkvrs
open Go.RowKit
set_option linter.unusedVariables false

/-- The numbers 0 .. n - 1, as the log holds them. -/
def cnt (n : Nat) : List Value := (List.range n).map (fun (i : Nat) => Value.int .i64 (i : Int))
theorem cnt_succ (n : Nat) : cnt (n + 1) = cnt n ++ [.int .i64 (n : Int)] := by simp [cnt, List.range_succ]
theorem cnt_length (n : Nat) : (cnt n).length = n := by simp [cnt]
theorem cnt_get {n j : Nat} (h : j < n) : (cnt n)[j]? = some (.int .i64 (j : Int)) := by simp [cnt, h]

/-- Below block b nothing but block L has turned. -/
structure But (L b : Nat) (w w' : World) : Prop where
  os : w'.os = w.os
  tape : w'.tape = w.tape
  output : w'.output = w.output
  size : w.heap.size ≤ w'.heap.size
  block : ∀ k, k < b → k ≠ L → w'.heap[k]? = w.heap[k]?

theorem But.refl (L b : Nat) (w : World) : But L b w w := ⟨rfl, rfl, rfl, Nat.le_refl _, fun _ _ _ => rfl⟩
theorem But.trans {L b : Nat} {x y z : World} (h : But L b x y) (k : But L b y z) : But L b x z :=
  ⟨k.os.trans h.os, k.tape.trans h.tape, k.output.trans h.output, Nat.le_trans h.size k.size, fun i hi hn => (k.block i hi hn).trans (h.block i hi hn)⟩
theorem But.below {L b B : Nat} {w w' : World} (h : But L b w w') (h1 : B ≤ L) (h2 : B ≤ b) : Below B w w' :=
  ⟨h.os, h.tape, h.output, h.size, fun k hk => h.block k (by omega) (by omega)⟩
theorem But.of_below {L b : Nat} {w w' : World} (h : Below b w w') : But L b w w' := ⟨h.os, h.tape, h.output, h.size, fun k hk _ => h.block k hk⟩
theorem But.cell {L b : Nat} {w w' : World} (h : But L b w w') {p : Addr} (hp : p.block < b) (hn : p.block ≠ L) : w'.cell? p = w.cell? p := World.cell?_of_block (w := w) (h.block p.block hp hn)
theorem But.frozen {L b : Nat} {w w' : World} (h : But L b w w') {p : Addr} (hp : p.block < b) (hn : p.block ≠ L) : w'.frozen? p = w.frozen? p := World.frozen?_of_block (w := w) (h.block p.block hp hn)

/-- The log: the variable in block LB holds a slice of m numbers, 0 .. m - 1, whose row (if any) lies from 'base' on. -/
structure LogAt (w : World) (LB base m : Nat) (v : Value) : Prop where
  cell : w.cell? ⟨LB, 0, none⟩ = some v
  frozen : w.frozen? ⟨LB, 0, none⟩ = false
  own : w.ownsRow base 3 1 v m (cnt m)
  lt : LB < base
  size : base ≤ w.heap.size

theorem own_ne {w : World} {base : Nat} {e : TypeId} {size : Nat} {v : Value} {n : Nat} {xs : List Value} (h : w.ownsRow base e size v n xs) {k : Nat} (hk : k < base) : some k ≠ v.ownBlock := by
  intro q
  have := (h.lt k q.symm).1
  omega

/-- 'append(log, e)': the new slice's shape written out. -/
theorem wpList_append_log {P : Program} (w : World) {ops : Array Oper} {rest : List Oper} {o : Oper} {a : Act} {Q : Exit → Act → World → Prop} (hgd : o.guard = none) (s x : Operand) (t : TypeId)
    (ho : o.op = .call { callee := .builtin .append, args := #[s, x], argTypes := #[t, t] })
    (base : Nat) (e : TypeId) (i : TypeInfo) (z : Value) (bytes : Nat) (ht : P.underlying t = some (.slice e)) (hi : P.info? e = some i) (hz : i.zero = some z)
    (hsize : i.size = 1) (hby : i.bytes = bytes) (hzs : z.cells.size = 1) (v : Value) (n : Nat) (xs : List Value) (hs : a.eval s = v) (hown : w.ownsRow base e 1 v n xs)
    (ad : Addr) (c : Nat) (u : Value) (hx : a.eval x = .slice (some ad) 1 c) (hu : w.cell? ad = some u) (h1 : u.oneCell' = true) (h63 : n + 1 ≤ maxLen) (hbytes : (n + 1) * bytes ≤ 140737488355328) (hbase : base ≤ w.heap.size)
    (h : ∀ g cap w', w'.ownsRow base e 1 (.slice (some ⟨g, 0, none⟩) (n + 1) cap) (n + 1) (xs ++ [u]) → w.grownBy w' v.ownBlock → wpList P ops Q rest (a.put o.dst (.slice (some ⟨g, 0, none⟩) (n + 1) cap)) w') : wpList P ops Q (o :: rest) a w := by
  refine wpList_append_own w hgd s x t ho base e i z 1 bytes ht hi hz hsize hby hzs (by decide) v n xs hs hown ad 1 c [u] hx rfl ?_ ?_ h63 hbytes hbase ?_
  · intro j y hj
    match j, hj with
    | 0, hj =>
      simp at hj
      subst hj
      simpa [Addr.add] using hu
  · intro y hy
    simp at hy
    subst hy
    exact h1
  · intro v' w' hown' hgrow _
    rcases hown'.2 with ⟨_, h0⟩ | ⟨g, cap, cur, hv, _⟩
    · omega
    · rw [hv] at hown' ⊢
      exact h g cap w' hown' hgrow

set_option maxRecDepth 100000 in
set_option maxHeartbeats 1000000 in
theorem closure_any (LB WB WG base N m : Nat) (q : Int) (hq : q = (m : Int)) (v : Value) (x : Int) (w : World) (hN : N ≤ 4096) (hm : m < N) (hl : LogAt w LB base m v)
    (hWB : WB < base ∧ WB ≠ LB) (hWG : WG < base ∧ WG ≠ LB) (hw1 : w.cell? ⟨WB, 0, none⟩ = some (.slice (some ⟨WG, 0, none⟩) N N)) (hw2 : w.cell? ⟨WG, m, none⟩ = some (.int .u64 x)) :
    Calls Yba.prog 8 #[.int .i64 q, .pointer (some ⟨LB, 0, none⟩), .pointer (some ⟨WB, 0, none⟩)] w fun e w' => ∃ v', e = .returned (.int .u64 x) ∧ LogAt w' LB base (m + 1) v' ∧ But LB base w w' := by
  subst hq
  obtain ⟨hl1, hl2, hl3, hl4, hl5⟩ := hl
  obtain ⟨i0, hi, hz0, hz1, hz2⟩ := info_parts info3
  have hmN : (m : Int) < (N : Int) := by omega
  have hLs : LB < w.heap.size := by omega
  have hWBs : WB < w.heap.size := by omega
  have hWGs : WG < w.heap.size := by omega
  have hne1 := own_ne hl3 hl4
  have hne2 := own_ne hl3 hWB.1
  have hne3 := own_ne hl3 hWG.1
  go_enter Yba.func8, Yba.ntmps8
  go_wp2_with (at_builtin; refine wpList_append_log _ rfl _ _ 33 rfl base 3 i0 (.int .i64 0) 8 Yba.underlying33 hi hz0 hz1 hz2 rfl v _ _ rfl (hl3.alloc _) ⟨w.heap.size, 0, none⟩ 1 (.int .i64 (m : Int)) rfl (by simp) rfl (by unfold maxLen; omega) (by omega) (by simp; omega) ?_; intro g cap w1 hown' hgrow; have k1 := hgrow.cell (a := ⟨LB, 0, none⟩) ((World.cell?_alloc_past _ _ _ hLs).trans hl1) hne1; have k2 := hgrow.cell (a := ⟨WB, 0, none⟩) ((World.cell?_alloc_past _ _ _ hWBs).trans hw1) hne2; have k3 := hgrow.cell (a := ⟨WG, m, none⟩) ((World.cell?_alloc_past _ _ _ hWGs).trans hw2) hne3; have k4 : w1.frozen? ⟨LB, 0, none⟩ = false := (World.frozen?_of_block (a := ⟨LB, 0, none⟩) (hgrow.block LB (by simp; omega) hne1)).trans ((World.frozen?_alloc_past _ _ _ hLs).trans hl2))
  go_ret
  refine ⟨_, rfl, ⟨World.cell?_setCell_same _ _ _ k1, by rw [World.frozen?_setCell]; exact k4, ?_, hl4, ?_⟩, ⟨?_, ?_, ?_, ?_, ?_⟩⟩
  · rw [cnt_succ]
    exact ownsRow_setCell_below hown' hl4 _
  · have := hgrow.size
    simp [World.setCell] at this ⊢
    omega
  · exact hgrow.os
  · exact hgrow.tape
  · exact hgrow.output
  · have := hgrow.size
    simp [World.setCell] at this ⊢
    omega
  · intro k hk hkn
    rw [Below.heap_setCell _ _ _ _ hkn, hgrow.block k (by simp; omega) (own_ne hl3 hk)]
    exact Below.heap_alloc _ _ _ (by omega)

theorem info39 : (Yba.prog.info? 39).map (fun i => (i.zero.map Value.cells, i.size, i.bytes)) = some (some #[.int .i64 0, .int .i64 0], 2, 16) := by kernel_rfl

theorem make35 (n : Nat) (hn : n ≤ 1024) (w : World) : (Instr.makeSlice 35 (.int .i64 (n : Int)) (.int .i64 (n : Int))).run Yba.prog w = .ok (.slice (some ⟨w.heap.size, 0, none⟩) n n) (w.alloc (.cells (madeCells #[.int .i64 0, .int .i64 0] (n * 2)) 39)) := by
  have h := info39
  cases hi : Yba.prog.info? 39 with
  | none => rw [hi] at h; cases h
  | some i =>
    rw [hi] at h
    simp only [Option.map_some, Option.some.injEq, Prod.mk.injEq] at h
    obtain ⟨hz, hs, hb⟩ := h
    cases hz' : i.zero with
    | none => rw [hz'] at hz; cases hz
    | some z =>
      rw [hz'] at hz
      simp only [Option.map_some, Option.some.injEq] at hz
      have hr := run_make (P := Yba.prog) w 35 39 i z Yba.underlying35 hi hz' .i64 .i64 n n (by omega) (Int.le_refl _) (by rw [hb]; omega) (by omega)
      rw [hr, hz, hs]
      simp

theorem made2 (w : World) (n : Nat) : IRow (w.alloc (.cells (madeCells #[.int .i64 0, .int .i64 0] (n * 2)) 39)) .i64 w.heap.size (2 * n) (fun _ => 0) := by
  refine ⟨fun j hj => ?_, fun o => World.frozen?_alloc_at _ _ _ _ rfl⟩
  rw [World.cell?_alloc_at _ _ _ _ rfl]
  simp only [madeCells, Array.getElem?_map]
  rw [Array.getElem?_range, if_pos (by omega)]
  have e : (#[Value.int .i64 0, .int .i64 0] : Array Value).size = 2 := rfl
  simp only [Option.map_some, e]
  have h : j % 2 = 0 ∨ j % 2 = 1 := by omega
  rcases h with h | h <;> rw [h] <;> rfl

/-- What the edges hold after k rounds. -/
def edg (ids : List Int) (want : Nat → Int) (k j : Nat) : Int := if j < 2 * k then (ids.idxOf (want j) : Int) else 0

theorem edg_step {w : World} {S n k : Nat} {ids : List Int} {want : Nat → Int} (h : IRow w .i64 S (2 * n) (edg ids want k)) (hk : k < n) (s t : Int) (hs : s = (ids.idxOf (want (2 * k)) : Int)) (ht : t = (ids.idxOf (want (2 * k + 1)) : Int)) :
    IRow ((w.setCell ⟨S, k * 2, none⟩ (.int .i64 s)).setCell ⟨S, k * 2 + 1, none⟩ (.int .i64 t)) .i64 S (2 * n) (edg ids want (k + 1)) := by
  refine ((h.set (k * 2) (by omega) s).set (k * 2 + 1) (by omega) t).congr fun j hj => ?_
  unfold edg
  by_cases e1 : j = k * 2 + 1
  · subst e1
    rw [if_pos rfl, if_pos (by omega), ht, show k * 2 + 1 = 2 * k + 1 from by omega]
  · rw [if_neg e1]
    by_cases e2 : j = k * 2
    · subst e2
      rw [if_pos rfl, if_pos (by omega), hs, show k * 2 = 2 * k from by omega]
    · rw [if_neg e2]
      by_cases e3 : j < 2 * k
      · rw [if_pos e3, if_pos (by omega)]
      · rw [if_neg e3, if_neg (by omega)]

/-- What the caller's memory holds for 'placeEdges': the index, the ends that are wanted, an empty log. -/
structure EdgesPre (w : World) (lo up X LB WB WG n : Nat) (ids : List Int) (want : Nat → Int) : Prop where
  index : Index w lo up X ids
  upLB : up ≤ LB
  bn : n ≤ 512
  wb : WB < w.heap.size ∧ WB ≠ LB
  wg : WG < w.heap.size ∧ WG ≠ LB
  lb : LB < w.heap.size
  w1 : w.cell? ⟨WB, 0, none⟩ = some (.slice (some ⟨WG, 0, none⟩) (2 * n) (2 * n))
  w2 : ∀ e, e < 2 * n → w.cell? ⟨WG, e, none⟩ = some (.int .u64 (want e))
  w3 : ∀ e, e < 2 * n → 0 ≤ want e ∧ want e ≤ 18446744073709551615
  log : w.cell? ⟨LB, 0, none⟩ = some (.slice none 0 0)
  logf : w.frozen? ⟨LB, 0, none⟩ = false

/-- What 'placeEdges' answers and leaves. -/
def EdgesPost (w w' : World) (LB n : Nat) (ids : List Int) (want : Nat → Int) (e : Ending) : Prop :=
  (∃ v, (∀ j, j < 2 * n → want j ∈ ids) ∧ e = .returned (.tuple #[.slice (some ⟨w.heap.size, 0, none⟩) n n, .int .i64 (-1)]) ∧ LogAt w' LB (w.heap.size + 1) (2 * n) v ∧ IRow w' .i64 w.heap.size (2 * n) (edg ids want n) ∧ But LB w.heap.size w w') ∨
  (∃ e0 v, e0 < 2 * n ∧ (∀ j, j < e0 → want j ∈ ids) ∧ want e0 ∉ ids ∧ e = .returned (.tuple #[.slice none 0 0, .int .i64 (e0 : Int)]) ∧ LogAt w' LB (w.heap.size + 1) (e0 + 1) v ∧ But LB w.heap.size w w')

set_option maxRecDepth 100000 in
set_option maxHeartbeats 1000000 in
theorem edges_any (lo up X LB WB WG n : Nat) (ids : List Int) (want : Nat → Int) (w : World) (h : EdgesPre w lo up X LB WB WG n ids want) :
    Calls Yba.prog 9 #[.pointer (some ⟨X, 0, none⟩), .int .i64 (n : Int), .func (.func 8) #[] #[.pointer (some ⟨LB, 0, none⟩), .pointer (some ⟨WB, 0, none⟩)]] w fun e w' => EdgesPost w w' LB n ids want e := by
  have hmk := make35 n (by have := h.bn; omega)
  have hn := h.bn
  have H : Hid (EdgesPre w lo up X LB WB WG n ids want) := h
  have HR0 : Hid (IRow (w.alloc (.cells (madeCells #[.int .i64 0, .int .i64 0] (n * 2)) 39)) .i64 w.heap.size (2 * n) (edg ids want 0)) := (made2 w n).congr (fun j _ => by simp [edg])
  have HL0 : Hid (LogAt (w.alloc (.cells (madeCells #[.int .i64 0, .int .i64 0] (n * 2)) 39)) LB (w.heap.size + 1) 0 (.slice none 0 0)) :=
    ⟨(World.cell?_alloc_past _ _ _ h.lb).trans h.log, (World.frozen?_alloc_past _ _ _ h.lb).trans h.logf, World.ownsRow_nil _ _ _ _, by have := h.lb; omega, by simp⟩
  clear h
  go_enter Yba.func9, Yba.ntmps9
  go_wp2
  go_loopw [17] (fun t wr => ∃ k : Nat, k ≤ n ∧ t = .int .i64 k ∧ Hid (∀ j, j < 2 * k → want j ∈ ids) ∧ Hid (∃ v, LogAt wr LB (w.heap.size + 1) (2 * k) v) ∧ Hid (IRow wr .i64 w.heap.size (2 * n) (edg ids want k)) ∧ But LB w.heap.size w wr)
    (fun t _ => n - (intOf t).toNat)
  case atStart => exact ⟨0, Nat.zero_le _, rfl, fun j hj => absurd hj (by omega), ⟨_, HL0.out⟩, HR0.out, But.of_below ((Below.refl _ _).alloc (Nat.le_refl _) _)⟩
  case round =>
    obtain ⟨k, hk, rfl, HW, HL, HR, hbut⟩ := hrel
    clear HL0 HR0 hmk
    by_cases hlt : k < n
    · obtain ⟨v, hl⟩ := HL.out
      have hp := H.out
      have ha1 : wr.cell? ⟨WB, 0, none⟩ = some (.slice (some ⟨WG, 0, none⟩) (2 * n) (2 * n)) := (hbut.cell (p := ⟨WB, 0, none⟩) hp.wb.1 hp.wb.2).trans hp.w1
      have ha2 : wr.cell? ⟨WG, 2 * k, none⟩ = some (.int .u64 (want (2 * k))) := (hbut.cell (p := ⟨WG, 2 * k, none⟩) hp.wg.1 hp.wg.2).trans (hp.w2 _ (by omega))
      have hix : Index wr lo up X ids := hp.index.kept hbut.size (fun j h1 h2 => hbut.block j (by have := hp.index.bd; omega) (by have := hp.upLB; omega))
      have hwb : WB < w.heap.size + 1 ∧ WB ≠ LB := by have := hp.wb; omega
      have hwg : WG < w.heap.size + 1 ∧ WG ≠ LB := by have := hp.wg; omega
      have hx0 := hp.w3 (2 * k) (by omega)
      have HP : Hid _ := hp
      clear hp
      go_wp2_with fail
      refine (closure_any LB WB WG (w.heap.size + 1) (2 * n) (2 * k) _ (by omega) v (want (2 * k)) wr (by omega) (by omega) hl hwb hwg ha1 ha2).mono ?_
      rintro e w2 ⟨v2, rfl, hl2, hb2⟩
      have hb2' : But LB w.heap.size wr w2 := ⟨hb2.os, hb2.tape, hb2.output, hb2.size, fun j h1 h2 => hb2.block j (by omega) h2⟩
      have hbut2 := hbut.trans hb2'
      have hix2 : Index w2 lo up X ids := HP.out.index.kept hbut2.size (fun j h1 h2 => hbut2.block j (by have := HP.out.index.bd; omega) (by have := HP.out.upLB; omega))
      have HR2 : Hid (IRow w2 .i64 w.heap.size (2 * n) (edg ids want k)) := HR.out.kept (hb2.block w.heap.size (by omega) (by have := HP.out.lb; omega))
      clear hix hl HL HR hb2 hb2' hbut ha1 ha2
      go_wp2_with fail
      refine (place_any lo up X ids (want (2 * k)) hx0 w2 hix2).mono ?_
      rintro e w3 ⟨s, rfl, hs, hw3⟩
      subst hw3
      have HS : Hid (Placed ids (want (2 * k)) s) := hs
      clear hs hx0
      by_cases hm : want (2 * k) ∈ ids
      · have hd : decide (want (2 * k) ∈ ids) = true := decide_eq_true hm
        have HM : Hid (want (2 * k) ∈ ids) := hm
        clear hm
        have ha1 : w3.cell? ⟨WB, 0, none⟩ = some (.slice (some ⟨WG, 0, none⟩) (2 * n) (2 * n)) := (hbut2.cell (p := ⟨WB, 0, none⟩) HP.out.wb.1 HP.out.wb.2).trans HP.out.w1
        have ha2 : w3.cell? ⟨WG, 2 * k + 1, none⟩ = some (.int .u64 (want (2 * k + 1))) := (hbut2.cell (p := ⟨WG, 2 * k + 1, none⟩) HP.out.wg.1 HP.out.wg.2).trans (HP.out.w2 _ (by omega))
        go_wp2_with fail
        refine (closure_any LB WB WG (w.heap.size + 1) (2 * n) (2 * k + 1) _ (by omega) v2 (want (2 * k + 1)) w3 (by omega) (by omega) hl2 hwb hwg ha1 ha2).mono ?_
        rintro e w4 ⟨v4, rfl, hl4, hb4⟩
        have hb4' : But LB w.heap.size w3 w4 := ⟨hb4.os, hb4.tape, hb4.output, hb4.size, fun j h1 h2 => hb4.block j (by omega) h2⟩
        have hbut4 := hbut2.trans hb4'
        have hix4 : Index w4 lo up X ids := HP.out.index.kept hbut4.size (fun j h1 h2 => hbut4.block j (by have := HP.out.index.bd; omega) (by have := HP.out.upLB; omega))
        have HR4 : Hid (IRow w4 .i64 w.heap.size (2 * n) (edg ids want k)) := HR2.out.kept (hb4.block w.heap.size (by omega) (by have := HP.out.lb; omega))
        have hx4 := HP.out.w3 (2 * k + 1) (by omega)
        clear hix2 hl2 HR2 hb4 hb4' hbut2 ha1 ha2
        go_wp2_with fail
        refine (place_any lo up X ids (want (2 * k + 1)) hx4 w4 hix4).mono ?_
        rintro e w5 ⟨t, rfl, ht, hw5⟩
        subst hw5
        have HT : Hid (Placed ids (want (2 * k + 1)) t) := ht
        clear ht hx4
        by_cases hm4 : want (2 * k + 1) ∈ ids
        · have hd4 : decide (want (2 * k + 1) ∈ ids) = true := decide_eq_true hm4
          have HM4 : Hid (want (2 * k + 1) ∈ ids) := hm4
          have HN : Hid (∀ j, j < 2 * (k + 1) → want j ∈ ids) := by
            intro j hj
            by_cases e1 : j = 2 * k + 1
            · subst e1; exact hm4
            · by_cases e2 : j = 2 * k
              · subst e2; exact HM.out
              · exact HW.out j (by omega)
          clear hm4
          have hc1 := HR4.out.cell (k * 2) (by omega)
          have hc2 := HR4.out.cell (k * 2 + 1) (by omega)
          have hf := HR4.out.frozen
          have HRN := edg_step HR4.out hlt s t (HS.out HM.out) (HT.out HM4.out)
          have HRN' : Hid _ := HRN
          have hkn : (k : Int) < (n : Int) := by omega
          clear HRN
          go_wp2
          go_roundw
          case rel =>
            refine ⟨k + 1, by omega, by go_num, HN, ?_, HRN'.out, ?_⟩
            · refine ⟨v4, ?_, ?_, ?_, hl4.lt, ?_⟩
              · have hne : w.heap.size ≠ LB := by have := HP.out.lb; omega
                rw [World.cell?_setCell_other _ _ _ _ (fun q => hne (congrArg Addr.block q)), World.cell?_setCell_other _ _ _ _ (fun q => hne (congrArg Addr.block q))]; exact hl4.cell
              · rw [World.frozen?_setCell, World.frozen?_setCell]; exact hl4.frozen
              · exact ownsRow_setCell_below (ownsRow_setCell_below hl4.own (by simp) _) (by simp) _
              · have := hl4.size; simpa [World.setCell] using this
            · refine hbut4.trans (But.of_below (Below.setCell (Below.setCell (Below.refl _ _) ?_ _) ?_ _))
              · exact Nat.le_refl _
              · exact Nat.le_refl _
          case measure => simp [intOf]; omega
        · have hd4 : decide (want (2 * k + 1) ∈ ids) = false := decide_eq_false hm4
          have HM4 : Hid (want (2 * k + 1) ∉ ids) := hm4
          have HN : Hid (∀ j, j < 2 * k + 1 → want j ∈ ids) := by
            intro j hj
            by_cases e2 : j = 2 * k
            · subst e2; exact HM.out
            · exact HW.out j (by omega)
          clear hm4
          go_wp2
          go_ret2
          have e0 : ((2 * k + 1 : Nat) : Int) = 2 * (k : Int) + 1 := by omega
          refine .inr ⟨2 * k + 1, v4, by omega, HN, HM4, ?_, hl4, hbut4⟩
          rw [e0]
          rfl
      · have hd : decide (want (2 * k) ∈ ids) = false := decide_eq_false hm
        have HM : Hid (want (2 * k) ∉ ids) := hm
        clear hm
        go_wp2
        go_ret2
        have e0 : ((2 * k : Nat) : Int) = 2 * (k : Int) := by omega
        refine .inr ⟨2 * k, v2, by omega, HW, HM, ?_, hl2, hbut2⟩
        rw [e0]
        rfl
    · have hkn : k = n := by omega
      subst hkn
      obtain ⟨v, hl⟩ := HL.out
      go_wp2
      go_ret2
      exact .inl ⟨v, HW, rfl, hl, HR, hbut⟩
end Go.Proofs.Ybulkvrs
