/- The index of identifiers: plain facts (the table, the map), the predicate 'Index', the walk of 'place' (func 14). -/
import Derived.Test.YbulkvrsIds
import Derived.RegionTactic
import Derived.BigRegion
import Derived.Deep.QuietTactic
import Derived.BigQuiet
import Derived.Maps.OwnSet
namespace Go.Proofs.Ybulkvrs
open Go.RowKit
set_option linter.unusedVariables false

/-- A row of n numbers of kind q at the head of block B; nothing of it is frozen. -/
structure IRow (w : World) (q : IntKind) (B n : Nat) (c : Nat → Int) : Prop where
  cell : ∀ j, j < n → w.cell? ⟨B, j, none⟩ = some (.int q (c j))
  frozen : ∀ o, w.frozen? ⟨B, o, none⟩ = false

theorem IRow.congr {w : World} {q : IntKind} {B n : Nat} {c d : Nat → Int} (h : IRow w q B n c) (e : ∀ j, j < n → c j = d j) : IRow w q B n d :=
  ⟨fun j hj => by rw [h.cell j hj, e j hj], h.frozen⟩
theorem IRow.set {w : World} {q : IntKind} {B n : Nat} {c : Nat → Int} (h : IRow w q B n c) (j0 : Nat) (hj : j0 < n) (v : Int) :
    IRow (w.setCell ⟨B, j0, none⟩ (.int q v)) q B n (fun j => if j = j0 then v else c j) := by
  refine ⟨fun j hj' => ?_, fun o => by rw [World.frozen?_setCell]; exact h.frozen o⟩
  by_cases e : j = j0
  · subst e
    simp only [if_true]
    exact World.cell?_setCell_same _ _ _ (h.cell j hj)
  · rw [if_neg e, World.cell?_setCell_other]
    · exact h.cell j hj'
    · intro q
      simp only [Addr.mk.injEq, true_and, and_true] at q
      omega
theorem IRow.far {w : World} {q : IntKind} {B n : Nat} {c : Nat → Int} (h : IRow w q B n c) (p : Addr) (hp : p.block ≠ B) (v : Value) : IRow (w.setCell p v) q B n c := by
  refine ⟨fun j hj => ?_, fun o => by rw [World.frozen?_setCell]; exact h.frozen o⟩
  rw [World.cell?_setCell_other]
  · exact h.cell j hj
  · intro q
    exact hp (by rw [q])
/-- A row stays while its block stays. -/
theorem IRow.kept {w w' : World} {q : IntKind} {B n : Nat} {c : Nat → Int} (h : IRow w q B n c) (hb : w'.heap[B]? = w.heap[B]?) : IRow w' q B n c :=
  ⟨fun j hj => (World.cell?_of_block (w := w) (a := ⟨B, j, none⟩) hb).trans (h.cell j hj), fun o => (World.frozen?_of_block (w := w) (a := ⟨B, o, none⟩) hb).trans (h.frozen o)⟩

theorem IRow.made (w : World) (q : IntKind) (t : TypeId) (n : Nat) : IRow (w.alloc (.cells (madeCells #[.int q 0] n) t)) q w.heap.size n (fun _ => 0) := by
  refine ⟨fun j hj => ?_, fun o => World.frozen?_alloc_at _ _ _ _ rfl⟩
  rw [World.cell?_alloc_at _ _ _ _ rfl]
  simp only [madeCells, Array.getElem?_map]
  rw [Array.getElem?_range, if_pos hj]
  have e : (#[Value.int q 0] : Array Value).size = 1 := rfl
  simp only [Option.map_some, e, Nat.mod_one]
  rfl

/-! ### the table, as plain mathematics -/
/-- After k rounds: at d the place of 'low + d' plus one where that is among the first k identifiers, else 0. -/
def tab (ids : List Int) (low : Int) (k d : Nat) : Int := if low + d ∈ ids.take k then (ids.idxOf (low + d) : Int) + 1 else 0

theorem mem_take_succ {ids : List Int} {k : Nat} (hk : k < ids.length) (x : Int) : x ∈ ids.take (k + 1) ↔ x ∈ ids.take k ∨ x = ids.getD k 0 := by
  rw [List.take_succ_eq_append_getElem hk, List.mem_append, List.getD_eq_getElem?_getD, List.getElem?_eq_getElem hk]
  simp

theorem not_mem_take {ids : List Int} (hn : ids.Nodup) {k : Nat} (hk : k < ids.length) : ids.getD k 0 ∉ ids.take k := by
  rw [List.getD_eq_getElem?_getD, List.getElem?_eq_getElem hk, Option.getD_some]
  intro h
  obtain ⟨i, hi, e⟩ := List.getElem_of_mem h
  have hi' : i < k := by simp at hi; omega
  have e' : ids[i]'(by omega) = ids[k] := by simpa using e
  have := (List.getElem_inj (h₀ := by omega) (h₁ := hk) hn).1 e'
  omega

theorem idxOf_getD {ids : List Int} (hn : ids.Nodup) {k : Nat} (hk : k < ids.length) : ids.idxOf (ids.getD k 0) = k := by
  rw [List.getD_eq_getElem?_getD, List.getElem?_eq_getElem hk, Option.getD_some]
  exact hn.idxOf_getElem k hk

theorem tab_step {ids : List Int} (hn : ids.Nodup) {low : Int} {k D : Nat} (hk : k < ids.length) (hD : low + D = ids.getD k 0) (d : Nat) :
    tab ids low (k + 1) d = if d = D then (k : Int) + 1 else tab ids low k d := by
  unfold tab
  by_cases e : d = D
  · subst e
    rw [if_pos rfl, if_pos ((mem_take_succ hk _).2 (.inr hD)), hD, idxOf_getD hn hk]
  · rw [if_neg e]
    have h1 : low + (d : Int) ≠ ids.getD k 0 := by omega
    have h2 : low + (d : Int) ∈ ids.take (k + 1) ↔ low + (d : Int) ∈ ids.take k := ⟨fun h => ((mem_take_succ hk _).1 h).resolve_right h1, fun h => (mem_take_succ hk _).2 (.inl h)⟩
    by_cases h : low + (d : Int) ∈ ids.take k
    · rw [if_pos h, if_pos (h2.2 h)]
    · rw [if_neg h, if_neg (fun q => h (h2.1 q))]

theorem tab_zero {ids : List Int} (hn : ids.Nodup) {low : Int} {k D : Nat} (hk : k < ids.length) (hD : low + D = ids.getD k 0) : tab ids low k D = 0 := by
  unfold tab
  rw [if_neg]
  rw [hD]
  exact not_mem_take hn hk

theorem tab_start (ids : List Int) (low : Int) (d : Nat) : tab ids low 0 d = 0 := by simp [tab]

theorem tab_all {ids : List Int} (low : Int) (d : Nat) : tab ids low ids.length d = if low + d ∈ ids then (ids.idxOf (low + d) : Int) + 1 else 0 := by
  simp [tab]

/-! ### the map, as plain mathematics -/
def mp (ids : List Int) : Nat → DataW Unit
  | 0 => .map []
  | k + 1 => (mp ids k).put (.int .u64 (ids.getD k 0)) (.lit (.int .i64 k))

theorem mp_isMap (ids : List Int) : ∀ k, Maps.IsMap (mp ids k)
  | 0 => Maps.isMap_empty
  | k + 1 => (mp_isMap ids k).put _ _

theorem key_u64 {x : Int} (h : 0 ≤ x ∧ x ≤ 18446744073709551615) : (Lit.int .u64 x).wf = true := WalkArith.wf_u64 (by omega)

theorem mp_has {ids : List Int} (x : Int) : ∀ k, k ≤ ids.length → Maps.has (mp ids k) (.int .u64 x) = decide (x ∈ ids.take k)
  | 0, _ => by simp [mp, Maps.has]
  | k + 1, hk => by
    have hk' : k < ids.length := by omega
    by_cases e : x = ids.getD k 0
    · subst e
      rw [mp, Maps.has_put_same (mp_isMap ids k) (by simp [WideAt.IsKeyLit])]
      symm
      rw [decide_eq_true_iff]
      exact (mem_take_succ hk' _).2 (.inr rfl)
    · rw [mp, Maps.has_put_other (by simpa using e), mp_has x k (by omega)]
      rw [Bool.eq_iff_iff, decide_eq_true_iff, decide_eq_true_iff, mem_take_succ hk']
      exact ⟨.inl, fun h => h.resolve_right e⟩

theorem mp_at {ids : List Int} (hn : ids.Nodup) (x : Int) (z : DataW Unit) : ∀ k, k ≤ ids.length → x ∈ ids.take k → (mp ids k).atKey (.int .u64 x) z = .lit (.int .i64 (ids.idxOf x))
  | 0, _, h => by simp at h
  | k + 1, hk, h => by
    have hk' : k < ids.length := by omega
    by_cases e : x = ids.getD k 0
    · subst e
      rw [mp, Maps.atKey_put_same (mp_isMap ids k) (by simp [WideAt.IsKeyLit]), idxOf_getD hn hk']
    · rw [mp, Maps.atKey_put_other (by simpa using e)]
      refine mp_at hn x z k (by omega) ?_
      rcases (mem_take_succ hk' x).1 h with h | h
      · exact h
      · exact absurd h e

/-- The index in memory: at block X, for the identifiers 'ids'. All that it leads to lies in the blocks from 'lo' to below 'up'. -/
structure Index (w : World) (lo up X : Nat) (ids : List Int) : Prop where
  nodup : ids.Nodup
  len : ids.length ≤ 1024
  bd : lo ≤ X ∧ X < up ∧ up ≤ w.heap.size
  how : (∃ (low : Int) (P D : Nat), w.cell? ⟨X, 0, none⟩ = some (.int .u64 low) ∧ w.cell? ⟨X, 1, none⟩ = some (.slice (some ⟨P, 0, none⟩) (D + 1) (D + 1)) ∧ IRow w .u32 P (D + 1) (tab ids low ids.length) ∧
      0 ≤ low ∧ low + D ≤ 18446744073709551615 ∧ D ≤ 4096 ∧ lo ≤ P ∧ P < up ∧ ∀ x ∈ ids, low ≤ x ∧ x ≤ low + D) ∨
    (∃ M : Nat, w.cell? ⟨X, 1, none⟩ = some (.slice none 0 0) ∧ w.cell? ⟨X, 2, none⟩ = some (.map (some M)) ∧ lo ≤ M ∧ M < up ∧ w.ownsMap Yba.prog 31 (plainElem Yba.prog 3) M ids.length (mp ids ids.length)) ∨
    (ids = [] ∧ w.cell? ⟨X, 1, none⟩ = some (.slice none 0 0) ∧ w.cell? ⟨X, 2, none⟩ = some (.map none))

/-- It stays while the blocks of its range stay. -/
theorem Index.kept {w w' : World} {lo up X : Nat} {ids : List Int} (h : Index w lo up X ids) (hs : w.heap.size ≤ w'.heap.size) (hb : ∀ k, lo ≤ k → k < up → w'.heap[k]? = w.heap[k]?) : Index w' lo up X ids := by
  obtain ⟨h1, h2, h3, h4⟩ := h
  have hX := hb X h3.1 h3.2.1
  have cX : ∀ o, w'.cell? ⟨X, o, none⟩ = w.cell? ⟨X, o, none⟩ := fun o => World.cell?_of_block (w := w) (a := ⟨X, o, none⟩) hX
  refine ⟨h1, h2, ⟨h3.1, h3.2.1, by omega⟩, ?_⟩
  rcases h4 with ⟨low, P, D, a, b, c, d, e, f, g, i, j⟩ | ⟨M, a, b, c, d, es, clock, e, f⟩ | ⟨a, b, c⟩
  · exact .inl ⟨low, P, D, (cX _).trans a, (cX _).trans b, c.kept (hb P g i), d, e, f, g, i, j⟩
  · exact .inr (.inl ⟨M, (cX _).trans a, (cX _).trans b, c, d, es, clock, (hb M c d).trans e, f⟩)
  · exact .inr (.inr ⟨a, (cX _).trans b, (cX _).trans c⟩)

theorem law31 : Maps.Keyed Yba.prog 31 := Maps.int_keyed Yba.underlying31
theorem zero3 (w : World) : (zeroValue 3).run Yba.prog w = .ok (.int .i64 0) w := by kernel_rfl

/-- What 'place' answers: whether the identifier is there, and where. -/
def Placed (ids : List Int) (x : Int) (v : Int) : Prop := x ∈ ids → v = (ids.idxOf x : Int)

set_option maxRecDepth 100000 in
set_option maxHeartbeats 1000000 in
theorem place_hit (X P D d : Nat) (low v : Int) (w : World) (h0 : w.cell? ⟨X, 0, none⟩ = some (.int .u64 low)) (h1 : w.cell? ⟨X, 1, none⟩ = some (.slice (some ⟨P, 0, none⟩) (D + 1) (D + 1)))
    (hl0 : 0 ≤ low) (hl1 : low + D ≤ 18446744073709551615) (hD : D ≤ 4096) (hd : d < D + 1) (hcell : w.cell? ⟨P, d, none⟩ = some (.int .u32 v)) (hv : 0 < v ∧ v ≤ 1024) :
    Calls Yba.prog 14 #[.pointer (some ⟨X, 0, none⟩), .int .u64 (low + d)] w fun e w' => e = .returned (.tuple #[.int .i64 (v - 1), .bool true]) ∧ w' = w := by
  have hnil := fun w a n c => Lib.run_eql_slice_nil (P := Yba.prog) w 60 45 a n c 0 0 Yba.underlying60
  have e1 : low + (d : Int) - low = (d : Int) := by omega
  have e2 : (d : Int) < (D : Int) + 1 := by omega
  have e3 : (v != 0) = true := by simp; omega
  obtain ⟨hv0, hv1⟩ := hv
  go_enter Yba.func14, Yba.ntmps14
  go_wp2
  go_ret2
  exact ⟨rfl, rfl⟩

set_option maxRecDepth 100000 in
set_option maxHeartbeats 1000000 in
theorem place_miss (X P D d : Nat) (low : Int) (w : World) (h0 : w.cell? ⟨X, 0, none⟩ = some (.int .u64 low)) (h1 : w.cell? ⟨X, 1, none⟩ = some (.slice (some ⟨P, 0, none⟩) (D + 1) (D + 1)))
    (hl0 : 0 ≤ low) (hl1 : low + D ≤ 18446744073709551615) (hD : D ≤ 4096) (hd : d < D + 1) (hcell : w.cell? ⟨P, d, none⟩ = some (.int .u32 0)) :
    Calls Yba.prog 14 #[.pointer (some ⟨X, 0, none⟩), .int .u64 (low + d)] w fun e w' => e = .returned (.tuple #[.int .i64 (-1), .bool false]) ∧ w' = w := by
  have hnil := fun w a n c => Lib.run_eql_slice_nil (P := Yba.prog) w 60 45 a n c 0 0 Yba.underlying60
  have e1 : low + (d : Int) - low = (d : Int) := by omega
  have e2 : (d : Int) < (D : Int) + 1 := by omega
  go_enter Yba.func14, Yba.ntmps14
  go_wp2
  go_ret2
  exact ⟨rfl, rfl⟩

set_option maxRecDepth 100000 in
set_option maxHeartbeats 1000000 in
theorem place_past (X P D : Nat) (low x : Int) (w : World) (h0 : w.cell? ⟨X, 0, none⟩ = some (.int .u64 low)) (h1 : w.cell? ⟨X, 1, none⟩ = some (.slice (some ⟨P, 0, none⟩) (D + 1) (D + 1)))
    (hl0 : 0 ≤ low) (hl1 : low + D ≤ 18446744073709551615) (hD : D ≤ 4096) (hx0 : 0 ≤ x) (hx1 : x ≤ 18446744073709551615) (hd : low + D < x) :
    Calls Yba.prog 14 #[.pointer (some ⟨X, 0, none⟩), .int .u64 x] w fun e w' => e = .returned (.tuple #[.int .i64 0, .bool false]) ∧ w' = w := by
  have hnil := fun w a n c => Lib.run_eql_slice_nil (P := Yba.prog) w 60 45 a n c 0 0 Yba.underlying60
  have e2 : ¬ x - low < (D : Int) + 1 := by omega
  go_enter Yba.func14, Yba.ntmps14
  go_wp2
  go_ret2
  exact ⟨rfl, rfl⟩

theorem wrap_low {x low : Int} (h0 : 0 ≤ x) (h1 : x < low) (h2 : low ≤ 18446744073709551615) : IntKind.u64.wrap (x - low) = x - low + 18446744073709551616 := by
  rw [IntKind.wrap_u64]; omega

set_option maxRecDepth 100000 in
set_option maxHeartbeats 1000000 in
theorem place_before (X P D : Nat) (low x : Int) (w : World) (h0 : w.cell? ⟨X, 0, none⟩ = some (.int .u64 low)) (h1 : w.cell? ⟨X, 1, none⟩ = some (.slice (some ⟨P, 0, none⟩) (D + 1) (D + 1)))
    (hl0 : 0 ≤ low) (hl1 : low + D ≤ 18446744073709551615) (hD : D ≤ 4096) (hx0 : 0 ≤ x) (hd : x < low) :
    Calls Yba.prog 14 #[.pointer (some ⟨X, 0, none⟩), .int .u64 x] w fun e w' => e = .returned (.tuple #[.int .i64 0, .bool false]) ∧ w' = w := by
  have hnil := fun w a n c => Lib.run_eql_slice_nil (P := Yba.prog) w 60 45 a n c 0 0 Yba.underlying60
  have e2 : ¬ IntKind.u64.wrap (x - low) < (D : Int) + 1 := by rw [wrap_low hx0 hd (by omega)]; omega
  go_enter Yba.func14, Yba.ntmps14
  go_wp2
  go_ret2
  exact ⟨rfl, rfl⟩

set_option maxRecDepth 100000 in
set_option maxHeartbeats 1000000 in
theorem place_map (X M : Nat) (ids : List Int) (hnd : ids.Nodup) (x : Int) (hx0 : 0 ≤ x) (hx1 : x ≤ 18446744073709551615) (w : World) (h1 : w.cell? ⟨X, 1, none⟩ = some (.slice none 0 0)) (h2 : w.cell? ⟨X, 2, none⟩ = some (.map (some M)))
    (hown : w.ownsMap Yba.prog 31 (plainElem Yba.prog 3) M ids.length (mp ids ids.length)) :
    Calls Yba.prog 14 #[.pointer (some ⟨X, 0, none⟩), .int .u64 x] w fun e w' => ∃ v : Int, e = .returned (.tuple #[.int .i64 v, .bool (decide (x ∈ ids))]) ∧ Placed ids x v ∧ w' = w := by
  have hnil := fun w a n c => Lib.run_eql_slice_nil (P := Yba.prog) w 60 45 a n c 0 0 Yba.underlying60
  have hz0 : (Lit.int .i64 0).wf = true := by decide
  obtain ⟨v, ps, hrun, hv⟩ := hown.look_ok law31 Yba.underlying61 (zero3 w) (plainElem_int Yba.underlying3 hz0) (Maps.keyOf_int_mk Yba.underlying31 (key_u64 ⟨hx0, hx1⟩))
  obtain ⟨c, rfl, hc, hwc⟩ := plainElem_int_inv Yba.underlying3 hv
  rw [mp_has x ids.length (Nat.le_refl _), List.take_length] at hrun
  have HP : Hid (Placed ids x c) := by
    intro hm
    simp only [Prod.mk.injEq] at hc
    have := hc.1
    rw [mp_at hnd x _ ids.length (Nat.le_refl _) (by simpa using hm)] at this
    simp at this
    exact this.symm
  clear hc hv
  go_enter Yba.func14, Yba.ntmps14
  go_wp2
  go_ret2
  exact ⟨c, rfl, HP.out, rfl⟩

set_option maxRecDepth 100000 in
set_option maxHeartbeats 1000000 in
theorem place_none (X : Nat) (x : Int) (hx0 : 0 ≤ x) (hx1 : x ≤ 18446744073709551615) (w : World) (h1 : w.cell? ⟨X, 1, none⟩ = some (.slice none 0 0)) (h2 : w.cell? ⟨X, 2, none⟩ = some (.map none)) :
    Calls Yba.prog 14 #[.pointer (some ⟨X, 0, none⟩), .int .u64 x] w fun e w' => e = .returned (.tuple #[.int .i64 0, .bool false]) ∧ w' = w := by
  have hnil := fun w a n c => Lib.run_eql_slice_nil (P := Yba.prog) w 60 45 a n c 0 0 Yba.underlying60
  have hrun := Maps.look_nil true law31 Yba.underlying61 (zero3 w) (Maps.keyOf_int_mk Yba.underlying31 (key_u64 ⟨hx0, hx1⟩))
  simp only [if_true] at hrun
  go_enter Yba.func14, Yba.ntmps14
  go_wp2
  go_ret2
  exact ⟨rfl, rfl⟩

theorem place_any (lo up X : Nat) (ids : List Int) (x : Int) (hx : 0 ≤ x ∧ x ≤ 18446744073709551615) (w : World) (h : Index w lo up X ids) :
    Calls Yba.prog 14 #[.pointer (some ⟨X, 0, none⟩), .int .u64 x] w fun e w' => ∃ v : Int, e = .returned (.tuple #[.int .i64 v, .bool (decide (x ∈ ids))]) ∧ Placed ids x v ∧ w' = w := by
  obtain ⟨hnd, hlen, hbd, hh⟩ := h
  obtain ⟨hx0, hx1⟩ := hx
  rcases hh with ⟨low, P, D, h0, h1, hrow, hl0, hl1, hD, _, _, hin⟩ | ⟨M, h1, h2, _, _, hown⟩ | ⟨rfl, h1, h2⟩
  · by_cases hc : low ≤ x ∧ x ≤ low + D
    · obtain ⟨d, hd, hdD⟩ : ∃ d : Nat, x = low + d ∧ d < D + 1 := ⟨(x - low).toNat, by omega, by omega⟩
      subst hd
      have hcell := hrow.cell d hdD
      rw [tab_all] at hcell
      by_cases hm : low + (d : Int) ∈ ids
      · rw [if_pos hm] at hcell
        have hb : ids.idxOf (low + (d : Int)) < ids.length := List.idxOf_lt_length_of_mem hm
        refine (place_hit X P D d low _ w h0 h1 hl0 hl1 hD hdD hcell (by omega)).mono fun e w' ⟨h, hw⟩ => ⟨(ids.idxOf (low + (d : Int)) : Int), ?_, fun _ => rfl, hw⟩
        rw [h, decide_eq_true hm]
        simp
      · rw [if_neg hm] at hcell
        exact (place_miss X P D d low w h0 h1 hl0 hl1 hD hdD hcell).mono fun e w' ⟨h, hw⟩ => ⟨-1, by rw [h, decide_eq_false hm], fun q => absurd q hm, hw⟩
    · have hm : x ∉ ids := fun q => hc (hin x q)
      rcases Int.lt_or_le x low with hlt | hge
      · exact (place_before X P D low x w h0 h1 hl0 hl1 hD hx0 hlt).mono fun e w' ⟨h, hw⟩ => ⟨0, by rw [h, decide_eq_false hm], fun q => absurd q hm, hw⟩
      · exact (place_past X P D low x w h0 h1 hl0 hl1 hD hx0 hx1 (by omega)).mono fun e w' ⟨h, hw⟩ => ⟨0, by rw [h, decide_eq_false hm], fun q => absurd q hm, hw⟩
  · exact place_map X M ids hnd x hx0 hx1 w h1 h2 hown
  · exact (place_none X x hx0 hx1 w h1 h2).mono fun e w' ⟨h, hw⟩ => ⟨0, by rw [h]; simp, fun q => absurd q (by simp), hw⟩
end Go.Proofs.Ybulkvrs
