/- The walk of the law 'LawS1097APlace' (func 3). -/
import Derived.Test.YbulkvrsEdges
namespace Go.Proofs.Ybulkvrs
open Go.RowKit
set_option linter.unusedVariables false

/-- What the law is told of a slice of uint64 that came in. -/
def RawOk (w : World) (a : Option Addr) (n : Nat) (z : List Int) : Prop :=
  n = 0 ∨ ∃ b off, a = some ⟨b, off, none⟩ ∧ b < w.heap.size ∧ (∀ j, j < n → w.cell? ⟨b, off + j, none⟩ = some (.int .u64 (z.getD j 0))) ∧ ∀ j, j < n → 0 ≤ z.getD j 0 ∧ z.getD j 0 ≤ 18446744073709551615

theorem ids_any (a : Option Addr) (n cap : Nat) (z : List Int) (w : World) (hn : n ≤ 1024) (h : RawOk w a n z) :
    Calls Yba.prog 6 #[.slice a n cap] w fun e w' => ∃ (L : List Int) (c : Nat), e = .returned (.slice (some ⟨w.heap.size, 0, none⟩) L.length c) ∧ L.Nodup ∧ U64s L ∧ L.length ≤ 1024 ∧ w.heap.size < w'.heap.size ∧
      (∀ j, j < L.length → w'.cell? ⟨w.heap.size, j, none⟩ = some (.int .u64 (L.getD j 0))) ∧ Below w.heap.size w w' := by
  rcases h with rfl | ⟨b, off, rfl, hb, hc, hz⟩
  · refine (ids_none a cap w).mono fun e w' ⟨h1, h2, h3⟩ => ⟨[], 0, h1, List.nodup_nil, fun x hx => absurd hx (by simp), by simp, ?_, fun j hj => absurd hj (by simp), h3⟩
    exact (h2.lt _ rfl).2
  · refine (ids_some b off n cap z w hn hb hc hz).mono fun e w' ⟨L, h1, h2, h3, h4, h5, h6⟩ => ⟨L, n, h1, h2, h3, by omega, (h5.lt _ rfl).2, fun j hj => ?_, h6⟩
    rw [h5.cellAt j (by omega)]
    simp [hj]

theorem index_any (g cap m : Nat) (ids : List Int) (HM : Hid (m = ids.length)) (hnd : ids.Nodup) (hu : U64s ids) (hlen : m ≤ 1024) (w : World) (hg : g < w.heap.size)
    (hc : ∀ j, j < m → w.cell? ⟨g, j, none⟩ = some (.int .u64 (ids.getD j 0))) :
    Calls Yba.prog 7 #[.slice (some ⟨g, 0, none⟩) m cap] w fun e w' => ∃ up, e = .returned (.tuple #[.pointer (some ⟨w.heap.size, 0, none⟩), .nilIface]) ∧ Index w' w.heap.size up w.heap.size ids ∧ Below w.heap.size w w' := by
  by_cases h0 : m = 0
  · have : ids = [] := List.length_eq_zero_iff.1 (by rw [← HM.out]; exact h0)
    subst this
    subst h0
    exact (index_zero g cap w).mono fun e w' ⟨h1, h2, h3⟩ => ⟨_, h1, h2, h3⟩
  · exact index_some g cap m ids HM hnd hu hlen (by omega) w hg hc

theorem make23 (c : Int) (N : Nat) (hc : c = 2 * (N : Int)) (hn : N ≤ 512) (w : World) : (Instr.makeSlice 23 (.int .i64 c) (.int .i64 c)).run Yba.prog w = .ok (.slice (some ⟨w.heap.size, 0, none⟩) (2 * N) (2 * N)) (w.alloc (.cells (madeCells #[.int .u64 0] (2 * N)) 31)) := by
  obtain ⟨i0, hi, hz0, hz1, hz2⟩ := info_parts info31
  have hr := run_make (P := Yba.prog) w 23 31 i0 (.int .u64 0) Yba.underlying23 hi hz0 .i64 .i64 c c (by omega) (Int.le_refl _) (by rw [hz2]; omega) (by omega)
  have e : c.toNat = 2 * N := by omega
  rw [hr, hz1, e]
  simp [Value.cells]

theorem make33 (c : Int) (N : Nat) (hc : c = 2 * (N : Int)) (hn : N ≤ 512) (w : World) : (Instr.makeSlice 33 (.int .i64 c) (.int .i64 c)).run Yba.prog w = .ok (.slice (some ⟨w.heap.size, 0, none⟩) (2 * N) (2 * N)) (w.alloc (.cells (madeCells #[.int .i64 0] (2 * N)) 3)) := by
  obtain ⟨i0, hi, hz0, hz1, hz2⟩ := info_parts info3
  have hr := run_make (P := Yba.prog) w 33 3 i0 (.int .i64 0) Yba.underlying33 hi hz0 .i64 .i64 c c (by omega) (Int.le_refl _) (by rw [hz2]; omega) (by omega)
  have e : c.toNat = 2 * N := by omega
  rw [hr, hz1, e]
  simp [Value.cells]

/-- The wanted ends in memory, whatever they are. -/
structure Want (w wr : World) (N : Nat) (c : Nat → Int) : Prop where
  row : IRow wr .u64 w.heap.size (2 * N) c
  bd : ∀ j, 0 ≤ c j ∧ c j ≤ 18446744073709551615
  var : wr.cell? ⟨w.heap.size + 1, 0, none⟩ = some (.slice (some ⟨w.heap.size, 0, none⟩) (2 * N) (2 * N))
  size : wr.heap.size = w.heap.size + 2
  bel : Below w.heap.size w wr

theorem want_begin (w : World) (N : Nat) : Want w ((w.alloc (.cells (madeCells #[.int .u64 0] (2 * N)) 31)).alloc (.cells #[.slice (some ⟨w.heap.size, 0, none⟩) (2 * N) (2 * N)] 23)) N (fun _ => 0) := by
  refine ⟨(IRow.made w .u64 31 (2 * N)).kept (Below.heap_alloc _ _ _ (by simp)), fun j => by omega, ?_, by simp, ((Below.refl _ _).alloc (Nat.le_refl _) _).alloc (by simp) _⟩
  rw [World.cell?_alloc_at _ _ _ _ (by simp)]; rfl

theorem Want.step {w wr : World} {N : Nat} {c : Nat → Int} (h : Want w wr N c) (k : Nat) (hk : k < 2 * N) (x : Int) (hx : 0 ≤ x ∧ x ≤ 18446744073709551615) : Want w (wr.setCell ⟨w.heap.size, k, none⟩ (.int .u64 x)) N (fun j => if j = k then x else c j) := by
  obtain ⟨h1, h2, h3, h4, h5⟩ := h
  refine ⟨h1.set k hk x, fun j => ?_, ?_, by simpa [World.setCell] using h4, h5.setCell (Nat.le_refl _) _⟩
  · split
    · exact hx
    · exact h2 j
  · rw [World.cell?_setCell_other _ _ _ _ (by simp)]; exact h3

theorem Want.drew {w wr : World} {N : Nat} {c : Nat → Int} (h : Want w wr N c) : Want w wr.drew N c := by
  obtain ⟨⟨a, b⟩, h2, h3, h4, h5⟩ := h
  exact ⟨⟨a, b⟩, h2, h3, h4, h5.drew⟩

/-- The two ways in which 'placeEdges' may end, in one form. -/
def Alt (w' : World) (S n : Nat) (ids : List Int) (want : Nat → Int) (gv : Value) (bv : Int) (ln : Nat) : Prop :=
  ((∀ j, j < 2 * n → want j ∈ ids) ∧ gv = .slice (some ⟨S, 0, none⟩) n n ∧ bv = -1 ∧ ln = 2 * n ∧ IRow w' .i64 S (2 * n) (edg ids want n)) ∨
  (∃ e0, e0 < 2 * n ∧ (∀ j, j < e0 → want j ∈ ids) ∧ want e0 ∉ ids ∧ gv = .slice none 0 0 ∧ bv = (e0 : Int) ∧ ln = e0 + 1)

theorem edges_law (lo up X LB WB WG n S : Nat) (ids : List Int) (want : Nat → Int) (w : World) (hS : w.heap.size = S) (h : EdgesPre w lo up X LB WB WG n ids want) :
    Calls Yba.prog 9 #[.pointer (some ⟨X, 0, none⟩), .int .i64 (n : Int), .func (.func 8) #[] #[.pointer (some ⟨LB, 0, none⟩), .pointer (some ⟨WB, 0, none⟩)]] w fun e w' =>
      ∃ gv bv ln v, e = .returned (.tuple #[gv, .int .i64 bv]) ∧ LogAt w' LB (S + 1) ln v ∧ But LB S w w' ∧ Alt w' S n ids want gv bv ln := by
  subst hS
  refine (edges_any lo up X LB WB WG n ids want w h).mono fun e w' hp => ?_
  rcases hp with ⟨v, h1, h2, h3, h4, h5⟩ | ⟨e0, v, h0, h1, h2, h3, h4, h5⟩
  · exact ⟨_, _, _, v, h2, h3, h5, .inl ⟨h1, rfl, rfl, rfl, h4⟩⟩
  · exact ⟨_, _, _, v, h3, h4, h5, .inr ⟨e0, h0, h1, h2, rfl, rfl, rfl⟩⟩

/-- All that the rest of the law reads. -/
structure Ctx (w : World) (G WB WG LB base N m ln : Nat) (v : Value) (ids : List Int) (want : Nat → Int) : Prop where
  ids : ∀ j, j < m → w.cell? ⟨G, j, none⟩ = some (.int .u64 (ids.getD j 0))
  wb : w.cell? ⟨WB, 0, none⟩ = some (.slice (some ⟨WG, 0, none⟩) (2 * N) (2 * N))
  wg : ∀ e, e < 2 * N → w.cell? ⟨WG, e, none⟩ = some (.int .u64 (want e))
  log : LogAt w LB base ln v
  up : G < w.heap.size ∧ WB < w.heap.size ∧ WG < w.heap.size ∧ LB < w.heap.size

theorem Ctx.below {w w' : World} {G WB WG LB base N m ln : Nat} {v : Value} {ids : List Int} {want : Nat → Int} (h : Ctx w G WB WG LB base N m ln v ids want) (hb : Below w.heap.size w w') : Ctx w' G WB WG LB base N m ln v ids want := by
  obtain ⟨h1, h2, h3, ⟨l1, l2, l3, l4, l5⟩, u1, u2, u3, u4⟩ := h
  have hs := hb.size
  refine ⟨fun j hj => (hb.cell (p := ⟨G, j, none⟩) u1).trans (h1 j hj), (hb.cell (p := ⟨WB, 0, none⟩) u2).trans h2, fun e he => (hb.cell (p := ⟨WG, e, none⟩) u3).trans (h3 e he),
    ⟨(hb.cell (p := ⟨LB, 0, none⟩) u4).trans l1, (hb.frozen (p := ⟨LB, 0, none⟩) u4).trans l2, ?_, l4, by omega⟩, by omega, by omega, by omega, by omega⟩
  exact l3.kept (row := none) ⟨hb.os, hb.tape, hb.output, hb.size, fun k hk _ => hb.block k hk⟩ (by cases v <;> simp [Value.ownBlock] <;> rename_i a _ _ <;> cases a <;> simp)

/-- What 'pos' holds after k rounds. -/
def psn (ids : List Int) (want : Nat → Int) (k j : Nat) : Int := if j < k then (ids.idxOf (want j) : Int) else 0

theorem psn_step {w : World} {B N k : Nat} {ids : List Int} {want : Nat → Int} (h : IRow w .i64 B (2 * N) (psn ids want k)) (hk : k < 2 * N) (p : Int) (hp : p = (ids.idxOf (want k) : Int)) :
    IRow (w.setCell ⟨B, k, none⟩ (.int .i64 p)) .i64 B (2 * N) (psn ids want (k + 1)) := by
  refine (h.set k hk p).congr fun j hj => ?_
  unfold psn
  by_cases e : j = k
  · subst e
    rw [if_pos rfl, if_pos (by omega), hp]
  · rw [if_neg e]
    by_cases e2 : j < k
    · rw [if_pos e2, if_pos (by omega)]
    · rw [if_neg e2, if_neg (by omega)]

/-- The first place at which x stands is where the search stopped. -/
theorem first_at {ids : List Int} {x : Int} {j : Nat} (hj : j < ids.length) (hx : ids.getD j 0 = x) (hn : ids.Nodup) : x ∈ ids ∧ (j : Int) = (ids.idxOf x : Int) := by
  subst hx
  rw [idxOf_getD hn hj]
  refine ⟨?_, rfl⟩
  rw [List.getD_eq_getElem?_getD, List.getElem?_eq_getElem hj, Option.getD_some]
  exact List.getElem_mem hj

theorem not_at {ids : List Int} {x : Int} (h : ∀ i, i < ids.length → ids.getD i 0 ≠ x) : x ∉ ids := by
  intro hx
  obtain ⟨i, hi, e⟩ := List.getElem_of_mem hx
  exact h i hi (by rw [List.getD_eq_getElem?_getD, List.getElem?_eq_getElem hi, Option.getD_some]; exact e)

theorem alt_bad {w' : World} {S n k : Nat} {ids : List Int} {want : Nat → Int} {gv : Value} {bv : Int} {ln : Nat} (h : Alt w' S n ids want gv bv ln) (hk : k < 2 * n) (h1 : ∀ j, j < k → want j ∈ ids) (h2 : want k ∉ ids) :
    gv = .slice none 0 0 ∧ bv = (k : Int) ∧ ln = k + 1 := by
  rcases h with ⟨h, _⟩ | ⟨e0, a, b, c, d, e, f⟩
  · exact absurd (h k hk) h2
  · have : e0 = k := by
      rcases Nat.lt_trichotomy e0 k with q | q | q
      · exact absurd (h1 e0 q) c
      · exact q
      · exact absurd (b k q) h2
    subst this
    exact ⟨d, e, f⟩

theorem alt_good {w' : World} {S n : Nat} {ids : List Int} {want : Nat → Int} {gv : Value} {bv : Int} {ln : Nat} (h : Alt w' S n ids want gv bv ln) (h1 : ∀ j, j < 2 * n → want j ∈ ids) :
    gv = .slice (some ⟨S, 0, none⟩) n n ∧ bv = -1 ∧ ln = 2 * n ∧ IRow w' .i64 S (2 * n) (edg ids want n) := by
  rcases h with ⟨_, a, b, c, d⟩ | ⟨e0, a, b, c, _⟩
  · exact ⟨a, b, c, d⟩
  · exact absurd (h1 e0 a) c

/-- The log as the last loops read it: a slice of 'ln' numbers, number i at place i. -/
theorem log_shape {w : World} {LB base ln : Nat} {v : Value} (h : LogAt w LB base ln v) : ∃ ad cap, v = .slice ad ln cap ∧ (ln = 0 ∨ ∃ g, ad = some ⟨g, 0, none⟩ ∧ ∀ i, i < ln → w.cell? ⟨g, i, none⟩ = some (.int .i64 (i : Int))) := by
  rcases h.own.2 with ⟨h1, h2⟩ | ⟨g, cap, cur, hv, _⟩
  · exact ⟨none, 0, by rw [h1, h2], .inl h2⟩
  · refine ⟨_, cap, hv, .inr ⟨g, rfl, fun i hi => ?_⟩⟩
    have := h.own
    rw [hv] at this
    rw [this.cellAt i (by omega), cnt_get hi]

set_option maxRecDepth 100000 in
set_option maxHeartbeats 2000000 in
theorem placeLaw (a0 : Option Addr) (len0 cap0 : Nat) (z0 : List Int) (a1 : Option Addr) (len1 cap1 : Nat) (z1 : List Int) (w : World) (h0 : len0 ≤ 1024) (h1 : len1 ≤ 1024) (r0 : RawOk w a0 len0 z0) (r1 : RawOk w a1 len1 z1) :
    Calls Yba.prog 3 #[.slice a0 len0 cap0, .slice a1 len1 cap1] w fun e w' => e = .returned (.bool true) ∧ Below w.heap.size w w' := by
  have g0 : ¬ (1024 : Int) < (len0 : Int) := by omega
  have g1 : ¬ (1024 : Int) < (len1 : Int) := by omega
  obtain ⟨N, hN⟩ : ∃ N : Nat, (len1 : Int) / 2 = (N : Int) := ⟨len1 / 2, by omega⟩
  have hNl : 2 * N ≤ len1 := by omega
  have hN512 : N ≤ 512 := by omega
  have hmk23 := fun w => make23 (2 * (N : Int)) N rfl hN512 w
  go_enter Yba.func3, Yba.ntmps3
  go_wp2_with fail
  refine (ids_any a0 len0 cap0 z0 _ h0 r0).mono ?_
  rintro e w1 ⟨ids, c0, rfl, hnd, hu, hlen, hs1, hids, hb1⟩
  obtain ⟨m, hm⟩ : ∃ m, m = ids.length := ⟨_, rfl⟩
  rw [← hm] at hlen hids ⊢
  have HM : Hid (m = ids.length) := hm
  clear hm
  go_wp2_with fail
  refine (index_any w.heap.size c0 m ids HM hnd hu hlen _ hs1 hids).mono ?_
  rintro e w2 ⟨up, rfl, hix, hb2⟩
  have HI : Hid (∀ j, j < m → w1.cell? ⟨w.heap.size, j, none⟩ = some (.int .u64 (ids.getD j 0))) := hids
  clear hids
  go_wp2
  have HW0 := want_begin w2 N
  go_loopw [10] (fun t wr => ∃ k : Nat, k ≤ 2 * N ∧ t = .int .i64 k ∧ ∃ c, Want w2 wr N c) (fun t _ => 2 * N - (intOf t).toNat)
  case atStart => exact ⟨0, Nat.zero_le _, rfl, _, HW0⟩
  case round =>
    have hs2 := hb2.size
    obtain ⟨k, hk, rfl, c, hw⟩ := hrel
    clear HW0 hmk23
    by_cases hlt : k < 2 * N
    · rcases r1 with r1 | ⟨b1, off1, rfl, hb1', hc1, hz1⟩
      · omega
      have hck : wr.cell? ⟨b1, off1 + k, none⟩ = some (.int .u64 (z1.getD k 0)) := (hw.bel.cell (p := ⟨b1, off1 + k, none⟩) (by simp; omega)).trans ((hb2.cell (p := ⟨b1, off1 + k, none⟩) (by simp; omega)).trans ((hb1.cell (p := ⟨b1, off1 + k, none⟩) hb1').trans (hc1 k (by omega))))
      have hxk := hz1 k (by omega)
      obtain ⟨x, hx⟩ : ∃ x, x = z1.getD k 0 := ⟨_, rfl⟩
      rw [← hx] at hck hxk
      clear hx hc1 hz1
      have hwv := hw.var
      have hwc := hw.row.cell k hlt
      have hwf := hw.row.frozen
      have hk1 : (k : Int) < (len1 : Int) := by omega
      have hk2 : (k : Int) < 2 * (N : Int) := by omega
      by_cases hb0 : (bits BinOp.and .u64 x 1 == 0) = true
      · by_cases hm0 : 0 < m
        · have hm0' : (0 : Int) < (m : Int) := by omega
          obtain ⟨i, hi, hmod⟩ : ∃ i : Nat, i < m ∧ x / 2 % (m : Int) = (i : Int) := ⟨(x / 2 % (m : Int)).toNat, by have := Int.emod_lt_of_pos (x / 2) hm0'; omega, by have := Int.emod_nonneg (x / 2) (show (m : Int) ≠ 0 by omega); omega⟩
          have hci : wr.cell? ⟨w.heap.size, i, none⟩ = some (.int .u64 (ids.getD i 0)) := (hw.bel.cell (p := ⟨w.heap.size, i, none⟩) (by simp; omega)).trans ((hb2.cell (p := ⟨w.heap.size, i, none⟩) hs1).trans (HI.out i hi))
          have hui := hu.at (j := i) (by rw [← HM.out]; exact hi)
          have hi' : (i : Int) < (m : Int) := by omega
          obtain ⟨y, hy⟩ : ∃ y, y = ids.getD i 0 := ⟨_, rfl⟩
          rw [← hy] at hci hui
          clear hy
          have HS := (hw.step k hlt y hui).drew
          go_wp2
          go_region
          all_goals go_wp2
          all_goals go_roundw
          all_goals first | exact ⟨k + 1, by omega, by go_num, _, HS⟩ | (simp [intOf]; omega)
        · have HS := hw.step k hlt (x / 2) (by omega)
          have hm0' : ¬ (0 : Int) < (m : Int) := by omega
          go_wp2
          go_roundw
          case rel => exact ⟨k + 1, by omega, by go_num, _, HS⟩
          case measure => simp [intOf]; omega
      · have hb0' : (bits BinOp.and .u64 x 1 == 0) = false := by simpa using hb0
        have HS := hw.step k hlt (x / 2) (by omega)
        go_wp2
        go_roundw
        case rel => exact ⟨k + 1, by omega, by go_num, _, HS⟩
        case measure => simp [intOf]; omega
    · have hsz := hw.size
      have hix2 : Index (wr.alloc (.cells #[.slice none 0 0] 33)) w1.heap.size up w1.heap.size ids :=
        hix.kept (by simp; omega) (fun j h1 h2 => by have := hix.bd; rw [Below.heap_alloc _ _ _ (by omega)]; exact hw.bel.block j (by omega))
      have hbd := hix.bd
      have hpre : EdgesPre (wr.alloc (.cells #[.slice none 0 0] 33)) w1.heap.size up w1.heap.size (w2.heap.size + 2) (w2.heap.size + 1) w2.heap.size N ids c :=
        ⟨hix2, by omega, hN512, by simp; omega, by simp; omega, by simp; omega, (World.cell?_alloc_past _ _ _ (by omega)).trans hw.var, fun e he => (World.cell?_alloc_past _ _ _ (by omega)).trans (hw.row.cell e he), fun e _ => hw.bd e,
          by rw [World.cell?_alloc_at _ _ _ _ hsz.symm]; rfl, World.frozen?_alloc_at _ _ _ _ hsz.symm⟩
      have hmf : ∀ (fn : Fn) (first cap : Array Value) (w : World), (Instr.makeFunc fn first cap).run Yba.prog w = .ok (.func fn first cap) w := fun _ _ _ _ => rfl
      have hmk33 := fun w => make33 (2 * (N : Int)) N rfl hN512 w
      have CT : ∀ w5 ln v, But (w2.heap.size + 2) (w2.heap.size + 3) (wr.alloc (.cells #[.slice none 0 0] 33)) w5 → LogAt w5 (w2.heap.size + 2) (w2.heap.size + 4) ln v →
          Ctx w5 w.heap.size (w2.heap.size + 1) w2.heap.size (w2.heap.size + 2) (w2.heap.size + 4) N m ln v ids c ∧ Below w.heap.size w w5 := by
        intro w5 ln v hb hl
        have hs5 := hb.size
        simp only [World.size_alloc] at hs5
        have cc : ∀ b o, b < w2.heap.size + 2 → w5.cell? ⟨b, o, none⟩ = wr.cell? ⟨b, o, none⟩ := fun b o h => (hb.cell (p := ⟨b, o, none⟩) (by simp; omega) (by simp; omega)).trans (World.cell?_alloc_past _ _ _ (by omega))
        refine ⟨⟨fun j hj => (cc _ _ (by omega)).trans ((hw.bel.cell (p := ⟨w.heap.size, j, none⟩) (by simp; omega)).trans ((hb2.cell (p := ⟨w.heap.size, j, none⟩) hs1).trans (HI.out j hj))), (cc _ _ (by omega)).trans hw.var,
          fun e he => (cc _ _ (by omega)).trans (hw.row.cell e he), hl, by omega, by omega, by omega, by omega⟩, ?_⟩
        exact ((hb1.trans (hb2.mono (by omega))).trans ((hw.bel.alloc (by omega) _).mono (by omega))).trans (hb.below (by omega) (by omega))
      have CT' : Hid _ := CT
      clear CT
      go_wp2_with fail
      refine (edges_law w1.heap.size up w1.heap.size (w2.heap.size + 2) (w2.heap.size + 1) w2.heap.size N (w2.heap.size + 3) ids c _ (by simp; omega) hpre).mono ?_
      rintro e w5 ⟨gv, bv, ln, v, rfl, hlog, hbut, halt⟩
      obtain ⟨hctx, hbw⟩ := CT'.out w5 ln v hbut hlog
      have HA : Hid (Alt w5 (w2.heap.size + 3) N ids c gv bv ln) := halt
      have hs5 : w2.heap.size + 3 < w5.heap.size := by have := hlog.size; omega
      clear CT' hpre hix2 hix hw hlog hbut halt hsz hmf HI hu
      have HP0 : Hid (IRow (w5.alloc (.cells (madeCells #[.int .i64 0] (2 * N)) 3)) .i64 w5.heap.size (2 * N) (psn ids c 0)) := (IRow.made w5 .i64 3 (2 * N)).congr (fun j _ => by simp [psn])
      have hnilS := fun w a n c => Lib.run_eql_slice_nil (P := Yba.prog) w 35 39 a n c 0 0 Yba.underlying35
      go_wp2
      go_loopw [16, 18] (fun wbv t wq => ∃ q : Nat, q ≤ 2 * N ∧ t = .int .i64 q ∧ wbv = .int .i64 (-1) ∧ Hid (∀ j, j < q → c j ∈ ids) ∧ Hid (IRow wq .i64 w5.heap.size (2 * N) (psn ids c q)) ∧ Below w5.heap.size w5 wq) (fun _ t _ => 2 * N - (intOf t).toNat)
      case atStart => exact ⟨0, Nat.zero_le _, rfl, rfl, fun j hj => absurd hj (by omega), HP0, (Below.refl _ _).alloc (Nat.le_refl _) _⟩
      case round =>
        obtain ⟨q, hq, rfl, rfl, HQ, HP, hbq⟩ := hrel
        clear HP0 hmk33
        have hcq := hctx.below hbq
        have hbw' : Below w.heap.size w wr := hbw.trans (hbq.mono (by have := hbw.size; omega))
        by_cases hql : q < 2 * N
        · have hw1 := hcq.wb
          have hw2 := hcq.wg q hql
          have hql' : (q : Int) < 2 * (N : Int) := by omega
          obtain ⟨y, hy⟩ : ∃ y, y = c q := ⟨_, rfl⟩
          rw [← hy] at hw2
          have HY : Hid (y = c q) := hy
          clear hy
          go_wp2
          go_loop [19, 103] (fun p t => ∃ j : Nat, j ≤ m ∧ t = .int .i64 j ∧ p = .int .i64 (-1) ∧ Hid (∀ i, i < j → ids.getD i 0 ≠ y)) (fun _ t => m - (intOf t).toNat)
          case atStart => exact ⟨0, Nat.zero_le _, rfl, rfl, fun i hi => absurd hi (by omega)⟩
          case round =>
            obtain ⟨j, hj, rfl, rfl, HJ⟩ := hrel
            by_cases hjm : j < m
            · have hjm' : (j : Int) < (m : Int) := by omega
              have hcj := hcq.ids j hjm
              obtain ⟨x, hx⟩ : ∃ x, x = ids.getD j 0 := ⟨_, rfl⟩
              rw [← hx] at hcj
              by_cases hxy : x = y
              · have hxy' : (x == y) = true := by simp [hxy]
                have hF := first_at (ids := ids) (x := c q) (j := j) (by rw [← HM.out]; exact hjm) (by rw [← hx, hxy]; exact HY.out) hnd
                have hpc := HP.out.cell q hql
                have hpf := HP.out.frozen
                have HS := psn_step HP.out hql (j : Int) hF.2
                have HS' : Hid _ := HS
                have HQ' : Hid (∀ j, j < q + 1 → c j ∈ ids) := by
                  intro i hi
                  by_cases e : i = q
                  · subst e; exact hF.1
                  · exact HQ.out i (by omega)
                clear HS hF hx hxy HJ HQ HP
                go_wp2
                go_roundw
                case rel => exact ⟨q + 1, by omega, by go_num, rfl, HQ', HS', hbq.setCell (Nat.le_refl _) _⟩
                case measure => simp [intOf]; omega
              · have hxy' : (x == y) = false := by simp [hxy]
                have HJ' : Hid (∀ i, i < j + 1 → ids.getD i 0 ≠ y) := by
                  intro i hi
                  by_cases e : i = j
                  · subst e; rw [← hx]; exact hxy
                  · exact HJ.out i (by omega)
                clear hx hxy HJ
                go_wp2
                go_round
                case rel => exact ⟨j + 1, by omega, by go_num, rfl, HJ'⟩
                case measure => simp [intOf]; omega
            · have hjj : j = m := by omega
              have hbad := alt_bad HA.out hql HQ.out (not_at (fun i hi => by rw [← HY.out]; exact HJ.out i (by rw [← HM.out] at hi; omega)))
              obtain ⟨hg1, hg2, hg3⟩ := hbad
              obtain ⟨ad, capL, hv, hlg⟩ := log_shape hcq.log
              have hlc := hcq.log.cell
              subst hg1
              subst hg2
              subst hg3
              subst hv
              rcases hlg with hlg | ⟨gL, rfl, hlg⟩
              · omega
              have HLG : Hid (∀ i, i < q + 1 → wr.cell? ⟨gL, i, none⟩ = some (.int .i64 (i : Int))) := hlg
              have hq0 : (0 : Int) ≤ (q : Int) := by omega
              clear hlg HA hctx hcq HP HJ HY HQ hw1 hw2
              go_wp2
              go_loop [23] (fun t => ∃ i : Nat, i ≤ q + 1 ∧ t = .int .i64 i) (fun t => q + 1 - (intOf t).toNat)
              case atStart => exact ⟨0, Nat.zero_le _, rfl⟩
              case round =>
                obtain ⟨i, hi, rfl⟩ := hrel
                by_cases hiq : i < q + 1
                · have hci := HLG.out i hiq
                  have hiq' : (i : Int) < (q : Int) + 1 := by omega
                  go_wp2
                  go_round
                  case rel => exact ⟨i + 1, by omega, by go_num⟩
                  case measure => simp [intOf]; omega
                · go_wp2
                  go_ret
                  exact ⟨rfl, hbw'⟩
        · have hqq : q = 2 * N := by omega
          have hgood := alt_good HA.out (fun j hj => HQ.out j (by omega))
          obtain ⟨hg1, hg2, hg3, hedg⟩ := hgood
          obtain ⟨ad, capL, hv, hlg⟩ := log_shape hcq.log
          have hlc := hcq.log.cell
          have HE : Hid (∀ j, j < 2 * N → wr.cell? ⟨w2.heap.size + 3, j, none⟩ = some (.int .i64 (ids.idxOf (c j) : Int))) := by
            intro j hj
            rw [hbq.cell (p := ⟨w2.heap.size + 3, j, none⟩) hs5, hedg.cell j hj]
            simp [edg, hj]
          have HPO : Hid (∀ j, j < 2 * N → wr.cell? ⟨w5.heap.size, j, none⟩ = some (.int .i64 (ids.idxOf (c j) : Int))) := by
            intro j hj
            rw [HP.out.cell j hj]
            simp [psn, hqq, hj]
          subst hg1
          subst hg2
          subst hg3
          subst hv
          have HLG : Hid (2 * N = 0 ∨ ∃ g, ad = some ⟨g, 0, none⟩ ∧ ∀ i, i < 2 * N → wr.cell? ⟨g, i, none⟩ = some (.int .i64 (i : Int))) := hlg
          clear hlg HA hctx hcq HP HQ hedg
          go_wp2
          go_loop [23] (fun t => ∃ i : Nat, i ≤ 2 * N ∧ t = .int .i64 i) (fun t => 2 * N - (intOf t).toNat)
          case atStart => exact ⟨0, Nat.zero_le _, rfl⟩
          case round =>
            obtain ⟨i, hi, rfl⟩ := hrel
            by_cases hiq : i < 2 * N
            · rcases HLG.out with h | ⟨gL, rfl, hlg⟩
              · omega
              have hci := hlg i hiq
              have hiq' : (i : Int) < 2 * (N : Int) := by omega
              clear hlg HLG
              go_wp2
              go_round
              case rel => exact ⟨i + 1, by omega, by go_num⟩
              case measure => simp [intOf]; omega
            · go_wp2
              go_loopw [24] (fun t wq => ∃ i : Nat, i ≤ N ∧ t = .int .i64 i ∧ ∃ d, wq = wr.drewN d) (fun t _ => N - (intOf t).toNat)
              case atStart => exact ⟨0, Nat.zero_le _, rfl, 0, rfl⟩
              case round =>
                obtain ⟨i2, hi2, rfl, d, rfl⟩ := hrel
                by_cases hiN : i2 < N
                · have e1 := HE.out (2 * i2) (by omega)
                  have e2 := HE.out (2 * i2 + 1) (by omega)
                  have p1 := HPO.out (2 * i2) (by omega)
                  have p2 := HPO.out (2 * i2 + 1) (by omega)
                  have hc1 : i2 * 2 = 2 * i2 := by omega
                  have hi1 : (i2 : Int) < (N : Int) := by omega
                  have hi2 : 2 * (i2 : Int) < 2 * (N : Int) := by omega
                  have hi3 : 2 * (i2 : Int) + 1 < 2 * (N : Int) := by omega
                  go_wp2
                  go_quiet (fail)
                  go_wp2
                  go_roundw
                  case rel => exact ⟨i2 + 1, by omega, by go_num, _, rfl⟩
                  case measure => simp [intOf]; omega
                · go_wp2
                  go_ret
                  exact ⟨rfl, below_drewN hbw' d⟩
end Go.Proofs.Ybulkvrs
