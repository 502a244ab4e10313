/- The walk of 'indexIDs' (func 7). -/
import Derived.Test.YbulkvrsIndex
namespace Go.Proofs.Ybulkvrs
open Go.RowKit
set_option linter.unusedVariables false

theorem makeMap61 (v : Int) (w : World) : (Instr.makeMap 61 (some (.int .i64 v))).run Yba.prog w = .ok (.map (some w.heap.size)) (w.alloc (.map #[] 0)) := by
  simp [Instr.makeMap, run_underlying Yba.underlying61, Result.andThen]
  rfl

theorem make60 (D : Nat) (c : Int) (hc : c = (D : Int) + 1) (hD : D ≤ 4096) (w : World) :
    (Instr.makeSlice 60 (.int .u64 c) (.int .u64 c)).run Yba.prog w = .ok (.slice (some ⟨w.heap.size, 0, none⟩) (D + 1) (D + 1)) (w.alloc (.cells (madeCells #[.int .u32 0] (D + 1)) 45)) := by
  obtain ⟨i0, hi, hz0, hz1, hz2⟩ := info_parts info45
  have hr := run_make (P := Yba.prog) w 60 45 i0 (.int .u32 0) Yba.underlying60 hi hz0 .u64 .u64 c c (by omega) (Int.le_refl _) (by rw [hz2]; omega) (by omega)
  have e : c.toNat = D + 1 := by omega
  rw [hr, hz1, e]
  simp [Value.cells]

theorem mm_step {ids : List Int} {k : Nat} {low high x : Int} (hx : x = ids.getD k 0) (hu : 0 ≤ x ∧ x ≤ 18446744073709551615) (hlo : 0 ≤ low) (hlh : low ≤ high) (hhi : high ≤ 18446744073709551615)
    (hb : ∀ j, j < k → low ≤ ids.getD j 0 ∧ ids.getD j 0 ≤ high) :
    0 ≤ (if x < low then x else low) ∧ (if x < low then x else low) ≤ (if high < x then x else high) ∧ (if high < x then x else high) ≤ 18446744073709551615 ∧
      ∀ j, j < k + 1 → (if x < low then x else low) ≤ ids.getD j 0 ∧ ids.getD j 0 ≤ (if high < x then x else high) := by
  have e1 : (if x < low then x else low) ≤ x ∧ (if x < low then x else low) ≤ low ∧ 0 ≤ (if x < low then x else low) := by split <;> omega
  have e2 : x ≤ (if high < x then x else high) ∧ high ≤ (if high < x then x else high) ∧ (if high < x then x else high) ≤ 18446744073709551615 := by split <;> omega
  refine ⟨e1.2.2, by omega, e2.2.2, fun j hj => ?_⟩
  by_cases e : j = k
  · subst e
    rw [← hx]
    exact ⟨e1.1, e2.1⟩
  · have := hb j (by omega)
    omega

/-- The table's loop: what holds after k rounds. -/
structure TabAt (w wr : World) (D : Nat) (low : Int) (ids : List Int) (k : Nat) : Prop where
  c0 : wr.cell? ⟨w.heap.size, 0, none⟩ = some (.int .u64 low)
  c1 : wr.cell? ⟨w.heap.size, 1, none⟩ = some (.slice (some ⟨w.heap.size + 1, 0, none⟩) (D + 1) (D + 1))
  row : IRow wr .u32 (w.heap.size + 1) (D + 1) (tab ids low k)
  size : wr.heap.size = w.heap.size + 2
  bel : Below w.heap.size w wr

theorem tab_begin (w : World) (q D : Nat) (low : Int) (ids : List Int) :
    TabAt w (((((w.alloc (.cells #[.int .u64 0, .slice none 0 0, .map none] 63)).drewN q).setCell ⟨w.heap.size, 0, none⟩ (.int .u64 low)).setCell ⟨w.heap.size, 1, none⟩ (.slice (some ⟨w.heap.size + 1, 0, none⟩) (D + 1) (D + 1))).alloc (.cells (madeCells #[.int .u32 0] (D + 1)) 45)) D low ids 0 := by
  obtain ⟨W, hW⟩ : ∃ W, W = (w.alloc (.cells #[.int .u64 0, .slice none 0 0, .map none] 63)).drewN q := ⟨_, rfl⟩
  have hs : W.heap.size = w.heap.size + 1 := by rw [hW]; simp [World.drewN]
  have hc : ∀ o v, (#[.int .u64 0, .slice none 0 0, .map none] : Array Value)[o]? = some v → W.cell? ⟨w.heap.size, o, none⟩ = some v := by
    intro o v h
    rw [hW]
    show (w.alloc (.cells #[.int .u64 0, .slice none 0 0, .map none] 63)).cell? ⟨w.heap.size, o, none⟩ = some v
    rw [World.cell?_alloc_at _ _ _ _ rfl]
    exact h
  have hb : Below w.heap.size w W := by rw [hW]; exact below_drewN ((Below.refl _ _).alloc (Nat.le_refl _) _) q
  rw [← hW]
  have h1 : ((W.setCell ⟨w.heap.size, 0, none⟩ (.int .u64 low)).setCell ⟨w.heap.size, 1, none⟩ (.slice (some ⟨w.heap.size + 1, 0, none⟩) (D + 1) (D + 1))).heap.size = w.heap.size + 1 := by simpa [World.setCell] using hs
  have k0 : (W.setCell ⟨w.heap.size, 0, none⟩ (.int .u64 low)).cell? ⟨w.heap.size, 0, none⟩ = some (.int .u64 low) := World.cell?_setCell_same _ _ _ (hc 0 _ rfl)
  have k1 : (W.setCell ⟨w.heap.size, 0, none⟩ (.int .u64 low)).cell? ⟨w.heap.size, 1, none⟩ = some (.slice none 0 0) := by
    rw [World.cell?_setCell_other _ _ _ _ (by simp)]; exact hc 1 _ rfl
  refine ⟨?_, ?_, ?_, by simp [h1], ?_⟩
  · rw [World.cell?_alloc_past _ _ _ (by omega), World.cell?_setCell_other _ _ _ _ (by simp)]; exact k0
  · rw [World.cell?_alloc_past _ _ _ (by omega)]; exact World.cell?_setCell_same _ _ _ k1
  · have := IRow.made ((W.setCell ⟨w.heap.size, 0, none⟩ (.int .u64 low)).setCell ⟨w.heap.size, 1, none⟩ (.slice (some ⟨w.heap.size + 1, 0, none⟩) (D + 1) (D + 1))) .u32 45 (D + 1)
    rw [h1] at this
    exact this.congr (fun j _ => (tab_start ids low j).symm)
  · exact ((hb.setCell (Nat.le_refl _) _).setCell (Nat.le_refl _) _).alloc (by omega) _

theorem TabAt.step {w wr : World} {D : Nat} {low : Int} {ids : List Int} {k : Nat} (h : TabAt w wr D low ids k) (hn : ids.Nodup) (hk : k < ids.length) (d : Nat) (hd : d < D + 1) (hx : low + d = ids.getD k 0) :
    TabAt w (wr.setCell ⟨w.heap.size + 1, d, none⟩ (.int .u32 ((k : Int) + 1))) D low ids (k + 1) := by
  obtain ⟨h1, h2, h3, h4, h5⟩ := h
  refine ⟨?_, ?_, (h3.set d hd _).congr (fun j _ => (tab_step hn hk hx j).symm), by simpa [World.setCell] using h4, h5.setCell (by simp) _⟩
  · rw [World.cell?_setCell_other _ _ _ _ (by simp)]; exact h1
  · rw [World.cell?_setCell_other _ _ _ _ (by simp)]; exact h2

theorem mem_getD {ids : List Int} {P : Int → Prop} (h : ∀ j, j < ids.length → P (ids.getD j 0)) : ∀ x ∈ ids, P x := by
  intro x hx
  obtain ⟨i, hi, e⟩ := List.getElem_of_mem hx
  have := h i hi
  rw [List.getD_eq_getElem?_getD, List.getElem?_eq_getElem hi, Option.getD_some, e] at this
  exact this

theorem TabAt.index {w wr : World} {D : Nat} {low : Int} {ids : List Int} (h : TabAt w wr D low ids ids.length) (hn : ids.Nodup) (hl : ids.length ≤ 1024) (h0 : 0 ≤ low) (h1 : low + D ≤ 18446744073709551615) (hD : D ≤ 4096)
    (hb : ∀ j, j < ids.length → low ≤ ids.getD j 0 ∧ ids.getD j 0 ≤ low + D) : Index wr w.heap.size (w.heap.size + 2) w.heap.size ids :=
  ⟨hn, hl, ⟨Nat.le_refl _, by omega, by rw [h.size]; exact Nat.le_refl _⟩, .inl ⟨low, w.heap.size + 1, D, h.c0, h.c1, h.row, h0, h1, hD, by omega, by omega, mem_getD hb⟩⟩

/-- The map's loop: what holds after k rounds. -/
structure MapAt (w wr : World) (ids : List Int) (k : Nat) : Prop where
  c1 : wr.cell? ⟨w.heap.size, 1, none⟩ = some (.slice none 0 0)
  c2 : wr.cell? ⟨w.heap.size, 2, none⟩ = some (.map (some (w.heap.size + 1)))
  own : wr.ownsMap Yba.prog 31 (plainElem Yba.prog 3) (w.heap.size + 1) k (mp ids k)
  size : wr.heap.size = w.heap.size + 2
  bel : Below w.heap.size w wr

theorem map_begin (w : World) (q : Nat) (ids : List Int) :
    MapAt w ((((w.alloc (.cells #[.int .u64 0, .slice none 0 0, .map none] 63)).drewN q).setCell ⟨w.heap.size, 2, none⟩ (.map (some (w.heap.size + 1)))).alloc (.map #[] 0)) ids 0 := by
  obtain ⟨W, hW⟩ : ∃ W, W = (w.alloc (.cells #[.int .u64 0, .slice none 0 0, .map none] 63)).drewN q := ⟨_, rfl⟩
  have hs : W.heap.size = w.heap.size + 1 := by rw [hW]; simp [World.drewN]
  have hc : ∀ o v, (#[.int .u64 0, .slice none 0 0, .map none] : Array Value)[o]? = some v → W.cell? ⟨w.heap.size, o, none⟩ = some v := by
    intro o v h
    rw [hW]
    show (w.alloc (.cells #[.int .u64 0, .slice none 0 0, .map none] 63)).cell? ⟨w.heap.size, o, none⟩ = some v
    rw [World.cell?_alloc_at _ _ _ _ rfl]
    exact h
  have hb : Below w.heap.size w W := by rw [hW]; exact below_drewN ((Below.refl _ _).alloc (Nat.le_refl _) _) q
  rw [← hW]
  have h1 : (W.setCell ⟨w.heap.size, 2, none⟩ (.map (some (w.heap.size + 1)))).heap.size = w.heap.size + 1 := by simpa [World.setCell] using hs
  refine ⟨?_, ?_, ?_, by simp [h1], ?_⟩
  · rw [World.cell?_alloc_past _ _ _ (by omega), World.cell?_setCell_other _ _ _ _ (by simp)]; exact hc 1 _ rfl
  · rw [World.cell?_alloc_past _ _ _ (by omega)]; exact World.cell?_setCell_same _ _ _ (hc 2 _ rfl)
  · have := World.ownsMap_made (W.setCell ⟨w.heap.size, 2, none⟩ (.map (some (w.heap.size + 1)))) Yba.prog 31 (plainElem (H := Unit) Yba.prog 3)
    rw [h1] at this
    exact this
  · exact (hb.setCell (Nat.le_refl _) _).alloc (by omega) _

theorem MapAt.step {w wr w1 : World} {ids : List Int} {k : Nat} (h : MapAt w wr ids k) (hown : w1.ownsMap Yba.prog 31 (plainElem Yba.prog 3) (w.heap.size + 1) (k + 1) (mp ids (k + 1))) (hg : wr.mapTurned w1 (w.heap.size + 1)) : MapAt w w1 ids (k + 1) := by
  obtain ⟨h1, h2, h3, h4, h5⟩ := h
  have hgr := hg.grown
  refine ⟨hgr.cell h1 (by simp), hgr.cell h2 (by simp), hown, ?_, h5.grown hgr (by omega) (fun j hj => by cases hj; omega)⟩
  obtain ⟨es, clock, es', clock', _, rfl⟩ := hg
  simpa [ChangeMaps.setBlock] using h4

theorem MapAt.index {w wr : World} {ids : List Int} (h : MapAt w wr ids ids.length) (hn : ids.Nodup) (hl : ids.length ≤ 1024) : Index wr w.heap.size (w.heap.size + 2) w.heap.size ids :=
  ⟨hn, hl, ⟨Nat.le_refl _, by omega, by rw [h.size]; exact Nat.le_refl _⟩, .inr (.inl ⟨w.heap.size + 1, h.c1, h.c2, by omega, by omega, h.own⟩)⟩

set_option maxRecDepth 100000 in
set_option maxHeartbeats 1000000 in
theorem index_zero (g cap : Nat) (w : World) :
    Calls Yba.prog 7 #[.slice (some ⟨g, 0, none⟩) 0 cap] w fun e w' => e = .returned (.tuple #[.pointer (some ⟨w.heap.size, 0, none⟩), .nilIface]) ∧ Index w' w.heap.size (w.heap.size + 1) w.heap.size [] ∧ Below w.heap.size w w' := by
  go_enter Yba.func7, Yba.ntmps7
  go_wp2
  go_ret2
  refine ⟨rfl, ⟨List.nodup_nil, by simp, ⟨Nat.le_refl _, by omega, by simp⟩, .inr (.inr ⟨rfl, ?_, ?_⟩)⟩, (Below.refl _ _).alloc (Nat.le_refl _) _⟩
  · rw [World.cell?_alloc_at _ _ _ _ rfl]; rfl
  · rw [World.cell?_alloc_at _ _ _ _ rfl]; rfl

set_option maxRecDepth 100000 in
set_option maxHeartbeats 1000000 in
theorem index_some (g cap m : Nat) (ids : List Int) (HM : Hid (m = ids.length)) (hnd : ids.Nodup) (hu : U64s ids) (hlen : m ≤ 1024) (h0 : 0 < m) (w : World) (hg : g < w.heap.size)
    (hc : ∀ j, j < m → w.cell? ⟨g, j, none⟩ = some (.int .u64 (ids.getD j 0))) :
    Calls Yba.prog 7 #[.slice (some ⟨g, 0, none⟩) m cap] w fun e w' => ∃ up, e = .returned (.tuple #[.pointer (some ⟨w.heap.size, 0, none⟩), .nilIface]) ∧ Index w' w.heap.size up w.heap.size ids ∧ Below w.heap.size w w' := by
  have hl0 : ((m : Int) == 0) = false := beq_eq_false_iff_ne.2 (by omega)
  have hl1 : (0 : Int) < (m : Int) := by omega
  have hc0 := hc 0 h0
  have hu0 := hu.at (j := 0) (by rw [← HM.out]; exact h0)
  obtain ⟨x0, hx0⟩ : ∃ x, x = ids.getD 0 0 := ⟨_, rfl⟩
  rw [← hx0] at hc0 hu0
  have HC : Hid (∀ j, j < m → w.cell? ⟨g, j, none⟩ = some (.int .u64 (ids.getD j 0))) := hc
  clear hx0 hc
  go_enter Yba.func7, Yba.ntmps7
  go_wp2
  go_quiet (fail)
  go_wp2
  go_loop [5, 6, 31] (fun lo hi t => ∃ (k : Nat) (low high : Int), k ≤ m ∧ t = .int .i64 k ∧ lo = .int .u64 low ∧ hi = .int .u64 high ∧ 0 ≤ low ∧ low ≤ high ∧ high ≤ 18446744073709551615 ∧ Hid (∀ j, j < k → low ≤ ids.getD j 0 ∧ ids.getD j 0 ≤ high))
    (fun _ _ t => m - (intOf t).toNat)
  case atStart => exact ⟨0, x0, x0, Nat.zero_le _, rfl, rfl, rfl, hu0.1, Int.le_refl _, hu0.2, fun j hj => absurd hj (by omega)⟩
  case round =>
    obtain ⟨k, low, high, hk, rfl, rfl, rfl, hlo, hlh, hhi, HB⟩ := hrel
    clear hc0 hu0
    by_cases hlt : k < m
    · have hck := HC.out k hlt
      have huk := hu.at (j := k) (by rw [← HM.out]; exact hlt)
      obtain ⟨x, hx⟩ : ∃ x, x = ids.getD k 0 := ⟨_, rfl⟩
      rw [← hx] at hck huk
      have HS := mm_step hx huk hlo hlh hhi HB.out
      have HS' : Hid _ := HS
      clear HS hx HB
      go_wp2
      go_round
      case rel => exact ⟨k + 1, _, _, by omega, by go_num, rfl, rfl, HS'.out.1, HS'.out.2.1, HS'.out.2.2.1, HS'.out.2.2.2⟩
      case measure => simp [intOf]; omega
    · have hkm : k = m := by omega
      subst hkm
      have hbig : (k : Int) < 4294967296 := by omega
      by_cases hD : high - low < 2 * (k : Int)
      · obtain ⟨D, hDe⟩ : ∃ D : Nat, high = low + D := ⟨(high - low).toNat, by omega⟩
        subst hDe
        have e1 : low + (D : Int) - low = (D : Int) := by omega
        have e2 : (D : Int) < 2 * (k : Int) := by omega
        have hmk := fun w => make60 D ((D : Int) + 1) rfl (by omega) w
        clear hD
        go_wp2
        go_region
        go_wp2
        have HT := tab_begin w (nq + 1) D low ids
        clear hmk
        go_loopw [69] (fun t wr => ∃ j : Nat, j ≤ k ∧ t = .int .i64 j ∧ TabAt w wr D low ids j) (fun t _ => k - (intOf t).toNat)
        case atStart => exact ⟨0, Nat.zero_le _, rfl, HT⟩
        case round =>
          obtain ⟨j, hj, rfl, ht⟩ := hrel
          clear HT
          by_cases hjk : j < k
          · have hck := (ht.bel.cell (p := ⟨g, j, none⟩) hg).trans (HC.out j hjk)
            have hbj := HB.out j hjk
            obtain ⟨d, hd, hdD⟩ : ∃ d : Nat, low + d = ids.getD j 0 ∧ d < D + 1 := ⟨(ids.getD j 0 - low).toNat, by omega, by omega⟩
            rw [← hd] at hck
            have hjl : j < ids.length := by rw [← HM.out]; exact hjk
            have hcd := ht.row.cell d hdD
            rw [tab_zero hnd hjl hd] at hcd
            have hfd := ht.row.frozen
            have hc1 := ht.c1
            have HS := ht.step hnd hjl d hdD hd
            have e3 : low + (d : Int) - low = (d : Int) := by omega
            have e4 : (d : Int) < (D : Int) + 1 := by omega
            clear hbj hd
            go_wp2
            go_roundw
            case rel => exact ⟨j + 1, by omega, by go_num, HS⟩
            case measure => simp [intOf]; omega
          · have hjj : j = k := by omega
            subst hjj
            have hb := ht.bel
            have HI := TabAt.index (HM.out ▸ ht) hnd (HM.out ▸ hlen) hlo hhi (by omega) (HM.out ▸ HB.out)
            go_wp2
            go_ret2
            exact ⟨_, rfl, HI, hb⟩
      · have e2 : decide (high - low < 2 * (k : Int)) = false := decide_eq_false hD
        have hmk := makeMap61 k
        go_wp2
        have HT := map_begin w nq ids
        clear hmk
        go_loopw [111] (fun t wr => ∃ j : Nat, j ≤ k ∧ t = .int .i64 j ∧ MapAt w wr ids j) (fun t _ => k - (intOf t).toNat)
        case atStart => exact ⟨0, Nat.zero_le _, rfl, HT⟩
        case round =>
          obtain ⟨j, hj, rfl, ht⟩ := hrel
          clear HT
          by_cases hjk : j < k
          · have hck := (ht.bel.cell (p := ⟨g, j, none⟩) hg).trans (HC.out j hjk)
            have hjl : j < ids.length := by rw [← HM.out]; exact hjk
            have huj := hu.at hjl
            have hnm := not_mem_take hnd hjl
            obtain ⟨v, ps, hrun, hv⟩ := ht.own.look_ok law31 Yba.underlying61 (zero3 wr) (plainElem_int Yba.underlying3 (by decide)) (Maps.keyOf_int_mk Yba.underlying31 (key_u64 huj))
            obtain ⟨c, rfl, hc, hwc⟩ := plainElem_int_inv Yba.underlying3 hv
            rw [mp_has _ j (by omega), decide_eq_false hnm] at hrun
            obtain ⟨w1, hrun1, hown1, hturn⟩ := ht.own.store law31 Yba.underlying61 (by unfold maxLen; omega) (Maps.keyOf_int_mk Yba.underlying31 (key_u64 huj)) (plainElem_int Yba.underlying3 (WalkArith.wf_i64 (n := (j : Int)) (by omega)))
            have HS := ht.step hown1 hturn
            obtain ⟨x, hx⟩ : ∃ x, x = ids.getD j 0 := ⟨_, rfl⟩
            rw [← hx] at hck huj hrun hrun1
            have hc2 := ht.c2
            clear hx hc hv hnm hown1 hturn
            go_wp2
            go_roundw
            case rel => exact ⟨j + 1, by omega, by go_num, HS⟩
            case measure => simp [intOf]; omega
          · have hjj : j = k := by omega
            subst hjj
            have hb := ht.bel
            have HI := MapAt.index (HM.out ▸ ht) hnd (HM.out ▸ hlen)
            go_wp2
            go_ret2
            exact ⟨_, rfl, HI, hb⟩
end Go.Proofs.Ybulkvrs
