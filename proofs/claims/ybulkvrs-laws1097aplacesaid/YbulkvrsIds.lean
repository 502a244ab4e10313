/- Plain facts on rows of numbers in memory, and the walk of 'zzs1097aids' (func 6). -/
import Derived.Test.YbulkvrsRows
import Derived.WalkKit
import Derived.ProofKit
import Derived.OpenShut
import Derived.WalkSpells
import Derived.WalkLawsBesides
import Derived.WalkSmall
import Derived.Outline
namespace Go.Proofs.Ybulkvrs
open Go.RowKit
set_option linter.unusedVariables false

theorem info31 : (Yba.prog.info? 31).map (fun i => (i.zero, i.size, i.bytes)) = some (some (.int .u64 0), 1, 8) := by kernel_rfl
theorem info3 : (Yba.prog.info? 3).map (fun i => (i.zero, i.size, i.bytes)) = some (some (.int .i64 0), 1, 8) := by kernel_rfl
theorem info45 : (Yba.prog.info? 45).map (fun i => (i.zero, i.size, i.bytes)) = some (some (.int .u32 0), 1, 4) := by kernel_rfl

/-- Every number of the list is a uint64. -/
def U64s (L : List Int) : Prop := ∀ x ∈ L, 0 ≤ x ∧ x ≤ 18446744073709551615

theorem U64s.at {L : List Int} (h : U64s L) {j : Nat} (hj : j < L.length) : 0 ≤ L.getD j 0 ∧ L.getD j 0 ≤ 18446744073709551615 := by
  rw [List.getD_eq_getElem?_getD, List.getElem?_eq_getElem hj]
  exact h _ (List.getElem_mem hj)

theorem snoc_ok {L : List Int} {x : Int} (hn : L.Nodup) (hu : U64s L) (hx : 0 ≤ x ∧ x ≤ 18446744073709551615) (hne : ∀ i, i < L.length → L.getD i 0 ≠ x) : (L ++ [x]).Nodup ∧ U64s (L ++ [x]) := by
  constructor
  · rw [List.nodup_append]
    refine ⟨hn, by simp, fun a ha b hb => ?_⟩
    simp at hb
    subst hb
    intro e
    subst e
    obtain ⟨i, hi, hq⟩ := List.getElem_of_mem ha
    exact hne i hi (by rw [List.getD_eq_getElem?_getD, List.getElem?_eq_getElem hi]; exact hq)
  · intro y hy
    rcases List.mem_append.1 hy with h | h
    · exact hu y h
    · simp at h
      subst h
      exact hx

set_option maxRecDepth 100000 in
set_option maxHeartbeats 1000000 in
theorem ids_some (b off n cap : Nat) (z : List Int) (w : World) (hn : n ≤ 1024) (hb : b < w.heap.size)
    (hc : ∀ j, j < n → w.cell? ⟨b, off + j, none⟩ = some (.int .u64 (z.getD j 0))) (hz : ∀ j, j < n → 0 ≤ z.getD j 0 ∧ z.getD j 0 ≤ 18446744073709551615) :
    Calls Yba.prog 6 #[.slice (some ⟨b, off, none⟩) n cap] w fun e w' => ∃ L : List Int,
      e = .returned (.slice (some ⟨w.heap.size, 0, none⟩) L.length n) ∧ L.Nodup ∧ U64s L ∧ L.length ≤ n ∧
      w'.ownsRow w.heap.size 31 1 (.slice (some ⟨w.heap.size, 0, none⟩) L.length n) L.length (L.map (Value.int .u64)) ∧ Below w.heap.size w w' := by
  obtain ⟨i0, hi, hz0, hz1, hz2⟩ := info_parts info31
  go_enter Yba.func6, Yba.ntmps6
  go_wp2_with (at_make; refine wpList_make_own _ rfl _ _ 23 rfl w.heap.size 31 i0 (.int .u64 0) 1 Yba.underlying23 hi hz0 hz1 _ _ _ n rfl rfl (by omega) (by rw [hz2]; omega) (by unfold maxLen; omega) (Nat.le_refl _) ?_; intro w1 hown hgrow)
  go_loopw [3, 14] (fun v t wr => ∃ k : Nat, ∃ L : List Int, k ≤ n ∧ t = .int .i64 k ∧ v = .slice (some ⟨w.heap.size, 0, none⟩) L.length n ∧ L.Nodup ∧ U64s L ∧ L.length ≤ k ∧
      wr.ownsRow w.heap.size 31 1 (.slice (some ⟨w.heap.size, 0, none⟩) L.length n) L.length (L.map (Value.int .u64)) ∧ Below w.heap.size w wr)
    (fun _ t _ => n - (intOf t).toNat)
  case atStart => exact ⟨0, [], Nat.zero_le _, rfl, rfl, List.nodup_nil, fun x hx => absurd hx (by simp), Nat.le_refl _, hown, (Below.refl _ _).grown hgrow (Nat.le_refl _) (fun k hk => by cases hk)⟩
  case round =>
    obtain ⟨k, L, hk, rfl, rfl, hnd, hu, hL, how, hbl⟩ := hrel
    clear hown hgrow
    by_cases hlt : k < n
    · have hck : wr.cell? ⟨b, off + k, none⟩ = some (.int .u64 (z.getD k 0)) := (hbl.cell (p := ⟨b, off + k, none⟩) hb).trans (hc k hlt)
      have hxk := hz k hlt
      obtain ⟨x, hx⟩ : ∃ x, x = z.getD k 0 := ⟨_, rfl⟩
      rw [← hx] at hck hxk
      clear hx hc hz
      go_wp2
      go_loop [6, 20] (fun d t => ∃ j : Nat, j ≤ L.length ∧ t = .int .i64 j ∧ d = .bool false ∧ ∀ i, i < j → L.getD i 0 ≠ x) (fun _ t => L.length - (intOf t).toNat)
      case atStart => exact ⟨0, Nat.zero_le _, rfl, rfl, fun i hi => absurd hi (by omega)⟩
      case round =>
        obtain ⟨j, hj, rfl, rfl, hne⟩ := hrel
        by_cases hjl : j < L.length
        · have hcj : wr.cell? ⟨w.heap.size, j, none⟩ = some (.int .u64 (L.getD j 0)) := by
            rw [how.cellAt j (by omega)]; simp [hjl]
          obtain ⟨y, hy⟩ : ∃ y, y = L.getD j 0 := ⟨_, rfl⟩
          rw [← hy] at hcj
          by_cases hxy : y = x
          · have hxy' : (y == x) = true := by simp [hxy]
            clear hy hxy
            go_wp2
            go_roundw
            case rel => exact ⟨k + 1, L, by omega, by go_num, rfl, hnd, hu, by omega, how, hbl⟩
            case measure => simp [intOf]; omega
          · have hxy' : (y == x) = false := by simp [hxy]
            have HY : Hid (∀ i, i < j + 1 → L.getD i 0 ≠ x) := by
              intro i hi
              by_cases e : i = j
              · subst e; rw [← hy]; exact hxy
              · exact hne i (by omega)
            clear hy hne hxy
            go_wp2
            go_round
            case rel => exact ⟨j + 1, by omega, by go_num, rfl, HY.out⟩
            case measure => simp [intOf]; omega
        · have hjj : j = L.length := by omega
          have HSN : Hid ((L ++ [x]).Nodup ∧ U64s (L ++ [x])) := snoc_ok hnd hu hxk (fun i hi => hne i (by omega))
          subst hjj
          clear hne
          go_wp2_with (at_builtin; refine wpList_append_fits _ rfl _ _ 23 rfl w.heap.size 31 i0 1 Yba.underlying23 hi hz1 w.heap.size L.length n _ rfl (how.alloc _) ⟨wr.heap.size, 0, none⟩ 1 1 [.int .u64 x] rfl rfl (cell_one_new _ _ _) (ints_oneCell .u64 [x]) (by omega) ?_; intro w2 hown2 hgrow2)
          have hl2 : (L ++ [x]).length = L.length + 1 := by simp
          have BL : Below w.heap.size w w2 := (hbl.alloc hbl.size _).grown hgrow2 (by have := hbl.size; simp; omega) (fun j hj => by cases hj; exact Nat.le_refl _)
          have OW : w2.ownsRow w.heap.size 31 1 (.slice (some ⟨w.heap.size, 0, none⟩) (L ++ [x]).length n) (L ++ [x]).length ((L ++ [x]).map (Value.int .u64)) := by rw [hl2]; simpa using hown2
          clear hown2 hgrow2 how hck
          go_wp2
          go_roundw
          case rel => exact ⟨k + 1, L ++ [x], by omega, by go_num, by rw [hl2], HSN.out.1, HSN.out.2, by rw [hl2]; omega, OW, BL⟩
          case measure => simp [intOf]; omega
    · go_wp2
      go_ret
      exact ⟨L, rfl, hnd, hu, by omega, how, hbl⟩

set_option maxRecDepth 100000 in
set_option maxHeartbeats 1000000 in
theorem ids_none (a : Option Addr) (cap : Nat) (w : World) :
    Calls Yba.prog 6 #[.slice a 0 cap] w fun e w' => 
      e = .returned (.slice (some ⟨w.heap.size, 0, none⟩) 0 0) ∧
      w'.ownsRow w.heap.size 31 1 (.slice (some ⟨w.heap.size, 0, none⟩) 0 0) 0 [] ∧ Below w.heap.size w w' := by
  obtain ⟨i0, hi, hz0, hz1, hz2⟩ := info_parts info31
  go_enter Yba.func6, Yba.ntmps6
  go_wp2_with (at_make; refine wpList_make_own _ rfl _ _ 23 rfl w.heap.size 31 i0 (.int .u64 0) 1 Yba.underlying23 hi hz0 hz1 _ _ _ 0 rfl rfl (by omega) (by rw [hz2]; omega) (by unfold maxLen; omega) (Nat.le_refl _) ?_; intro w1 hown hgrow)
  refine wp_loop_rounds 1 ?_
  rw [rounds_succ]
  go_wp2
  go_ret
  exact ⟨rfl, hown, (Below.refl _ _).grown hgrow (Nat.le_refl _) (fun k hk => by cases hk)⟩
end Go.Proofs.Ybulkvrs
