/- The walk of the law 'LawS1114BLines' (func 3). -/
import Derived.Test.YbulkwawFmtInv
namespace Go.Proofs.YbulkwawFmt
open Go.RowKit Go.Extern.Stop Go.Stop Go.Extern
set_option linter.unusedVariables false
set_option maxRecDepth 100000
set_option maxHeartbeats 2000000

/-- The input in memory. -/
structure InOk (w : World) (a : Option Addr) (m : Nat) (zs : List Int) : Prop where
  cells : m = 0 ∨ ∃ b off, a = some ⟨b, off, none⟩ ∧ b < w.heap.size ∧ ∀ j, j < m → w.cell? ⟨b, off + j, none⟩ = some (.int .u8 (zs.getD j 0))
  vals : ∀ j, j < m → 0 ≤ zs.getD j 0 ∧ zs.getD j 0 ≤ 255

theorem zero42 (w : World) : (zeroValue 42).run Ybaf.prog w = .ok .nilIface w := by kernel_rfl
theorem len_run {P : Program} {w : World} {b : Nat} {ps : Prs} {t kt et ty : TypeId} (hM : Mp w b ps) (ht : P.underlying t = some (.map kt et)) : (Builtin.len_ #[t] ty #[.map (some b)]).run P w = .ok (.int .i64 ps.length) w := by
  obtain ⟨es, clock, hb, rfl⟩ := hM
  simp [Builtin.len_, run_underlying ht, MapKept.run_getObj_map hb, goInt, Result.andThen, prs]
theorem neq_self {w : World} {T : TypeId} {v : Value} (h : (Op.equal 42 (.iface T v) (.iface T v)).run Ybaf.prog w = .ok true w) : (binOp .neq 42 (.iface T v) (.iface T v)).run Ybaf.prog w = .ok (.bool false) w := by
  have e : binOp .neq 42 (.iface T v) (.iface T v) = (do pure (.bool (!(← Op.equal 42 (.iface T v) (.iface T v))))) := rfl
  rw [e]
  simp [h, Result.andThen]

theorem look_cont {F : Interp} {h lB tB : Nat} {g : G} {w : World} (s : SG F h g w) (hg : NC lB tB g) : (Instr.lookup 83 (.map (some (h + 4))) (.pointer (some ⟨lB, 0, none⟩)) false).run Ybaf.prog w = .ok (.bool g.c) w := by
  have hk : ∀ p ∈ g.cont, p.1 = ptr lB := by
    rcases hg with ⟨a, _, _⟩ | ⟨a, _, _⟩ | ⟨a, _, _⟩ | ⟨a, _, _⟩ <;> rw [a] <;> simp
  have := look_run s.con Ybaf.underlying83 (asks_loop lB g.cont hk) (zero4 w) false
  refine this.trans ?_
  rcases hg with ⟨a, _, _⟩ | ⟨a, _, _⟩ | ⟨a, _, _⟩ | ⟨a, _, _⟩ <;> simp [a, G.c, find]
theorem look_left {F : Interp} {h lB tB : Nat} {g : G} {w : World} (s : SG F h g w) (hg : NC lB tB g) : (Instr.lookup 84 (.map (some (h + 5))) (.iface 36 (.pointer (some ⟨tB, 0, none⟩))) false).run Ybaf.prog w = .ok (.bool g.b) w := by
  have hk : KeysT lB tB g.left := by
    rcases hg with ⟨_, a, _⟩ | ⟨_, a, _⟩ | ⟨_, a, _⟩ | ⟨_, a, _⟩ <;> rw [a] <;> intro p hp <;> simp at hp <;> simp [hp]
  have := look_run s.lef Ybaf.underlying84 (asks_stm lB tB 36 tB (by omega) g.left hk) (zero4 w) false
  refine this.trans ?_
  rcases hg with ⟨_, a, _⟩ | ⟨_, a, _⟩ | ⟨_, a, _⟩ | ⟨_, a, _⟩ <;> simp [a, G.b, find, eqT]

theorem row_none {w w' : World} {base g n cap : Nat} {e : TypeId} {xs : List Value} (h : w.ownsRow base e 1 (.slice (some ⟨g, 0, none⟩) n cap) n xs) (hg : w.grownBy w' none) : w'.ownsRow base e 1 (.slice (some ⟨g, 0, none⟩) n cap) n xs := by
  obtain ⟨h1, h2⟩ := h
  refine ⟨h1, ?_⟩
  rcases h2 with h2 | ⟨q, c, cur, a, hb, hh, d⟩
  · exact .inl h2
  · cases a
    have hlt : g < w.heap.size := (Array.getElem?_eq_some_iff.1 hh).1
    exact .inr ⟨g, cap, cur, rfl, hb, (hg.block g hlt (by simp)).trans hh, d⟩

theorem inv_start {w w6 w7 : World} {m : Nat} {zs : List Int} {c1 c2 c3 : Array Value} (h4 : c1[4]? = some (.bool false)) (g6 : (((w.alloc (.cells c1 29)).alloc (.cells c2 35)).alloc (.cells c3 39)).grownBy w6 none) (r6 : w6.ownsRow (w.heap.size + 3) 42 1 (.slice (some ⟨w.heap.size + 3, 0, none⟩) 0 m) 0 [])
    (g7 : w6.grownBy w7 none) (r7 : w7.ownsRow (w.heap.size + 3) 3 1 (.slice (some ⟨w6.heap.size, 0, none⟩) 0 m) 0 []) : Inv1 w w.heap.size w6.heap.size m zs 0 [] w7 := by
  have k6 : w.heap.size + 3 < w6.heap.size := (r6.lt _ rfl).2
  have k7 : w6.heap.size < w7.heap.size := (r7.lt _ rfl).2
  have hs6 := g6.size
  simp only [World.size_alloc] at hs6
  have hb : ∀ k, k < w.heap.size + 3 → w7.heap[k]? = (((w.alloc (.cells c1 29)).alloc (.cells c2 35)).alloc (.cells c3 39)).heap[k]? := fun k hk =>
    (g7.block k (by omega) (by simp)).trans (g6.block k (by simp; omega) (by simp))
  have hb0 : w7.heap[w.heap.size]? = some (.cells c1 29) := by
    rw [hb _ (by omega)]
    simp only [heap_alloc, World.size_alloc]
    rw [if_neg (by omega), if_neg (by omega), if_pos (by first | trivial | omega)]
  refine ⟨rfl, row_none r6 g7, r7, fun i hi => absurd hi (by omega), (cell_at hb0 4).trans h4, by omega, ⟨g7.os.trans g6.os, g7.tape.trans g6.tape, g7.output.trans g6.output, by have := g7.size; omega, fun k hk => ?_⟩, by omega⟩
  rw [hb k (by omega)]
  simp only [heap_alloc, World.size_alloc]
  rw [if_neg (by omega), if_neg (by omega), if_neg (by omega)]

theorem linesLaw (F : Interp) (a0 : Option Addr) (m cap0 : Nat) (zs : List Int) (w : World) (hF : F.told.answers w.tape) (hm : m ≤ 1024) (hin : InOk w a0 m zs) :
    Calls Ybaf.prog 3 #[.slice a0 m cap0] w fun e w' => e = .returned (.bool true) ∧ Below w.heap.size w w' := by
  have HIN : Hid (InOk w a0 m zs) := hin
  have HF : Hid (F.told.answers w.tape) := hF
  have hm' : ¬ (1024 : Int) < (m : Int) := by omega
  obtain ⟨i1, hi1, hi1z, hi1s, hi1b⟩ := info_parts info42
  obtain ⟨i2, hi2, hi2z, hi2s, hi2b⟩ := info_parts info3
  clear hin hF
  go_enter Ybaf.func3, Ybaf.ntmps3
  go_wp2_with (first | (at_make; refine wpList_make_own _ rfl _ _ 33 rfl (w.heap.size + 3) 42 i1 .nilIface 1 Ybaf.underlying33 hi1 hi1z hi1s _ _ _ m rfl rfl rfl (by rw [hi1b]; omega) (by unfold maxLen; omega) (by simp) ?_; intro w6 hown6 hgrow6) | (at_make; refine wpList_make_own _ rfl _ _ 40 rfl (w.heap.size + 3) 3 i2 (.int .i64 0) 1 Ybaf.underlying40 hi2 hi2z hi2s _ _ _ m rfl rfl rfl (by rw [hi2b]; omega) (by unfold maxLen; omega) (by have := hgrow6.size; simp at this; omega) ?_; intro w7 hown7 hgrow7))
  have HI0 : Hid (Inv1 w w.heap.size w6.heap.size m zs 0 [] w7) := inv_start rfl hgrow6 (by simpa using hown6) hgrow7 hown7
  clear hown6 hgrow6 hown7 hgrow7
  obtain ⟨KB, hKB⟩ : ∃ KB, KB = w6.heap.size := ⟨_, rfl⟩
  rw [← hKB] at HI0
  simp only [← hKB]
  clear hKB
  clear w6
  go_loopw [6, 7, 40] (fun t6 t7 t40 wr => ∃ (j : Nat) (xs : List Value), j ≤ m ∧ t40 = .int .i64 j ∧ t6 = .slice (some ⟨w.heap.size + 3, 0, none⟩) j m ∧ t7 = .slice (some ⟨KB, 0, none⟩) j m ∧ Hid (Inv1 w w.heap.size KB m zs j xs wr)) (fun _ _ t _ => m - (intOf t).toNat)
  case atStart => exact ⟨0, [], Nat.zero_le _, rfl, rfl, rfl, HI0⟩
  case round =>
    obtain ⟨j, xs, hj, rfl, rfl, rfl, HI⟩ := hrel
    clear HI0
    by_cases hlt : j < m
    · obtain ⟨b, off, ha0, hb, hcell⟩ := HIN.out.cells.resolve_left (by omega)
      have hc : wr.cell? ⟨b, off + j, none⟩ = some (.int .u8 (zs.getD j 0)) := (HI.out.below.cell (p := ⟨b, off + j, none⟩) hb).trans (hcell j hlt)
      have hv := HIN.out.vals j hlt
      have HKD : Hid (kd zs j = (zs.getD j 0 % 10).toNat) := rfl
      have HNE : Hid (KB ≠ w.heap.size + 3) := by have := HI.out.kb; show KB ≠ _; omega
      have hjm : (j : Int) < (m : Int) := by omega
      revert hc hv HKD
      generalize zs.getD j 0 = z
      intro hc hv HKD
      have htm : z.tmod 10 = z % 10 := Int.tmod_eq_emod_of_nonneg hv.1
      clear hcell
      have h10 : z % 10 = 0 ∨ z % 10 = 1 ∨ z % 10 = 2 ∨ z % 10 = 3 ∨ z % 10 = 4 ∨ z % 10 = 5 ∨ z % 10 = 6 ∨ z % 10 = 7 ∨ z % 10 = 8 ∨ z % 10 = 9 := by omega
      rcases h10 with hz | hz | hz | hz | hz | hz | hz | hz | hz | hz
      · have HKC : Hid (kd zs j = 0) := by rw [HKD.out, hz]; rfl
        go_wp2_with (first | (at_builtin; refine wpList_append_fits _ rfl (.tmp 104) (.tmp 106) 33 rfl (w.heap.size + 3) 42 i1 1 Ybaf.underlying33 hi1 hi1s (w.heap.size + 3) j m xs rfl ((HI.out.rowL.alloc _).alloc _) ⟨wr.heap.size + 1, 0, none⟩ 1 1 [(stm 43 wr.heap.size)] rfl rfl (cells_new _ _ (by simp) #[(stm 43 wr.heap.size)] 42) (by simp [Value.oneCell']) (by omega) ?_; intro wb hownb hgrowb; have hrk := row_other (((HI.out.rowK.alloc _).alloc _)) hgrowb HNE.out) | (at_builtin; refine wpList_append_fits _ rfl (.tmp 108) (.tmp 110) 40 rfl (w.heap.size + 3) 3 i2 1 Ybaf.underlying40 hi2 hi2s KB j m (kv zs j) rfl (hrk.alloc _) ⟨wb.heap.size, 0, none⟩ 1 1 [.int .i64 0] rfl rfl (cells_new _ _ rfl #[.int .i64 0] 3) (by simp [Value.oneCell']) (by omega) ?_; intro wc hownc hgrowc))
        have HN : Hid (Inv1 w w.heap.size KB m zs (j + 1) (xs ++ [(stm 43 wr.heap.size)]) wc) := by
          refine HI.out.next rfl hgrowb hownb hgrowc (by rw [HKC.out]; exact hownc) ((Below.refl _ _).alloc (Nat.le_refl _) _) ?_
          rw [HKC.out]
          exact ⟨wr.heap.size, rfl, ⟨HI.out.size, by simp⟩, World.cell?_alloc_at _ _ _ 0 rfl⟩
        clear hownb hgrowb hownc hgrowc hrk HI
        go_wp2
        rw [← ha0]
        go_roundw
        case rel => exact ⟨j + 1, _, by omega, by go_num, rfl, rfl, HN⟩
        case measure => simp [intOf]; omega
      · have HKC : Hid (kd zs j = 1) := by rw [HKD.out, hz]; rfl
        go_wp2_with (first | (at_builtin; refine wpList_append_fits _ rfl (.tmp 104) (.tmp 106) 33 rfl (w.heap.size + 3) 42 i1 1 Ybaf.underlying33 hi1 hi1s (w.heap.size + 3) j m xs rfl ((HI.out.rowL.alloc _).alloc _) ⟨wr.heap.size + 1, 0, none⟩ 1 1 [(stm 32 wr.heap.size)] rfl rfl (cells_new _ _ (by simp) #[(stm 32 wr.heap.size)] 42) (by simp [Value.oneCell']) (by omega) ?_; intro wb hownb hgrowb; have hrk := row_other (((HI.out.rowK.alloc _).alloc _)) hgrowb HNE.out) | (at_builtin; refine wpList_append_fits _ rfl (.tmp 108) (.tmp 110) 40 rfl (w.heap.size + 3) 3 i2 1 Ybaf.underlying40 hi2 hi2s KB j m (kv zs j) rfl (hrk.alloc _) ⟨wb.heap.size, 0, none⟩ 1 1 [.int .i64 1] rfl rfl (cells_new _ _ rfl #[.int .i64 1] 3) (by simp [Value.oneCell']) (by omega) ?_; intro wc hownc hgrowc))
        have HN : Hid (Inv1 w w.heap.size KB m zs (j + 1) (xs ++ [(stm 32 wr.heap.size)]) wc) := by
          refine HI.out.next rfl hgrowb hownb hgrowc (by rw [HKC.out]; exact hownc) ((Below.refl _ _).alloc (Nat.le_refl _) _) ?_
          rw [HKC.out]
          exact ⟨wr.heap.size, rfl, ⟨HI.out.size, by simp⟩, World.cell?_alloc_at _ _ _ 0 rfl⟩
        clear hownb hgrowb hownc hgrowc hrk HI
        go_wp2
        rw [← ha0]
        go_roundw
        case rel => exact ⟨j + 1, _, by omega, by go_num, rfl, rfl, HN⟩
        case measure => simp [intOf]; omega
      · have HKC : Hid (kd zs j = 2) := by rw [HKD.out, hz]; rfl
        go_wp2_with (first | (at_builtin; refine wpList_append_fits _ rfl (.tmp 104) (.tmp 106) 33 rfl (w.heap.size + 3) 42 i1 1 Ybaf.underlying33 hi1 hi1s (w.heap.size + 3) j m xs rfl ((HI.out.rowL.alloc _).alloc _) ⟨wr.heap.size + 1, 0, none⟩ 1 1 [(stm 47 wr.heap.size)] rfl rfl (cells_new _ _ (by simp) #[(stm 47 wr.heap.size)] 42) (by simp [Value.oneCell']) (by omega) ?_; intro wb hownb hgrowb; have hrk := row_other (((HI.out.rowK.alloc _).alloc _)) hgrowb HNE.out) | (at_builtin; refine wpList_append_fits _ rfl (.tmp 108) (.tmp 110) 40 rfl (w.heap.size + 3) 3 i2 1 Ybaf.underlying40 hi2 hi2s KB j m (kv zs j) rfl (hrk.alloc _) ⟨wb.heap.size, 0, none⟩ 1 1 [.int .i64 2] rfl rfl (cells_new _ _ rfl #[.int .i64 2] 3) (by simp [Value.oneCell']) (by omega) ?_; intro wc hownc hgrowc))
        have HN : Hid (Inv1 w w.heap.size KB m zs (j + 1) (xs ++ [(stm 47 wr.heap.size)]) wc) := by
          refine HI.out.next rfl hgrowb hownb hgrowc (by rw [HKC.out]; exact hownc) ((Below.refl _ _).alloc (Nat.le_refl _) _) ?_
          rw [HKC.out]
          exact ⟨wr.heap.size, rfl⟩
        clear hownb hgrowb hownc hgrowc hrk HI
        go_wp2
        rw [← ha0]
        go_roundw
        case rel => exact ⟨j + 1, _, by omega, by go_num, rfl, rfl, HN⟩
        case measure => simp [intOf]; omega
      · have HKC : Hid (kd zs j = 3) := by rw [HKD.out, hz]; rfl
        go_wp2_with (first | (at_builtin; refine wpList_append_fits _ rfl (.tmp 104) (.tmp 106) 33 rfl (w.heap.size + 3) 42 i1 1 Ybaf.underlying33 hi1 hi1s (w.heap.size + 3) j m xs rfl ((HI.out.rowL.alloc _).alloc _) ⟨wr.heap.size + 1, 0, none⟩ 1 1 [(stm 50 wr.heap.size)] rfl rfl (cells_new _ _ (by simp) #[(stm 50 wr.heap.size)] 42) (by simp [Value.oneCell']) (by omega) ?_; intro wb hownb hgrowb; have hrk := row_other (((HI.out.rowK.alloc _).alloc _)) hgrowb HNE.out) | (at_builtin; refine wpList_append_fits _ rfl (.tmp 108) (.tmp 110) 40 rfl (w.heap.size + 3) 3 i2 1 Ybaf.underlying40 hi2 hi2s KB j m (kv zs j) rfl (hrk.alloc _) ⟨wb.heap.size, 0, none⟩ 1 1 [.int .i64 3] rfl rfl (cells_new _ _ rfl #[.int .i64 3] 3) (by simp [Value.oneCell']) (by omega) ?_; intro wc hownc hgrowc))
        have HN : Hid (Inv1 w w.heap.size KB m zs (j + 1) (xs ++ [(stm 50 wr.heap.size)]) wc) := by
          refine HI.out.next rfl hgrowb hownb hgrowc (by rw [HKC.out]; exact hownc) ((Below.refl _ _).alloc (Nat.le_refl _) _) ?_
          rw [HKC.out]
          exact ⟨wr.heap.size, rfl, ⟨HI.out.size, by simp⟩, World.cell?_alloc_at _ _ _ 0 rfl⟩
        clear hownb hgrowb hownc hgrowc hrk HI
        go_wp2
        rw [← ha0]
        go_roundw
        case rel => exact ⟨j + 1, _, by omega, by go_num, rfl, rfl, HN⟩
        case measure => simp [intOf]; omega
      · have HKC : Hid (kd zs j = 4) := by rw [HKD.out, hz]; rfl
        go_wp2_with (first | (at_builtin; refine wpList_append_fits _ rfl (.tmp 104) (.tmp 106) 33 rfl (w.heap.size + 3) 42 i1 1 Ybaf.underlying33 hi1 hi1s (w.heap.size + 3) j m xs rfl ((HI.out.rowL.alloc _).alloc _) ⟨wr.heap.size + 1, 0, none⟩ 1 1 [(stm 53 wr.heap.size)] rfl rfl (cells_new _ _ (by simp) #[(stm 53 wr.heap.size)] 42) (by simp [Value.oneCell']) (by omega) ?_; intro wb hownb hgrowb; have hrk := row_other (((HI.out.rowK.alloc _).alloc _)) hgrowb HNE.out) | (at_builtin; refine wpList_append_fits _ rfl (.tmp 108) (.tmp 110) 40 rfl (w.heap.size + 3) 3 i2 1 Ybaf.underlying40 hi2 hi2s KB j m (kv zs j) rfl (hrk.alloc _) ⟨wb.heap.size, 0, none⟩ 1 1 [.int .i64 4] rfl rfl (cells_new _ _ rfl #[.int .i64 4] 3) (by simp [Value.oneCell']) (by omega) ?_; intro wc hownc hgrowc))
        have HN : Hid (Inv1 w w.heap.size KB m zs (j + 1) (xs ++ [(stm 53 wr.heap.size)]) wc) := by
          refine HI.out.next rfl hgrowb hownb hgrowc (by rw [HKC.out]; exact hownc) ((Below.refl _ _).alloc (Nat.le_refl _) _) ?_
          rw [HKC.out]
          exact ⟨wr.heap.size, rfl, ⟨HI.out.size, by simp⟩, World.cell?_alloc_at _ _ _ 0 rfl⟩
        clear hownb hgrowb hownc hgrowc hrk HI
        go_wp2
        rw [← ha0]
        go_roundw
        case rel => exact ⟨j + 1, _, by omega, by go_num, rfl, rfl, HN⟩
        case measure => simp [intOf]; omega
      · have HKC : Hid (kd zs j = 5) := by rw [HKD.out, hz]; rfl
        go_wp2_with (first | (at_builtin; refine wpList_append_fits _ rfl (.tmp 104) (.tmp 106) 33 rfl (w.heap.size + 3) 42 i1 1 Ybaf.underlying33 hi1 hi1s (w.heap.size + 3) j m xs rfl ((HI.out.rowL.alloc _).alloc _) ⟨wr.heap.size + 1, 0, none⟩ 1 1 [(stm 56 wr.heap.size)] rfl rfl (cells_new _ _ (by simp) #[(stm 56 wr.heap.size)] 42) (by simp [Value.oneCell']) (by omega) ?_; intro wb hownb hgrowb; have hrk := row_other (((HI.out.rowK.alloc _).alloc _)) hgrowb HNE.out) | (at_builtin; refine wpList_append_fits _ rfl (.tmp 108) (.tmp 110) 40 rfl (w.heap.size + 3) 3 i2 1 Ybaf.underlying40 hi2 hi2s KB j m (kv zs j) rfl (hrk.alloc _) ⟨wb.heap.size, 0, none⟩ 1 1 [.int .i64 5] rfl rfl (cells_new _ _ rfl #[.int .i64 5] 3) (by simp [Value.oneCell']) (by omega) ?_; intro wc hownc hgrowc))
        have HN : Hid (Inv1 w w.heap.size KB m zs (j + 1) (xs ++ [(stm 56 wr.heap.size)]) wc) := by
          refine HI.out.next rfl hgrowb hownb hgrowc (by rw [HKC.out]; exact hownc) ((Below.refl _ _).alloc (Nat.le_refl _) _) ?_
          rw [HKC.out]
          exact ⟨wr.heap.size, rfl, ⟨HI.out.size, by simp⟩, World.cell?_alloc_at _ _ _ 0 rfl⟩
        clear hownb hgrowb hownc hgrowc hrk HI
        go_wp2
        rw [← ha0]
        go_roundw
        case rel => exact ⟨j + 1, _, by omega, by go_num, rfl, rfl, HN⟩
        case measure => simp [intOf]; omega
      · have HKC : Hid (kd zs j = 6) := by rw [HKD.out, hz]; rfl
        go_wp2_with (first | (at_builtin; refine wpList_append_fits _ rfl (.tmp 104) (.tmp 106) 33 rfl (w.heap.size + 3) 42 i1 1 Ybaf.underlying33 hi1 hi1s (w.heap.size + 3) j m xs rfl ((HI.out.rowL.alloc _).alloc _) ⟨wr.heap.size + 1, 0, none⟩ 1 1 [(stm 60 wr.heap.size)] rfl rfl (cells_new _ _ (by simp) #[(stm 60 wr.heap.size)] 42) (by simp [Value.oneCell']) (by omega) ?_; intro wb hownb hgrowb; have hrk := row_other (((HI.out.rowK.alloc _).alloc _)) hgrowb HNE.out) | (at_builtin; refine wpList_append_fits _ rfl (.tmp 108) (.tmp 110) 40 rfl (w.heap.size + 3) 3 i2 1 Ybaf.underlying40 hi2 hi2s KB j m (kv zs j) rfl (hrk.alloc _) ⟨wb.heap.size, 0, none⟩ 1 1 [.int .i64 6] rfl rfl (cells_new _ _ rfl #[.int .i64 6] 3) (by simp [Value.oneCell']) (by omega) ?_; intro wc hownc hgrowc))
        have HN : Hid (Inv1 w w.heap.size KB m zs (j + 1) (xs ++ [(stm 60 wr.heap.size)]) wc) := by
          refine HI.out.next rfl hgrowb hownb hgrowc (by rw [HKC.out]; exact hownc) ((Below.refl _ _).alloc (Nat.le_refl _) _) ?_
          rw [HKC.out]
          exact ⟨wr.heap.size, rfl, ⟨HI.out.size, by simp⟩, World.cell?_alloc_at _ _ _ 0 rfl⟩
        clear hownb hgrowb hownc hgrowc hrk HI
        go_wp2
        rw [← ha0]
        go_roundw
        case rel => exact ⟨j + 1, _, by omega, by go_num, rfl, rfl, HN⟩
        case measure => simp [intOf]; omega
      · have HKC : Hid (kd zs j = 7) := by rw [HKD.out, hz]; rfl
        go_wp2_with (first | (at_builtin; refine wpList_append_fits _ rfl (.tmp 104) (.tmp 106) 33 rfl (w.heap.size + 3) 42 i1 1 Ybaf.underlying33 hi1 hi1s (w.heap.size + 3) j m xs rfl ((HI.out.rowL.alloc _).alloc _) ⟨wr.heap.size + 1, 0, none⟩ 1 1 [(stm 57 wr.heap.size)] rfl rfl (cells_new _ _ (by simp) #[(stm 57 wr.heap.size)] 42) (by simp [Value.oneCell']) (by omega) ?_; intro wb hownb hgrowb; have hrk := row_other (((HI.out.rowK.alloc _).alloc _)) hgrowb HNE.out) | (at_builtin; refine wpList_append_fits _ rfl (.tmp 108) (.tmp 110) 40 rfl (w.heap.size + 3) 3 i2 1 Ybaf.underlying40 hi2 hi2s KB j m (kv zs j) rfl (hrk.alloc _) ⟨wb.heap.size, 0, none⟩ 1 1 [.int .i64 7] rfl rfl (cells_new _ _ rfl #[.int .i64 7] 3) (by simp [Value.oneCell']) (by omega) ?_; intro wc hownc hgrowc))
        have HN : Hid (Inv1 w w.heap.size KB m zs (j + 1) (xs ++ [(stm 57 wr.heap.size)]) wc) := by
          refine HI.out.next rfl hgrowb hownb hgrowc (by rw [HKC.out]; exact hownc) ((Below.refl _ _).alloc (Nat.le_refl _) _) ?_
          rw [HKC.out]
          exact ⟨wr.heap.size, rfl, ⟨HI.out.size, by simp⟩, World.cell?_alloc_at _ _ _ 1 rfl⟩
        clear hownb hgrowb hownc hgrowc hrk HI
        go_wp2
        rw [← ha0]
        go_roundw
        case rel => exact ⟨j + 1, _, by omega, by go_num, rfl, rfl, HN⟩
        case measure => simp [intOf]; omega
      · have HKC : Hid (kd zs j = 8) := by rw [HKD.out, hz]; rfl
        go_wp2_with (first | (at_builtin; refine wpList_append_fits _ rfl (.tmp 104) (.tmp 106) 33 rfl (w.heap.size + 3) 42 i1 1 Ybaf.underlying33 hi1 hi1s (w.heap.size + 3) j m xs rfl (((HI.out.rowL.alloc _).alloc _).alloc _) ⟨wr.heap.size + 2, 0, none⟩ 1 1 [(stm 65 (wr.heap.size + 1))] rfl rfl (cells_new _ _ (by simp) #[(stm 65 (wr.heap.size + 1))] 42) (by simp [Value.oneCell']) (by omega) ?_; intro wb hownb hgrowb; have hrk := row_other ((((HI.out.rowK.alloc _).alloc _).alloc _)) hgrowb HNE.out) | (at_builtin; refine wpList_append_fits _ rfl (.tmp 108) (.tmp 110) 40 rfl (w.heap.size + 3) 3 i2 1 Ybaf.underlying40 hi2 hi2s KB j m (kv zs j) rfl (hrk.alloc _) ⟨wb.heap.size, 0, none⟩ 1 1 [.int .i64 8] rfl rfl (cells_new _ _ rfl #[.int .i64 8] 3) (by simp [Value.oneCell']) (by omega) ?_; intro wc hownc hgrowc))
        have HN : Hid (Inv1 w w.heap.size KB m zs (j + 1) (xs ++ [(stm 65 (wr.heap.size + 1))]) wc) := by
          refine HI.out.next rfl hgrowb hownb hgrowc (by rw [HKC.out]; exact hownc) (((Below.refl _ _).alloc (Nat.le_refl _) _).alloc (by simp) _) ?_
          rw [HKC.out]
          exact ⟨wr.heap.size + 1, wr.heap.size, rfl, ⟨Nat.le_succ_of_le HI.out.size, by simp⟩, ⟨HI.out.size, by simp; omega⟩, World.cell?_alloc_at _ _ _ 0 (by simp), World.cell?_alloc_at _ _ _ 1 (by simp), (World.cell?_alloc_past _ _ _ (by simp)).trans (World.cell?_alloc_at _ _ _ 0 rfl), (World.cell?_alloc_past _ _ _ (by simp)).trans (World.cell?_alloc_at _ _ _ 1 rfl)⟩
        clear hownb hgrowb hownc hgrowc hrk HI
        go_wp2
        rw [← ha0]
        go_roundw
        case rel => exact ⟨j + 1, _, by omega, by go_num, rfl, rfl, HN⟩
        case measure => simp [intOf]; omega
      · have HKC : Hid (kd zs j = 9) := by rw [HKD.out, hz]; rfl
        go_wp2_with (first | (at_builtin; refine wpList_append_fits _ rfl (.tmp 104) (.tmp 106) 33 rfl (w.heap.size + 3) 42 i1 1 Ybaf.underlying33 hi1 hi1s (w.heap.size + 3) j m xs rfl ((HI.out.rowL.alloc _).alloc _) ⟨wr.heap.size + 1, 0, none⟩ 1 1 [(stm 70 wr.heap.size)] rfl rfl (cells_new _ _ (by simp) #[(stm 70 wr.heap.size)] 42) (by simp [Value.oneCell']) (by omega) ?_; intro wb hownb hgrowb; have hrk := row_other (((HI.out.rowK.alloc _).alloc _)) hgrowb HNE.out) | (at_builtin; refine wpList_append_fits _ rfl (.tmp 108) (.tmp 110) 40 rfl (w.heap.size + 3) 3 i2 1 Ybaf.underlying40 hi2 hi2s KB j m (kv zs j) rfl (hrk.alloc _) ⟨wb.heap.size, 0, none⟩ 1 1 [.int .i64 9] rfl rfl (cells_new _ _ rfl #[.int .i64 9] 3) (by simp [Value.oneCell']) (by omega) ?_; intro wc hownc hgrowc))
        have HN : Hid (Inv1 w w.heap.size KB m zs (j + 1) (xs ++ [(stm 70 wr.heap.size)]) wc) := by
          refine HI.out.next rfl hgrowb hownb hgrowc (by rw [HKC.out]; exact hownc) ((Below.refl _ _).alloc (Nat.le_refl _) _) ?_
          rw [HKC.out]
          exact ⟨wr.heap.size, rfl, ⟨HI.out.size, by simp⟩, World.cell?_alloc_at _ _ _ 0 rfl⟩
        clear hownb hgrowb hownc hgrowc hrk HI
        go_wp2
        rw [← ha0]
        go_roundw
        case rel => exact ⟨j + 1, _, by omega, by go_num, rfl, rfl, HN⟩
        case measure => simp [intOf]; omega
    · obtain rfl : j = m := by omega
      have hmm := @run_makeMap Ybaf.prog
      go_wp2_with fail
      refine (new_namer_at _ _).mono ?_
      rintro e wa ⟨na, rfl, hba⟩
      have HBA : Hid (Below wr.heap.size wr wa) := hba
      clear hba
      go_wp2_with fail
      refine (new_namer_at _ _).mono ?_
      rintro e wb ⟨nb, rfl, hbb⟩
      have HBB : Hid (Below wr.heap.size wr (wb.alloc (.map #[] 0))) := (HBA.out.trans (hbb.mono HBA.out.size)).alloc (Nat.le_trans HBA.out.size hbb.size) _
      have HFB : Hid (F.told.answers (wb.alloc (.map #[] 0)).tape) := by show F.told.answers _; rw [HBB.out.tape, HI.out.below.tape]; exact HF.out
      clear HBA hbb
      obtain ⟨h, HH⟩ : ∃ h, Hid ((wb.alloc (.map #[] 0)).heap.size = h) := ⟨_, rfl⟩
      go_wp2_with fail
      refine (new_body_at F _ _ _ ⟨_, rfl⟩ ⟨_, rfl⟩ _ HFB.out h HH.out).mono ?_
      rintro e w4 ⟨rfl, hs4, hb4⟩
      have HS4 : Hid (SG F h G.start w4) := hs4
      have HB4 : Hid (Below wr.heap.size wr w4) := HBB.out.trans (hb4.mono (by rw [← HH.out]; exact HBB.out.size))
      have HLE : Hid (wr.heap.size ≤ h) := by rw [← HH.out]; exact HBB.out.size
      clear hs4 hb4 HBB HFB HH hmm
      have HX4 : Hid (∀ i, i < j → IsStm (KB + 1) h w.heap.size (w.heap.size + 1) (w.heap.size + 2) w4 ((kl zs j).getD i 0) (xs.getD i undef)) := fun i hi => by
        rw [kl_get zs j i hi]
        exact (HI.out.stm i hi).keep (kd_lt zs i) HLE.out (fun k _ hk => HB4.out.block k hk)
      have HLL : Hid (w.heap.size + 3 < h) := by have h1 := HI.out.size; have h2 := HLE.out; have h3 := HI.out.kb; show _ < _; omega
      have HL4 : Hid (∀ i, i < j → w4.cell? ⟨w.heap.size + 3, i, none⟩ = some (xs.getD i undef)) := fun i hi => by
        have h1 := HI.out.rowL.cellAt i (by omega)
        have h2 := HI.out.len
        rw [List.getElem?_eq_getElem (by omega)] at h1
        have h3 := HI.out.kb
        have h4 := HI.out.size
        rw [HB4.out.cell (p := ⟨w.heap.size + 3, i, none⟩) (by show w.heap.size + 3 < _; omega), h1, List.getD_eq_getElem?_getD, List.getElem?_eq_getElem (by omega)]
        rfl
      have HC4 : Hid (w4.cell? ⟨w.heap.size, 4, none⟩ = some (.bool false)) := (HB4.out.cell (p := ⟨w.heap.size, 4, none⟩) (by have h3 := HI.out.kb; have h4 := HI.out.size; show w.heap.size < _; omega)).trans HI.out.chan
      go_wp2_with fail
      refine (stmts_list (F := F) (lo := KB + 1) (lB := w.heap.size + 1) (tB := w.heap.size + 2) (cB := w.heap.size) (kl zs j) xs j j (w.heap.size + 3) hm HS4.out ⟨fun p hp => (by cases hp), .inl rfl, .inl rfl, .inl rfl⟩ (fun i hi => by rw [kl_get zs j i hi]; exact kd_lt zs i) HX4.out HL4.out (by have := HLL.out; omega) HC4.out (by have := HLL.out; omega)).mono ?_
      rintro e w5 ⟨rfl, hs5, hb5, hok5⟩
      have HS5 : Hid _ := hs5
      have HB5 : Hid (Below w.heap.size w w5) := (HI.out.below.trans (HB4.out.mono (by have := HI.out.size; have := HI.out.kb; omega))).trans (hb5.mono (by have := HLL.out; omega))
      have HK5 : Hid (∀ i, i < j → w5.cell? ⟨KB, i, none⟩ = some (.int .i64 (kd zs i))) := fun i hi => by
        have h1 := HI.out.rowK.cellAt i (by omega)
        rw [kv_get zs j i hi] at h1
        have h4 := HI.out.size
        have h5 := HLE.out
        rw [hb5.cell (p := ⟨KB, i, none⟩) (by show KB < _; omega), HB4.out.cell (p := ⟨KB, i, none⟩) (by show KB < _; omega)]
        exact h1
      have HL5 : Hid (∀ i, i < j → w5.cell? ⟨w.heap.size + 3, i, none⟩ = some (xs.getD i undef)) := fun i hi => (hb5.cell (p := ⟨w.heap.size + 3, i, none⟩) (by have := HLL.out; show w.heap.size + 3 < _; omega)).trans (HL4.out i hi)
      clear hs5 hb5 hok5 HS4 HB4 HLE HL4 HC4 HI
      obtain ⟨v5, ys5, hc5, ho5⟩ := HS5.out.cells
      obtain ⟨ao, cap5, rfl⟩ := row_shape ho5
      have HCE : Hid _ := hc5
      clear ho5 hc5
      have hc13 := HCE.out.c13
      go_wp2_with fail
      go_loopw [13, 14, 15, 16, 17, 122] (fun t13 t14 t15 t16 t17 t122 wq => ∃ i : Nat, i ≤ j ∧ wq = w5 ∧ t122 = .int .i64 i ∧ t13 = .int .i64 (runG (w.heap.size + 1) (w.heap.size + 2) (kl zs j) xs i).n ∧ t14 = .int .i64 (runG (w.heap.size + 1) (w.heap.size + 2) (kl zs j) xs i).st.length ∧ t15 = .bool (runG (w.heap.size + 1) (w.heap.size + 2) (kl zs j) xs i).ret ∧ t16 = .bool (runG (w.heap.size + 1) (w.heap.size + 2) (kl zs j) xs i).c ∧ t17 = .bool (runG (w.heap.size + 1) (w.heap.size + 2) (kl zs j) xs i).b) (fun _ _ _ _ _ t _ => j - (intOf t).toNat)
      case atStart => exact ⟨0, Nat.zero_le _, rfl, rfl, rfl, rfl, rfl, rfl, rfl⟩
      case round =>
        obtain ⟨i, hij, rfl, rfl, rfl, rfl, rfl, rfl, rfl⟩ := hrel
        by_cases hil : i < j
        · have hck := HK5.out i hil
          have hcl := HL5.out i hil
          have HE : Hid (runG (w.heap.size + 1) (w.heap.size + 2) (kl zs j) xs (i + 1) = stepG (w.heap.size + 1) (w.heap.size + 2) (runG (w.heap.size + 1) (w.heap.size + 2) (kl zs j) xs i) (kd zs i) (xs.getD i undef)) := by show _ = _; rw [runG, kl_get zs j i hil]
          have HIS : Hid (IsStm (KB + 1) h w.heap.size (w.heap.size + 1) (w.heap.size + 2) w4 (kd zs i) (xs.getD i undef)) := by have := HX4.out i hil; rw [kl_get zs j i hil] at this; exact this
          have HSA : Hid (kd zs i = 0 ∨ kd zs i = 1 ∨ kd zs i = 3 → ∃ q, find (isInt ((runG (w.heap.size + 1) (w.heap.size + 2) (kl zs j) xs i).n : Int)) (runG (w.heap.size + 1) (w.heap.size + 2) (kl zs j) xs j).st 0 = some (q, xs.getD i undef)) := fun hk => stands_at _ _ _ _ i j hil (by rw [kl_get zs j i hil]; exact hk) (run_keys _ _ _ _ _)
          have hgn : (runG (w.heap.size + 1) (w.heap.size + 2) (kl zs j) xs i).n ≤ 4096 := by have := run_n (w.heap.size + 1) (w.heap.size + 2) (kl zs j) xs i; omega
          have hgl : (runG (w.heap.size + 1) (w.heap.size + 2) (kl zs j) xs i).st.length ≤ 1024 := by have := run_len (w.heap.size + 1) (w.heap.size + 2) (kl zs j) xs i; omega
          have hk10 := kd_lt zs i
          have hil' : (i : Int) < (j : Int) := by omega
          revert hck hcl HE HIS HSA hgn hgl hk10
          generalize runG (w.heap.size + 1) (w.heap.size + 2) (kl zs j) xs i = g
          generalize xs.getD i undef = x
          generalize kd zs i = c
          intro hck hcl HE HIS HSA hgn hgl hk10
          rcases ten hk10 with rfl | rfl | rfl | rfl | rfl | rfl | rfl | rfl | rfl | rfl
          · obtain ⟨A, rfl, _, _⟩ := HIS.out
            obtain ⟨q, hq⟩ := HSA.out (by omega)
            have hlk : (Instr.lookup 86 (.map (some (h + 7))) (.int .i64 g.n) true).run Ybaf.prog wr = .ok (.tuple #[.iface 43 (.pointer (some ⟨A, 0, none⟩)), .bool true]) wr := by
              have := look_run HS5.out.stn Ybaf.underlying86 (asks_int _ _ (run_keys _ _ _ _ _) (g.n : Int)) (zero42 wr) true
              rw [hq] at this
              exact this
            have heq : (Op.equal 42 (.iface 43 (.pointer (some ⟨A, 0, none⟩))) (.iface 43 (.pointer (some ⟨A, 0, none⟩)))).run Ybaf.prog wr = .ok true wr := eqStm 43 45 A Ybaf.underlying43 (Ybaf.prog.cellsOf 45 - 1) (fun w => by kernel_rfl) (by kernel_rfl) wr
            have hne := neq_self heq
            have hcl' : wr.cell? ⟨w.heap.size + 3, i, none⟩ = some (.iface 43 (.pointer (some ⟨A, 0, none⟩))) := hcl
            clear hq heq hcl
            go_wp2
            go_roundw
            case rel => exact ⟨i + 1, by omega, (by first | trivial | rfl), by go_num, by rw [HE.out]; simp [stepG], by rw [HE.out]; simp [stepG], by rw [HE.out]; simp [stepG], by rw [HE.out]; simp [stepG, G.c], by rw [HE.out]; simp [stepG, G.b]⟩
            case measure => simp [intOf]; omega
          · obtain ⟨A, rfl, _, _⟩ := HIS.out
            obtain ⟨q, hq⟩ := HSA.out (by omega)
            have hlk : (Instr.lookup 86 (.map (some (h + 7))) (.int .i64 g.n) true).run Ybaf.prog wr = .ok (.tuple #[.iface 32 (.pointer (some ⟨A, 0, none⟩)), .bool true]) wr := by
              have := look_run HS5.out.stn Ybaf.underlying86 (asks_int _ _ (run_keys _ _ _ _ _) (g.n : Int)) (zero42 wr) true
              rw [hq] at this
              exact this
            have heq : (Op.equal 42 (.iface 32 (.pointer (some ⟨A, 0, none⟩))) (.iface 32 (.pointer (some ⟨A, 0, none⟩)))).run Ybaf.prog wr = .ok true wr := eqStm 32 46 A Ybaf.underlying32 (Ybaf.prog.cellsOf 46 - 1) (fun w => by kernel_rfl) (by kernel_rfl) wr
            have hne := neq_self heq
            have hcl' : wr.cell? ⟨w.heap.size + 3, i, none⟩ = some (.iface 32 (.pointer (some ⟨A, 0, none⟩))) := hcl
            clear hq heq hcl
            go_wp2
            go_roundw
            case rel => exact ⟨i + 1, by omega, (by first | trivial | rfl), by go_num, by rw [HE.out]; simp [stepG], by rw [HE.out]; simp [stepG], by rw [HE.out]; simp [stepG], by rw [HE.out]; simp [stepG, G.c], by rw [HE.out]; simp [stepG, G.b]⟩
            case measure => simp [intOf]; omega
          · clear HSA HIS
            go_wp2
            go_roundw
            case rel => exact ⟨i + 1, by omega, (by first | trivial | rfl), by go_num, by rw [HE.out]; simp [stepG], by rw [HE.out]; simp [stepG], by rw [HE.out]; simp [stepG], by rw [HE.out]; simp [stepG, G.c], by rw [HE.out]; simp [stepG, G.b]⟩
            case measure => simp [intOf]; omega
          · obtain ⟨A, rfl, _, _⟩ := HIS.out
            obtain ⟨q, hq⟩ := HSA.out (by omega)
            have hlk : (Instr.lookup 86 (.map (some (h + 7))) (.int .i64 g.n) true).run Ybaf.prog wr = .ok (.tuple #[.iface 50 (.pointer (some ⟨A, 0, none⟩)), .bool true]) wr := by
              have := look_run HS5.out.stn Ybaf.underlying86 (asks_int _ _ (run_keys _ _ _ _ _) (g.n : Int)) (zero42 wr) true
              rw [hq] at this
              exact this
            have heq : (Op.equal 42 (.iface 50 (.pointer (some ⟨A, 0, none⟩))) (.iface 50 (.pointer (some ⟨A, 0, none⟩)))).run Ybaf.prog wr = .ok true wr := eqStm 50 52 A Ybaf.underlying50 (Ybaf.prog.cellsOf 52 - 1) (fun w => by kernel_rfl) (by kernel_rfl) wr
            have hne := neq_self heq
            have hcl' : wr.cell? ⟨w.heap.size + 3, i, none⟩ = some (.iface 50 (.pointer (some ⟨A, 0, none⟩))) := hcl
            clear hq heq hcl
            go_wp2
            go_roundw
            case rel => exact ⟨i + 1, by omega, (by first | trivial | rfl), by go_num, by rw [HE.out]; simp [stepG], by rw [HE.out]; simp [stepG], by rw [HE.out]; simp [stepG], by rw [HE.out]; simp [stepG, G.c], by rw [HE.out]; simp [stepG, G.b]⟩
            case measure => simp [intOf]; omega
          · clear HSA HIS
            go_wp2
            go_roundw
            case rel => exact ⟨i + 1, by omega, (by first | trivial | rfl), by go_num, by rw [HE.out]; simp [stepG], by rw [HE.out]; simp [stepG], by rw [HE.out]; simp [stepG], by rw [HE.out]; simp [stepG, G.c], by rw [HE.out]; simp [stepG, G.b]⟩
            case measure => simp [intOf]; omega
          · clear HSA HIS
            go_wp2
            go_roundw
            case rel => exact ⟨i + 1, by omega, (by first | trivial | rfl), by go_num, by rw [HE.out]; simp [stepG], by rw [HE.out]; simp [stepG], by rw [HE.out]; simp [stepG], by rw [HE.out]; simp [stepG, G.c], by rw [HE.out]; simp [stepG, G.b]⟩
            case measure => simp [intOf]; omega
          · clear HSA HIS
            go_wp2
            go_roundw
            case rel => exact ⟨i + 1, by omega, (by first | trivial | rfl), by go_num, by rw [HE.out]; simp [stepG], by rw [HE.out]; simp [stepG], by rw [HE.out]; simp [stepG], by rw [HE.out]; simp [stepG, G.c], by rw [HE.out]; simp [stepG, G.b]⟩
            case measure => simp [intOf]; omega
          · clear HSA HIS
            go_wp2
            go_roundw
            case rel => exact ⟨i + 1, by omega, (by first | trivial | rfl), by go_num, by rw [HE.out]; simp [stepG], by rw [HE.out]; simp [stepG], by rw [HE.out]; simp [stepG], by rw [HE.out]; simp [stepG, G.c], by rw [HE.out]; simp [stepG, G.b]⟩
            case measure => simp [intOf]; omega
          · clear HSA HIS
            go_wp2
            go_roundw
            case rel => exact ⟨i + 1, by omega, (by first | trivial | rfl), by go_num, by rw [HE.out]; simp [stepG], by rw [HE.out]; simp [stepG], by rw [HE.out]; simp [stepG], by rw [HE.out]; simp [stepG, G.c], by rw [HE.out]; simp [stepG, G.b]⟩
            case measure => simp [intOf]; omega
          · clear HSA HIS
            go_wp2
            go_roundw
            case rel => exact ⟨i + 1, by omega, (by first | trivial | rfl), by go_num, by rw [HE.out]; simp [stepG], by rw [HE.out]; simp [stepG], by rw [HE.out]; simp [stepG], by rw [HE.out]; simp [stepG, G.c], by rw [HE.out]; simp [stepG, G.b]⟩
            case measure => simp [intOf]; omega
        · obtain rfl : i = j := by omega
          have hNC := run_NC (w.heap.size + 1) (w.heap.size + 2) (kl zs i) xs i
          have hgn : (runG (w.heap.size + 1) (w.heap.size + 2) (kl zs i) xs i).n ≤ 4096 := by have := run_n (w.heap.size + 1) (w.heap.size + 2) (kl zs i) xs i; omega
          have hgl : (runG (w.heap.size + 1) (w.heap.size + 2) (kl zs i) xs i).st.length ≤ 1024 := by have := run_len (w.heap.size + 1) (w.heap.size + 2) (kl zs i) xs i; omega
          clear HK5 HL5 HX4 HIN HF
          revert hNC hgn hgl HS5 HCE
          generalize runG (w.heap.size + 1) (w.heap.size + 2) (kl zs i) xs i = g
          intro HS5 HCE hNC hgn hgl
          have h5 := HCE.out.c5
          have h11 := HCE.out.c11
          have h9 := HCE.out.c9
          have h10 := HCE.out.c10
          have h8 := HCE.out.c8
          have h6 := HCE.out.c6
          have h14 := HCE.out.c14
          have h15 := HCE.out.c15
          have h4 := HCE.out.c4
          have hl1 := look_cont HS5.out hNC
          have hl2 := look_left HS5.out hNC
          have hnl := hNC.len
          have hst1 := len_run (ty := 3) HS5.out.stn Ybaf.underlying86
          have hnm1 := len_run (ty := 3) HS5.out.num Ybaf.underlying82
          clear HS5 HCE hNC
          revert hl1 hl2 hnl
          generalize g.c = bc
          generalize g.b = bb
          intro hl1 hl2 hnl
          cases bc <;> cases bb
          all_goals simp at hnl
          all_goals go_wp2
          all_goals go_ret
          all_goals exact ⟨rfl, HB5.out⟩
end Go.Proofs.YbulkwawFmt
