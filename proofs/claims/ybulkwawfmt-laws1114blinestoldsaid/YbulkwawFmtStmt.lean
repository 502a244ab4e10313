/- The walks of 'leave' and of 'stmt', kind by kind. -/
import Derived.Test.YbulkwawFmtOption
namespace Go.Proofs.YbulkwawFmt
open Go.RowKit Go.Extern.Stop Go.Stop Go.Extern
set_option linter.unusedVariables false
set_option maxRecDepth 100000
set_option maxHeartbeats 1000000

/-- The operands' block, just laid: its cell. -/
theorem new_cell (w : World) (c : Array Value) (t : TypeId) (i : Nat) : (w.alloc (.cells c t)).cell? ⟨w.heap.size, i, none⟩ = c[i]? := World.cell?_alloc_at c t _ i rfl
theorem new_kept {w w' : World} {c : Array Value} {t : TypeId} {h : Nat} (hs : h + 9 ≤ w.heap.size) (hk : ∀ k, h + 9 ≤ k → w'.heap[k]? = (w.alloc (.cells c t)).heap[k]?) (i : Nat) : w'.cell? ⟨w.heap.size, i, none⟩ = c[i]? :=
  (World.cell?_of_block (w := w.alloc (.cells c t)) (a := ⟨w.heap.size, i, none⟩) (hk _ hs)).trans (new_cell w c t i)

section
variable {F : Interp} {h n : Nat} {st : Prs} {sn : Value} {ind : Int} {ret : Bool} {cont left nums : Prs} {w : World} {cB lB tB : Nat}

theorem upd_left (s : St F h n st sn ind ret cont left nums w) (hk : LeftOk tB left) :
    ∃ w', (Instr.mapUpdate 84 (.map (some (h + 5))) (.iface 36 (.pointer (some ⟨tB, 0, none⟩))) (.bool true)).run Ybaf.prog w = .ok () w' ∧ Mp w' (h + 5) [(stm 36 tB, .bool true)] ∧ w.mapTurned w' (h + 5) := by
  rcases hk with rfl | rfl
  · exact upd_new s.lef Ybaf.underlying84 (asks_stm 0 tB 36 tB (by omega) [] (fun p hp => by cases hp)) rfl
  · exact upd_same s.lef Ybaf.underlying84 (asks_stm 0 tB 36 tB (by omega) _ (LeftOk.keys (.inr rfl))) rfl (by simp [Instr.sameBits])

theorem leave_any (s : St F.told h n st .nilIface 1 ret cont left nums w) (hn : n ≤ 1000000) (hkl : LeftOk tB left) (hkn : NumsOk lB tB nums) :
    Calls Ybaf.prog 19 #[.pointer (some ⟨h + 8, 0, none⟩), .iface 36 (.pointer (some ⟨tB, 0, none⟩))] w fun e w' => e = .returned (.tuple #[]) ∧ St F.told h (n + 1) st .nilIface 1 ret cont [(stm 36 tB, .bool true)] (addNum 36 tB nums) w' ∧ Below (h + 3) w w' ∧ NumsOk lB tB (addNum 36 tB nums) := by
  obtain ⟨v, xs, hc, ho⟩ := s.cells
  have h1 := hc.c10
  obtain ⟨w1, hup, hm1, ht1⟩ := upd_left s hkl
  have HS1 : Hid _ := s.turnLef ht1 hm1
  have HB1 : Hid _ := turned_below ht1 (B := h + 3) (by omega)
  clear s hc ho hm1 ht1
  go_enter Ybaf.func19, Ybaf.ntmps19
  go_wp2_with fail
  refine (label_any HS1.out 36 tB (.inr ⟨rfl, rfl⟩) hkn).mono ?_
  rintro e w2 ⟨rfl | rfl, s2, hb2, hk2⟩
  · have HS2 : Hid _ := s2
    have HB2 : Hid _ := hb2
    clear s2 hb2
    go_wp2_with fail
    refine (line_nil (HS2.out.alloc _) hn (pGoto1 F w2.heap.size) (new_cell w2 _ _ 0)).mono ?_
    rintro e w3 ⟨rfl, s3, hb3⟩
    go_wp2
    go_end0
    exact ⟨rfl, s3, (HB1.out.trans HB2.out).trans (((Below.refl _ _).alloc (by have := HS2.out.size; omega) _).trans hb3), hk2⟩
  · have HS2 : Hid _ := s2
    have HB2 : Hid _ := hb2
    clear s2 hb2
    go_wp2_with fail
    refine (line_nil (HS2.out.alloc _) hn (pGoto2 F w2.heap.size) (new_cell w2 _ _ 0)).mono ?_
    rintro e w3 ⟨rfl, s3, hb3⟩
    go_wp2
    go_end0
    exact ⟨rfl, s3, (HB1.out.trans HB2.out).trans (((Below.refl _ _).alloc (by have := HS2.out.size; omega) _).trans hb3), hk2⟩

theorem stmt_send (s : St F.told h n st .nilIface 1 ret cont left nums w) (hn : n ≤ 1000000) (hks : Keys st n) (A : Nat) (hA : w.cell? ⟨A, 0, none⟩ = some (ptr cB)) (hC : w.cell? ⟨cB, 4, none⟩ = some (.bool false)) (hlt : A < h + 3 ∧ cB < h + 3) :
    Calls Ybaf.prog 7 #[.pointer (some ⟨h + 8, 0, none⟩), .iface 43 (.pointer (some ⟨A, 0, none⟩))] w fun e w' => e = .returned (.tuple #[]) ∧ St F.told h (n + 1) (st ++ [(.int .i64 n, stm 43 A)]) .nilIface 1 ret cont left nums w' ∧ Below (h + 3) w w' := by
  have a1 := ta43_43
  have a2 := ta43_32
  have HS : Hid _ := s
  clear s
  go_enter Ybaf.func7, Ybaf.ntmps7
  go_wp2_with fail
  refine (at_any HS.out _ ⟨43, A, rfl⟩).mono ?_
  rintro e w1 ⟨rfl, s1, hb1⟩
  have HS1 : Hid _ := s1
  have HB1 : Hid _ := hb1
  have HA1 : Hid (w1.cell? ⟨A, 0, none⟩ = some (ptr cB)) := (hb1.cell (p := ⟨A, 0, none⟩) hlt.1).trans hA
  have HC1 : Hid (w1.cell? ⟨cB, 4, none⟩ = some (.bool false)) := (hb1.cell (p := ⟨cB, 4, none⟩) hlt.2).trans hC
  clear s1 hb1 hA hC
  go_wp2_with fail
  refine (op_send HS1.out A cB HA1.out HC1.out).mono ?_
  rintro e w2 ⟨rfl, rfl⟩
  go_wp2_with fail
  refine (line_at 43 A (HS1.out.alloc _) hks hn (pSend F _) (fun w' _ hk => new_kept HS1.out.size hk 0)).mono ?_
  rintro e w3 ⟨rfl, s3, hb3⟩
  go_wp2
  go_end0
  exact ⟨rfl, s3, HB1.out.trans (((Below.refl _ _).alloc (by have := HS1.out.size; omega) _).trans hb3)⟩
theorem stmt_recv (s : St F.told h n st .nilIface 1 ret cont left nums w) (hn : n ≤ 1000000) (hks : Keys st n) (A : Nat) (hA : w.cell? ⟨A, 0, none⟩ = some (ptr cB)) (hC : w.cell? ⟨cB, 4, none⟩ = some (.bool false)) (hlt : A < h + 3 ∧ cB < h + 3) :
    Calls Ybaf.prog 7 #[.pointer (some ⟨h + 8, 0, none⟩), .iface 32 (.pointer (some ⟨A, 0, none⟩))] w fun e w' => e = .returned (.tuple #[]) ∧ St F.told h (n + 1) (st ++ [(.int .i64 n, stm 32 A)]) .nilIface 1 ret cont left nums w' ∧ Below (h + 3) w w' := by
  have a1 := ta32_43
  have a2 := ta32_32
  have HS : Hid _ := s
  clear s
  go_enter Ybaf.func7, Ybaf.ntmps7
  go_wp2_with fail
  refine (at_any HS.out _ ⟨32, A, rfl⟩).mono ?_
  rintro e w1 ⟨rfl, s1, hb1⟩
  have HS1 : Hid _ := s1
  have HB1 : Hid _ := hb1
  have HA1 : Hid (w1.cell? ⟨A, 0, none⟩ = some (ptr cB)) := (hb1.cell (p := ⟨A, 0, none⟩) hlt.1).trans hA
  have HC1 : Hid (w1.cell? ⟨cB, 4, none⟩ = some (.bool false)) := (hb1.cell (p := ⟨cB, 4, none⟩) hlt.2).trans hC
  clear s1 hb1 hA hC
  go_wp2_with fail
  refine (op_recv HS1.out A cB HA1.out HC1.out).mono ?_
  rintro e w2 ⟨rfl, rfl⟩
  go_wp2_with fail
  refine (line_at 32 A (HS1.out.alloc _) hks hn (pRecv F _) (fun w' _ hk => new_kept HS1.out.size hk 0)).mono ?_
  rintro e w3 ⟨rfl, s3, hb3⟩
  go_wp2
  go_end0
  exact ⟨rfl, s3, HB1.out.trans (((Below.refl _ _).alloc (by have := HS1.out.size; omega) _).trans hb3)⟩

theorem stmt_time (s : St F.told h n st .nilIface 1 ret cont left nums w) (hn : n ≤ 1000000) (A : Nat) :
    Calls Ybaf.prog 7 #[.pointer (some ⟨h + 8, 0, none⟩), .iface 47 (.pointer (some ⟨A, 0, none⟩))] w fun e w' => e = .returned (.tuple #[]) ∧ St F.told h (n + 1) st .nilIface 1 ret cont left nums w' ∧ Below (h + 3) w w' := by
  have a43 := ta47_43
  have a32 := ta47_32
  have a47 := ta47_47
  have HS : Hid _ := s
  clear s
  go_enter Ybaf.func7, Ybaf.ntmps7
  go_wp2_with fail
  refine (op_timeout HS.out A).mono ?_
  rintro e w2 ⟨rfl, rfl⟩
  go_wp2_with fail
  refine (line_nil (HS.out.alloc _) hn (pTime F _) (new_cell _ _ _ 0)).mono ?_
  rintro e w3 ⟨rfl, s3, hb3⟩
  go_wp2
  go_end0
  exact ⟨rfl, s3, ((Below.refl _ _).alloc (by have := HS.out.size; omega) _).trans hb3⟩

theorem stmt_close (s : St F.told h n st .nilIface 1 ret cont left nums w) (hn : n ≤ 1000000) (hks : Keys st n) (A : Nat) (hA : w.cell? ⟨A, 0, none⟩ = some (ptr cB)) :
    Calls Ybaf.prog 7 #[.pointer (some ⟨h + 8, 0, none⟩), .iface 50 (.pointer (some ⟨A, 0, none⟩))] w fun e w' => e = .returned (.tuple #[]) ∧ St F.told h (n + 1) (st ++ [(.int .i64 n, stm 50 A)]) .nilIface 1 ret cont left nums w' ∧ Below (h + 3) w w' := by
  have a43 := ta50_43
  have a32 := ta50_32
  have a47 := ta50_47
  have a70 := ta50_70
  have a50 := ta50_50
  have HS : Hid _ := s
  clear s
  go_enter Ybaf.func7, Ybaf.ntmps7
  go_wp2_with fail
  refine (flag_any HS.out cB).mono ?_
  rintro e w2 ⟨rfl, rfl⟩
  go_wp2_with fail
  refine (at_any HS.out _ ⟨50, A, rfl⟩).mono ?_
  rintro e w1 ⟨rfl, s1, hb1⟩
  have HS1 : Hid _ := s1
  have HB1 : Hid _ := hb1
  clear s1 hb1 hA
  go_wp2_with fail
  refine (line_at 50 A (HS1.out.alloc _) hks hn (pClose F _) (fun w' _ hk => ⟨new_kept HS1.out.size hk 0, new_kept HS1.out.size hk 1⟩)).mono ?_
  rintro e w3 ⟨rfl, s3, hb3⟩
  go_wp2
  go_end0
  exact ⟨rfl, s3, HB1.out.trans (((Below.refl _ _).alloc (by have := HS1.out.size; omega) _).trans hb3)⟩

theorem stmt_call (s : St F.told h n st .nilIface 1 ret cont left nums w) (hkl : LeftOk tB left) (A : Nat) (hA : w.cell? ⟨A, 1, none⟩ = some (.slice none 0 0)) :
    Calls Ybaf.prog 7 #[.pointer (some ⟨h + 8, 0, none⟩), .iface 57 (.pointer (some ⟨A, 0, none⟩))] w fun e w' => e = .returned (.tuple #[]) ∧ w' = w := by
  have a43 := ta57_43
  have a32 := ta57_32
  have a47 := ta57_47
  have a70 := ta57_70
  have a50 := ta57_50
  have a100 := ta57_100
  have a57 := ta57_57
  have HS : Hid _ := s
  clear s
  go_enter Ybaf.func7, Ybaf.ntmps7
  go_wp2_with fail
  refine (stmts_nil HS.out).mono ?_
  rintro e w2 ⟨rfl, rfl⟩
  go_wp2_with fail
  refine (exit_any HS.out 57 A (.inl rfl) hkl).mono ?_
  rintro e w2 ⟨rfl, rfl⟩
  go_wp2
  go_end0
  exact ⟨rfl, rfl⟩

theorem stmt_ret (s : St F.told h n st .nilIface 1 ret cont left nums w) (hn : n ≤ 1000000) (A : Nat) (hA : w.cell? ⟨A, 0, none⟩ = some (.pointer none)) :
    Calls Ybaf.prog 7 #[.pointer (some ⟨h + 8, 0, none⟩), .iface 56 (.pointer (some ⟨A, 0, none⟩))] w fun e w' => e = .returned (.tuple #[]) ∧ St F.told h (n + 1) st .nilIface 1 true cont left nums w' ∧ Below (h + 3) w w' := by
  have a43 := ta56_43
  have a32 := ta56_32
  have a47 := ta56_47
  have a70 := ta56_70
  have a50 := ta56_50
  have a100 := ta56_100
  have a57 := ta56_57
  have a36 := ta56_36
  have a65 := ta56_65
  have a30 := ta56_30
  have a60 := ta56_60
  have a53 := ta56_53
  have a56 := ta56_56
  obtain ⟨v, xs, hc, ho⟩ := s.cells
  have h1 := hc.c11
  have h2 := hc.fz
  have HS : Hid _ := s.setRet true
  clear s hc ho
  go_enter Ybaf.func7, Ybaf.ntmps7
  go_wp2_with fail
  refine (line_nil HS.out hn (pRet F) trivial).mono ?_
  rintro e w3 ⟨rfl, s3, hb3⟩
  go_wp2
  go_end0
  exact ⟨rfl, s3, ((Below.refl _ _).setCell (p := ⟨h + 8, 11, none⟩) (by show h + 3 ≤ h + 8; omega) _).trans hb3⟩
end
end Go.Proofs.YbulkwawFmt
