/- The walk of 'stmt' at 'Rearm', 'Break', 'Continue', 'Choice'. -/
import Derived.Test.YbulkwawFmtStmt
namespace Go.Proofs.YbulkwawFmt
open Go.RowKit Go.Extern.Stop Go.Stop Go.Extern
set_option linter.unusedVariables false
set_option maxRecDepth 100000
set_option maxHeartbeats 1000000
section
variable {F : Interp} {h n : Nat} {st : Prs} {sn : Value} {ind : Int} {ret : Bool} {cont left nums : Prs} {w : World} {cB lB tB : Nat}

def ContOk (lB : Nat) (cont : Prs) : Prop := cont = [] ∨ cont = [(ptr lB, .bool true)]
theorem upd_cont (s : St F h n st sn ind ret cont left nums w) (hk : ContOk lB cont) :
    ∃ w', (Instr.mapUpdate 83 (.map (some (h + 4))) (.pointer (some ⟨lB, 0, none⟩)) (.bool true)).run Ybaf.prog w = .ok () w' ∧ Mp w' (h + 4) [(ptr lB, .bool true)] ∧ w.mapTurned w' (h + 4) := by
  rcases hk with rfl | rfl
  · exact upd_new s.con Ybaf.underlying83 (asks_loop lB [] (fun p hp => by cases hp)) rfl
  · exact upd_same s.con Ybaf.underlying83 (asks_loop lB _ (fun p hp => by simp at hp; rw [hp])) rfl (by simp [Instr.sameBits])

theorem stmt_rearm (s : St F.told h n st .nilIface 1 ret cont left nums w) (hn : n ≤ 1000000) (A : Nat) (hA : w.cell? ⟨A, 0, none⟩ = some (ptr cB)) :
    Calls Ybaf.prog 7 #[.pointer (some ⟨h + 8, 0, none⟩), .iface 70 (.pointer (some ⟨A, 0, none⟩))] w fun e w' => e = .returned (.tuple #[]) ∧ St F.told h (n + 1) st .nilIface 1 ret cont left nums w' ∧ Below (h + 3) w w' := by
  have a43 := ta70_43
  have a32 := ta70_32
  have a47 := ta70_47
  have a70 := ta70_70
  obtain ⟨v, xs, hc, ho⟩ := s.cells
  have h1 := hc.c0
  have h2 := hc.n1
  have h3 := look_name (w := w.drew) s.drew.names cB
  have HS : Hid _ := s.drew
  clear s hc ho
  go_enter Ybaf.func7, Ybaf.ntmps7
  go_wp2_with fail
  go_region
  go_wp2_with fail
  refine (line_nil (HS.out.alloc _) hn (pRearm F _) ⟨new_cell _ _ _ 0, new_cell _ _ _ 1⟩).mono ?_
  rintro e w3 ⟨rfl, s3, hb3⟩
  go_wp2
  go_end0
  exact ⟨rfl, s3, ((Below.refl _ _).drew.alloc (by have := HS.out.size; exact Nat.le_trans (by omega) this) _).trans hb3⟩

theorem stmt_cont (s : St F.told h n st .nilIface 1 ret cont left nums w) (hn : n ≤ 1000000) (hkc : ContOk lB cont) (hkn : NumsOk lB tB nums) (A : Nat) (hA : w.cell? ⟨A, 0, none⟩ = some (ptr lB)) (hlt : A < h + 3) :
    Calls Ybaf.prog 7 #[.pointer (some ⟨h + 8, 0, none⟩), .iface 53 (.pointer (some ⟨A, 0, none⟩))] w fun e w' => e = .returned (.tuple #[]) ∧ St F.told h (n + 1) st .nilIface 1 ret [(ptr lB, .bool true)] left (addNum 30 lB nums) w' ∧ Below (h + 3) w w' ∧ NumsOk lB tB (addNum 30 lB nums) := by
  have a43 := ta53_43
  have a32 := ta53_32
  have a47 := ta53_47
  have a70 := ta53_70
  have a50 := ta53_50
  have a100 := ta53_100
  have a57 := ta53_57
  have a36 := ta53_36
  have a65 := ta53_65
  have a30 := ta53_30
  have a60 := ta53_60
  have a53 := ta53_53
  obtain ⟨v, xs, hc, ho⟩ := s.cells
  have h1 := hc.c9
  obtain ⟨w1, hup, hm1, ht1⟩ := upd_cont (w := w.drew) s.drew hkc
  have HS1 : Hid _ := s.drew.turnCon ht1 hm1
  have HB1 : Hid _ := (Below.refl (h + 3) w).drew.trans (turned_below ht1 (B := h + 3) (by omega))
  have h2 : w1.cell? ⟨A, 0, none⟩ = some (ptr lB) := (HB1.out.cell (p := ⟨A, 0, none⟩) hlt).trans hA
  clear s hc ho hm1 ht1
  go_enter Ybaf.func7, Ybaf.ntmps7
  go_wp2_with fail
  go_region
  go_wp2_with fail
  refine (number_any HS1.out 30 lB (.inl ⟨rfl, rfl⟩) hkn).mono ?_
  rintro e w2 ⟨rfl | rfl, s2, hb2, hk2⟩
  · have HS2 : Hid _ := s2
    have HB2 : Hid _ := hb2
    clear s2 hb2
    go_wp2_with fail
    refine (line_nil (HS2.out.alloc _) hn (pNext1 F w2.heap.size) (new_cell w2 _ _ 0)).mono ?_
    rintro e w3 ⟨rfl, s3, hb3⟩
    go_wp2
    go_end0
    exact ⟨rfl, s3, (HB1.out.trans HB2.out).trans (((Below.refl _ _).alloc (by have := HS2.out.size; omega) _).trans hb3), hk2⟩
  · have HS2 : Hid _ := s2
    have HB2 : Hid _ := hb2
    clear s2 hb2
    go_wp2_with fail
    refine (line_nil (HS2.out.alloc _) hn (pNext2 F w2.heap.size) (new_cell w2 _ _ 0)).mono ?_
    rintro e w3 ⟨rfl, s3, hb3⟩
    go_wp2
    go_end0
    exact ⟨rfl, s3, (HB1.out.trans HB2.out).trans (((Below.refl _ _).alloc (by have := HS2.out.size; omega) _).trans hb3), hk2⟩

theorem stmt_break (s : St F.told h n st .nilIface 1 ret cont left nums w) (hn : n ≤ 1000000) (hkl : LeftOk tB left) (hkn : NumsOk lB tB nums) (A : Nat) (hA : w.cell? ⟨A, 0, none⟩ = some (stm 36 tB)) :
    Calls Ybaf.prog 7 #[.pointer (some ⟨h + 8, 0, none⟩), .iface 60 (.pointer (some ⟨A, 0, none⟩))] w fun e w' => e = .returned (.tuple #[]) ∧ St F.told h (n + 1) st .nilIface 1 ret cont [(stm 36 tB, .bool true)] (addNum 36 tB nums) w' ∧ Below (h + 3) w w' ∧ NumsOk lB tB (addNum 36 tB nums) := by
  have a43 := ta60_43
  have a32 := ta60_32
  have a47 := ta60_47
  have a70 := ta60_70
  have a50 := ta60_50
  have a100 := ta60_100
  have a57 := ta60_57
  have a36 := ta60_36
  have a65 := ta60_65
  have a30 := ta60_30
  have a60 := ta60_60
  obtain ⟨v, xs, hc, ho⟩ := s.cells
  have h1 := hc.c7
  have HS : Hid _ := s.drew
  clear s hc ho
  go_enter Ybaf.func7, Ybaf.ntmps7
  go_wp2_with fail
  go_region
  go_wp2_with fail
  refine (leave_any HS.out hn hkl hkn).mono ?_
  rintro e w3 ⟨rfl, s3, hb3, hk3⟩
  go_wp2
  go_end0
  exact ⟨rfl, s3, (Below.refl _ _).drew.trans hb3, hk3⟩

theorem stmt_choice (s : St F.told h n st .nilIface 1 ret cont left nums w) (hn : n ≤ 900000) (hkl : LeftOk tB left) (A Bk : Nat) (hA0 : w.cell? ⟨A, 0, none⟩ = some (.slice (some ⟨Bk, 0, none⟩) 2 2)) (hA1 : w.cell? ⟨A, 1, none⟩ = some (.pointer none)) (hb0 : w.cell? ⟨Bk, 0, none⟩ = some (.slice none 0 0)) (hb1 : w.cell? ⟨Bk, 1, none⟩ = some (.slice none 0 0)) (hlt : A < h + 3 ∧ Bk < h + 3) :
    Calls Ybaf.prog 7 #[.pointer (some ⟨h + 8, 0, none⟩), .iface 65 (.pointer (some ⟨A, 0, none⟩))] w fun e w' => e = .returned (.tuple #[]) ∧ St F.told h (n + 4) st .nilIface 1 ret cont left nums w' ∧ Below (h + 3) w w' := by
  have a43 := ta65_43
  have a32 := ta65_32
  have a47 := ta65_47
  have a70 := ta65_70
  have a50 := ta65_50
  have a100 := ta65_100
  have a57 := ta65_57
  have a36 := ta65_36
  have a65 := ta65_65
  have HS : Hid _ := s
  clear s
  go_enter Ybaf.func7, Ybaf.ntmps7
  go_wp2_with fail
  refine (line_nil HS.out (by omega) (pIf F) trivial).mono ?_
  rintro e w1 ⟨rfl, s1, hb1'⟩
  have HS1 : Hid _ := s1
  have HB1 : Hid _ := hb1'
  have c0 : w1.cell? ⟨A, 0, none⟩ = some (.slice (some ⟨Bk, 0, none⟩) 2 2) := (hb1'.cell (p := ⟨A, 0, none⟩) hlt.1).trans hA0
  have c1 : w1.cell? ⟨A, 1, none⟩ = some (.pointer none) := (hb1'.cell (p := ⟨A, 1, none⟩) hlt.1).trans hA1
  have c2 : w1.cell? ⟨Bk, 0, none⟩ = some (.slice none 0 0) := (hb1'.cell (p := ⟨Bk, 0, none⟩) hlt.2).trans hb0
  clear s1 hb1'
  go_wp2_with fail
  refine wp_loop_rounds 3 ?_
  rw [rounds_succ]
  go_wp2_with fail
  refine (free_nil HS1.out).mono ?_
  rintro e wq ⟨rfl, rfl⟩
  go_wp2_with fail
  refine (option_nil HS1.out (by omega)).mono ?_
  rintro e w2 ⟨rfl, s2, hb2⟩
  have HS2 : Hid _ := s2
  have HB2 : Hid _ := HB1.out.trans hb2
  clear s2 hb2
  have c3 : w2.cell? ⟨Bk, 1, none⟩ = some (.slice none 0 0) := (HB2.out.cell (p := ⟨Bk, 1, none⟩) hlt.2).trans hb1
  go_wp2_with fail
  rw [rounds_succ]
  go_wp2_with fail
  refine (free_nil HS2.out).mono ?_
  rintro e wq ⟨rfl, rfl⟩
  go_wp2_with fail
  refine (option_nil HS2.out (by omega)).mono ?_
  rintro e w3 ⟨rfl, s3, hb3⟩
  have HS3 : Hid _ := s3
  have HB3 : Hid _ := HB2.out.trans hb3
  clear s3 hb3
  go_wp2_with fail
  rw [rounds_succ]
  go_wp2_with fail
  refine (line_nil HS3.out (by omega) (pFi F) trivial).mono ?_
  rintro e w4 ⟨rfl, s4, hb4⟩
  have HS4 : Hid _ := s4
  have HB4 : Hid _ := HB3.out.trans hb4
  clear s4 hb4
  go_wp2_with fail
  refine (exit_any HS4.out 65 A (.inr rfl) hkl).mono ?_
  rintro e w5 ⟨rfl, rfl⟩
  go_wp2
  go_end0
  exact ⟨rfl, HS4.out, HB4.out⟩
end
end Go.Proofs.YbulkwawFmt
