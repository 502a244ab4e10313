/- The formats of this program, told; the walks of 'leave', 'exit', 'free', 'option'. -/
import Derived.Test.YbulkwawFmtNum
namespace Go.Proofs.YbulkwawFmt
open Go.RowKit Go.Extern.Stop Go.Stop Go.Extern
set_option linter.unusedVariables false
set_option maxRecDepth 100000
set_option maxHeartbeats 1000000

theorem pIf (F : Interp) : Prints F.told ⟨#[105, 102]⟩ (.slice none 0 0) (fun _ => True) := prints0 F ⟨#[105, 102]⟩ (by kernel_rfl) [105, 102] (by kernel_rfl) (by decide)
theorem pFi (F : Interp) : Prints F.told ⟨#[102, 105, 59]⟩ (.slice none 0 0) (fun _ => True) := prints0 F ⟨#[102, 105, 59]⟩ (by kernel_rfl) [102, 105, 59] (by kernel_rfl) (by decide)
theorem pSkip (F : Interp) : Prints F.told ⟨#[58, 58, 32, 115, 107, 105, 112, 59]⟩ (.slice none 0 0) (fun _ => True) := prints0 F ⟨#[58, 58, 32, 115, 107, 105, 112, 59]⟩ (by kernel_rfl) [58, 58, 32, 115, 107, 105, 112, 59] (by kernel_rfl) (by decide)
theorem pRet (F : Interp) : Prints F.told ⟨#[103, 111, 116, 111, 32, 114, 101, 116, 59]⟩ (.slice none 0 0) (fun _ => True) := prints0 F ⟨#[103, 111, 116, 111, 32, 114, 101, 116, 59]⟩ (by kernel_rfl) [103, 111, 116, 111, 32, 114, 101, 116, 59] (by kernel_rfl) (by decide)
theorem pSend (F : Interp) (ob : Nat) : Prints F.told ⟨#[37, 115, 59]⟩ (.slice (some ⟨ob, 0, none⟩) 1 1) (fun w => w.cell? ⟨ob, 0, none⟩ = some (.iface 9 (.string ⟨#[33, 48]⟩))) := prints1s F ⟨#[37, 115, 59]⟩ ⟨#[33, 48]⟩ ob (by kernel_rfl) [33, 48, 59] (by kernel_rfl) (by decide)
theorem pRecv (F : Interp) (ob : Nat) : Prints F.told ⟨#[37, 115, 59]⟩ (.slice (some ⟨ob, 0, none⟩) 1 1) (fun w => w.cell? ⟨ob, 0, none⟩ = some (.iface 9 (.string ⟨#[63, 95]⟩))) := prints1s F ⟨#[37, 115, 59]⟩ ⟨#[63, 95]⟩ ob (by kernel_rfl) [63, 95, 59] (by kernel_rfl) (by decide)
theorem pTime (F : Interp) (ob : Nat) : Prints F.told ⟨#[37, 115, 59]⟩ (.slice (some ⟨ob, 0, none⟩) 1 1) (fun w => w.cell? ⟨ob, 0, none⟩ = some (.iface 9 (.string ⟨#[115, 107, 105, 112]⟩))) := prints1s F ⟨#[37, 115, 59]⟩ ⟨#[115, 107, 105, 112]⟩ ob (by kernel_rfl) [115, 107, 105, 112, 59] (by kernel_rfl) (by decide)
theorem pGoto1 (F : Interp) (ob : Nat) : Prints F.told ⟨#[103, 111, 116, 111, 32, 37, 115, 59]⟩ (.slice (some ⟨ob, 0, none⟩) 1 1) (fun w => w.cell? ⟨ob, 0, none⟩ = some (.iface 9 (.string ⟨#[98, 114, 107, 95, 49]⟩))) := prints1s F ⟨#[103, 111, 116, 111, 32, 37, 115, 59]⟩ ⟨#[98, 114, 107, 95, 49]⟩ ob (by kernel_rfl) [103, 111, 116, 111, 32, 98, 114, 107, 95, 49, 59] (by kernel_rfl) (by decide)
theorem pGoto2 (F : Interp) (ob : Nat) : Prints F.told ⟨#[103, 111, 116, 111, 32, 37, 115, 59]⟩ (.slice (some ⟨ob, 0, none⟩) 1 1) (fun w => w.cell? ⟨ob, 0, none⟩ = some (.iface 9 (.string ⟨#[98, 114, 107, 95, 50]⟩))) := prints1s F ⟨#[103, 111, 116, 111, 32, 37, 115, 59]⟩ ⟨#[98, 114, 107, 95, 50]⟩ ob (by kernel_rfl) [103, 111, 116, 111, 32, 98, 114, 107, 95, 50, 59] (by kernel_rfl) (by decide)
theorem pClose (F : Interp) (ob : Nat) : Prints F.told ⟨#[97, 116, 111, 109, 105, 99, 32, 123, 32, 97, 115, 115, 101, 114, 116, 40, 108, 101, 110, 40, 37, 115, 41, 32, 61, 61, 32, 48, 41, 59, 32, 37, 115, 33, 48, 32, 125, 59]⟩ (.slice (some ⟨ob, 0, none⟩) 2 2) (fun w => w.cell? ⟨ob, 0, none⟩ = some (.iface 9 (.string ⟨#[99, 108, 95]⟩)) ∧ w.cell? ⟨ob, 1, none⟩ = some (.iface 9 (.string ⟨#[99, 108, 95]⟩))) := prints2s F ⟨#[97, 116, 111, 109, 105, 99, 32, 123, 32, 97, 115, 115, 101, 114, 116, 40, 108, 101, 110, 40, 37, 115, 41, 32, 61, 61, 32, 48, 41, 59, 32, 37, 115, 33, 48, 32, 125, 59]⟩ ⟨#[99, 108, 95]⟩ ob (by kernel_rfl) [97, 116, 111, 109, 105, 99, 32, 123, 32, 97, 115, 115, 101, 114, 116, 40, 108, 101, 110, 40, 99, 108, 95, 41, 32, 61, 61, 32, 48, 41, 59, 32, 99, 108, 95, 33, 48, 32, 125, 59] (by kernel_rfl) (by decide)
theorem pRearm (F : Interp) (ob : Nat) : Prints F.told ⟨#[100, 95, 115, 116, 101, 112, 32, 123, 32, 105, 102, 32, 58, 58, 32, 108, 101, 110, 40, 37, 115, 41, 32, 61, 61, 32, 48, 32, 45, 62, 32, 37, 115, 33, 48, 32, 58, 58, 32, 101, 108, 115, 101, 32, 45, 62, 32, 115, 107, 105, 112, 32, 102, 105, 32, 125, 59]⟩ (.slice (some ⟨ob, 0, none⟩) 2 2) (fun w => w.cell? ⟨ob, 0, none⟩ = some (.iface 9 (.string ⟨#[]⟩)) ∧ w.cell? ⟨ob, 1, none⟩ = some (.iface 9 (.string ⟨#[]⟩))) := prints2s F ⟨#[100, 95, 115, 116, 101, 112, 32, 123, 32, 105, 102, 32, 58, 58, 32, 108, 101, 110, 40, 37, 115, 41, 32, 61, 61, 32, 48, 32, 45, 62, 32, 37, 115, 33, 48, 32, 58, 58, 32, 101, 108, 115, 101, 32, 45, 62, 32, 115, 107, 105, 112, 32, 102, 105, 32, 125, 59]⟩ ⟨#[]⟩ ob (by kernel_rfl) [100, 95, 115, 116, 101, 112, 32, 123, 32, 105, 102, 32, 58, 58, 32, 108, 101, 110, 40, 41, 32, 61, 61, 32, 48, 32, 45, 62, 32, 33, 48, 32, 58, 58, 32, 101, 108, 115, 101, 32, 45, 62, 32, 115, 107, 105, 112, 32, 102, 105, 32, 125, 59] (by kernel_rfl) (by decide)
theorem pNext1 (F : Interp) (ob : Nat) : Prints F.told ⟨#[103, 111, 116, 111, 32, 110, 101, 120, 116, 95, 37, 100, 59]⟩ (.slice (some ⟨ob, 0, none⟩) 1 1) (fun w => w.cell? ⟨ob, 0, none⟩ = some (.iface 3 (.int .i64 1))) := prints1d F ⟨#[103, 111, 116, 111, 32, 110, 101, 120, 116, 95, 37, 100, 59]⟩ 1 ob (by kernel_rfl) [103, 111, 116, 111, 32, 110, 101, 120, 116, 95, 49, 59] (by kernel_rfl) (by decide)
theorem pNext2 (F : Interp) (ob : Nat) : Prints F.told ⟨#[103, 111, 116, 111, 32, 110, 101, 120, 116, 95, 37, 100, 59]⟩ (.slice (some ⟨ob, 0, none⟩) 1 1) (fun w => w.cell? ⟨ob, 0, none⟩ = some (.iface 3 (.int .i64 2))) := prints1d F ⟨#[103, 111, 116, 111, 32, 110, 101, 120, 116, 95, 37, 100, 59]⟩ 2 ob (by kernel_rfl) [103, 111, 116, 111, 32, 110, 101, 120, 116, 95, 50, 59] (by kernel_rfl) (by decide)

section
variable {F : Interp} {h n : Nat} {st : Prs} {sn : Value} {ind : Int} {ret : Bool} {cont left nums : Prs} {w : World}

def LeftOk (tB : Nat) (left : Prs) : Prop := left = [] ∨ left = [(stm 36 tB, .bool true)]
theorem LeftOk.keys {lB tB : Nat} {left : Prs} (hk : LeftOk tB left) : KeysT lB tB left := by
  intro p hp
  rcases hk with rfl | rfl <;> simp at hp
  exact .inr (by rw [hp])

theorem stmts_nil (s : St F h n st sn ind ret cont left nums w) : Calls Ybaf.prog 6 #[.pointer (some ⟨h + 8, 0, none⟩), .slice none 0 0] w fun e w' => e = .returned (.tuple #[]) ∧ w' = w := by
  clear s
  go_enter Ybaf.func6, Ybaf.ntmps6
  go_wp2
  refine wp_loop_rounds 1 ?_
  rw [rounds_succ]
  go_wp2
  go_end0
  exact ⟨rfl, rfl⟩

theorem waiter_nil (s : St F h n st sn ind ret cont left nums w) (q : Bool) : Calls Ybaf.prog 31 #[.pointer (some ⟨h + 8, 0, none⟩), .slice none 0 0, .bool q] w fun e w' => e = .returned .nilIface ∧ w' = w := by
  clear s
  go_enter Ybaf.func31, Ybaf.ntmps31
  go_wp2
  go_ret
  exact ⟨rfl, rfl⟩

theorem free_nil (s : St F h n st sn ind ret cont left nums w) : Calls Ybaf.prog 17 #[.pointer (some ⟨h + 8, 0, none⟩), .slice none 0 0] w fun e w' => e = .returned (.string ⟨#[]⟩) ∧ w' = w := by
  obtain ⟨v, xs, hc, ho⟩ := s.cells
  have h1 := hc.c7
  have HS : Hid _ := s
  clear s hc ho
  go_enter Ybaf.func17, Ybaf.ntmps17
  go_wp2_with fail
  refine (waiter_nil HS.out _).mono ?_
  rintro e w1 ⟨rfl, rfl⟩
  go_wp2
  go_ret
  exact ⟨rfl, rfl⟩

theorem exit_any {tB : Nat} (s : St F h n st sn ind ret cont left nums w) (T A : Nat) (hT : T = 57 ∨ T = 65) (hk : LeftOk tB left) :
    Calls Ybaf.prog 14 #[.pointer (some ⟨h + 8, 0, none⟩), .iface T (.pointer (some ⟨A, 0, none⟩))] w fun e w' => e = .returned (.tuple #[]) ∧ w' = w := by
  obtain ⟨v, xs, hc, ho⟩ := s.cells
  have h1 := hc.c10
  have h2 : (Instr.lookup 84 (.map (some (h + 5))) (.iface T (.pointer (some ⟨A, 0, none⟩))) false).run Ybaf.prog w = .ok (.bool false) w := by
    have := look_run s.lef Ybaf.underlying84 (asks_stm 0 tB T A (by omega) left hk.keys) (zero4 w) false
    have hf : find (eqT T) left 0 = none := find_none left 0 (fun p hp => by
      rcases hk with rfl | rfl
      · cases hp
      · simp at hp; rw [hp]; rcases hT with rfl | rfl <;> rfl)
    rw [hf] at this
    exact this
  clear s hc ho
  go_enter Ybaf.func14, Ybaf.ntmps14
  go_wp2
  go_end0
  exact ⟨rfl, rfl⟩

theorem option_nil (s : St F.told h n st .nilIface 1 ret cont left nums w) (hn : n ≤ 1000000) :
    Calls Ybaf.prog 16 #[.pointer (some ⟨h + 8, 0, none⟩), .string ⟨#[]⟩, .slice none 0 0] w fun e w' => e = .returned (.tuple #[]) ∧ St F.told h (n + 1) st .nilIface 1 ret cont left nums w' ∧ Below (h + 3) w w' := by
  have HS : Hid _ := s
  clear s
  go_enter Ybaf.func16, Ybaf.ntmps16
  go_wp2_with fail
  refine (line_nil HS.out hn (pSkip F) trivial).mono ?_
  rintro e w1 ⟨rfl, s1, hb1⟩
  obtain ⟨v, xs, hc, ho⟩ := s1.cells
  have h1 := hc.c6
  have h2 := hc.fz
  have HS2 : Hid _ := s1.setInd 2
  have HB2 : Hid _ := hb1.setCell (p := ⟨h + 8, 6, none⟩) (by show h + 3 ≤ h + 8; omega) (.int .i64 2)
  clear s1 hb1 hc ho
  go_wp2_with fail
  refine (stmts_nil HS2.out).mono ?_
  rintro e w2 ⟨rfl, hw2⟩
  subst hw2
  obtain ⟨v, xs, hc, ho⟩ := HS2.out.cells
  have h3 := hc.c6
  have h4 := hc.fz
  clear hc ho
  go_wp2
  go_end0
  exact ⟨rfl, HS2.out.setInd 1, HB2.out.setCell (p := ⟨h + 8, 6, none⟩) (by show h + 3 ≤ h + 8; omega) _⟩
end
end Go.Proofs.YbulkwawFmt
