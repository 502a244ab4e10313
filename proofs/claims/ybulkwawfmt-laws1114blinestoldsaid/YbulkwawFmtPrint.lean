/- fmt.Sprintf at this program's formats, told; and the walks of the small functions that read. -/
import Derived.Test.YbulkwawFmtParts
import Derived.RegionTactic
import Derived.BigRegion
import Derived.Deep.RegionWith
import Derived.Stop.CallBack
import Derived.Stop.IfaceNil
import Derived.Stop.Told
import Derived.Stop.Texts
namespace Go.Proofs.YbulkwawFmt
open Go.RowKit Go.Extern.Stop Go.Stop Go.Extern
set_option linter.unusedVariables false
set_option maxRecDepth 100000
set_option maxHeartbeats 1000000

theorem call22 (args : Array Value) (w : World) : (callFunc 22 args).run Ybaf.prog w = (FmtCalls.sprintf #[9, 112] #[9] args).run Ybaf.prog w :=
  run_callFunc_next Ybaf.func22 (by kernel_rfl) (by kernel_rfl) (by kernel_rfl) args w
theorem fguard (name : String) (w : World) : (FmtStop.guard name).run Ybaf.prog w = .ok () w := by kernel_rfl
theorem nextTurns : Extern.next FmtCalls.turnsRow = some (FmtCalls.begun #[] #[]) := by kernel_rfl
def shape9 : List UInt8 := [12, 6, 0, 0, 0, 0, 0, 0, 0, 115, 116, 114, 105, 110, 103]
def shape3 : List UInt8 := [5, 3, 0, 0, 0, 0, 0, 0, 0, 105, 110, 116]
theorem op9 (name : String) (x : ByteArray) (w : World) : (FmtStop.operand name false 115 false (.iface 9 (.string x))).run Ybaf.prog w = .ok (shape9, FmtStop.pack x.data.toList) w := by kernel_rfl

theorem wpList_print {P : Program} {ops : Array Oper} {rest : List Oper} {o : Oper} {a : Act} {Q : Exit → Act → World → Prop} (w : World) (hg : o.guard = none) (x y : Operand) (ts : Array TypeId) (hop : o.op = Op.call { callee := .value (.func 22), args := #[x, y], argTypes := ts })
    (f : ByteArray) (s : Value) (hx : a.eval x = .string f) (hy : a.eval y = s) (sv : Array Value) (T : ByteArray) (h1 : (callFunc 22 #[.string f, s]).run P w = .ok (.row FmtCalls.turnsRow sv) w)
    (h2 : (FmtCalls.begun #[] #[] sv).run P w = .ok (.value (.string T)) w.drew)
    (hK : wpList P ops Q rest (a.put o.dst (.string T)) w.drew) : wpList P ops Q (o :: rest) a w := by
  refine wpList_plain hg fun K' hK' => ?_
  have e : (execOp a.eval o).run P w = (callFunc 22 #[a.eval x, a.eval y]).run P w := by simp [execOp, hop, go_sem]
  unfold Oper.wp
  rw [e, hx, hy, h1]
  exact rows_value nextTurns h2 (hK' _ _ hK)

/-- fmt.Sprintf, at this format and these operands, answers T: at every world in which 'ok' holds. -/
def Prints (F : Interp) (f : ByteArray) (s : Value) (ok : World → Prop) : Prop :=
  ∃ sv T, T.size ≤ 1000 ∧ (∀ w w' : World, w'.heap = w.heap → ok w → ok w') ∧ ∀ w, ok w → F.answers w.tape → (callFunc 22 #[.string f, s]).run Ybaf.prog w = .ok (.row FmtCalls.turnsRow sv) w ∧ (FmtCalls.begun #[] #[] sv).run Ybaf.prog w = .ok (.value (.string T)) w.drew

theorem told_size {F : Interp} {name : String} {reading : List (List UInt8)} {s : List UInt8} (h : FmtText.text name reading = some s) (hl : s.length ≤ 1000) : (FmtStop.textOf (F.told name reading 0)).size ≤ 1000 := by
  have h1 := Go.Kit.textOf_list F.told name reading
  rw [told_string F h (by omega)] at h1
  revert h1
  generalize FmtStop.textOf (F.told name reading 0) = x
  intro h1
  have h2 : x.data.size ≤ 1000 := by rw [← Array.length_toList, h1]; exact hl
  exact h2

theorem prints0 (F : Interp) (f : ByteArray) (hp : FmtStop.printed? f 0 = some []) (s : List UInt8) (ht : FmtText.text "fmt.Sprintf" [f.data.toList] = some s) (hl : s.length ≤ 1000) : Prints F.told f (.slice none 0 0) (fun _ => True) := by
  refine ⟨FmtCalls.save 0 0 (.slice none 0 0) f [] [], FmtStop.textOf (F.told "fmt.Sprintf" [f.data.toList] 0), told_size ht hl, fun _ _ _ _ => trivial, fun w _ hF => ⟨?_, ?_⟩⟩
  · have hF' := answers_open hF
    have f1 := call22
    have f2 := fguard
    rw [f1]
    go_simp
  · have hF' := answers_open hF
    go_simp

theorem op3 (name : String) (x : Int) (w : World) : (FmtStop.operand name false 100 false (.iface 3 (.int .i64 x))).run Ybaf.prog w = .ok (shape3, digits 8 (x % 18446744073709551616).toNat) w := by kernel_rfl
theorem act9 (name : String) (x : ByteArray) (w : World) : (FmtCalls.act name false 115 false (.iface 9 (.string x))).run Ybaf.prog w = .ok (.closed false) w := by kernel_rfl
theorem act3 (name : String) (x : Int) (w : World) : (FmtCalls.act name false 100 false (.iface 3 (.int .i64 x))).run Ybaf.prog w = .ok (.closed false) w := by kernel_rfl

theorem prints1s (F : Interp) (f x : ByteArray) (ob : Nat) (hp : FmtStop.printed? f 1 = some [(0, 115, false)]) (s : List UInt8) (ht : FmtText.text "fmt.Sprintf" [f.data.toList, shape9, FmtStop.pack x.data.toList] = some s) (hl : s.length ≤ 1000) :
    Prints F.told f (.slice (some ⟨ob, 0, none⟩) 1 1) (fun w => w.cell? ⟨ob, 0, none⟩ = some (.iface 9 (.string x))) := by
  refine ⟨FmtCalls.save 0 0 (.slice (some ⟨ob, 0, none⟩) 1 1) f [] [(0, 115, false)], FmtStop.textOf (F.told "fmt.Sprintf" [f.data.toList, shape9, FmtStop.pack x.data.toList] 0), told_size ht hl, fun w w' e h => by simpa only [World.cell?, e] using h, fun w hc hF => ⟨?_, ?_⟩⟩
  · have hF' := answers_open hF
    have f1 := call22
    have f2 := fguard
    rw [f1]
    go_simp
  · have hF' := answers_open hF
    have f5 := op9
    have f6 := act9
    go_simp
theorem prints2s (F : Interp) (f x : ByteArray) (ob : Nat) (hp : FmtStop.printed? f 2 = some [(0, 115, false), (1, 115, false)]) (s : List UInt8) (ht : FmtText.text "fmt.Sprintf" [f.data.toList, shape9, FmtStop.pack x.data.toList, shape9, FmtStop.pack x.data.toList] = some s) (hl : s.length ≤ 1000) :
    Prints F.told f (.slice (some ⟨ob, 0, none⟩) 2 2) (fun w => w.cell? ⟨ob, 0, none⟩ = some (.iface 9 (.string x)) ∧ w.cell? ⟨ob, 1, none⟩ = some (.iface 9 (.string x))) := by
  refine ⟨FmtCalls.save 0 0 (.slice (some ⟨ob, 0, none⟩) 2 2) f [] [(0, 115, false), (1, 115, false)], FmtStop.textOf (F.told "fmt.Sprintf" [f.data.toList, shape9, FmtStop.pack x.data.toList, shape9, FmtStop.pack x.data.toList] 0), told_size ht hl, fun w w' e h => by simpa only [World.cell?, e] using h, fun w hc hF => ⟨?_, ?_⟩⟩
  · have hF' := answers_open hF
    have f1 := call22
    have f2 := fguard
    rw [f1]
    go_simp
  · have hF' := answers_open hF
    obtain ⟨hc0, hc1⟩ := hc
    have f5 := op9
    have f6 := act9
    go_simp
theorem prints1d (F : Interp) (f : ByteArray) (x : Int) (ob : Nat) (hp : FmtStop.printed? f 1 = some [(0, 100, false)]) (s : List UInt8) (ht : FmtText.text "fmt.Sprintf" [f.data.toList, shape3, digits 8 (x % 18446744073709551616).toNat] = some s) (hl : s.length ≤ 1000) :
    Prints F.told f (.slice (some ⟨ob, 0, none⟩) 1 1) (fun w => w.cell? ⟨ob, 0, none⟩ = some (.iface 3 (.int .i64 x))) := by
  refine ⟨FmtCalls.save 0 0 (.slice (some ⟨ob, 0, none⟩) 1 1) f [] [(0, 100, false)], FmtStop.textOf (F.told "fmt.Sprintf" [f.data.toList, shape3, digits 8 (x % 18446744073709551616).toNat] 0), told_size ht hl, fun w w' e h => by simpa only [World.cell?, e] using h, fun w hc hF => ⟨?_, ?_⟩⟩
  · have hF' := answers_open hF
    have f1 := call22
    have f2 := fguard
    rw [f1]
    go_simp
  · have hF' := answers_open hF
    have f5 := op3
    have f6 := act3
    go_simp

theorem repeat_one (x : ByteArray) (w : World) : Calls Ybaf.prog 21 #[.string x, .int .i64 1] w fun e w' => e = .returned (.string x) ∧ w' = w := by
  go_enter Ybaf.func21, Ybaf.ntmps21
  go_wp2
  go_ret
  exact ⟨rfl, rfl⟩

theorem hasPrefix_no (w : World) : Calls Ybaf.prog 50 #[.string ⟨#[]⟩, .string ⟨#[99, 104, 95]⟩] w fun e w' => e = .returned (.bool false) ∧ w' = w := by
  go_enter Ybaf.func50, Ybaf.ntmps50
  go_wp2
  go_ret
  exact ⟨rfl, rfl⟩
theorem trim_lite (w : World) : Calls Ybaf.prog 39 #[.string ⟨#[]⟩, .string ⟨#[99, 104, 95]⟩] w fun e w' => e = .returned (.string ⟨#[]⟩) ∧ w' = w := by
  go_enter Ybaf.func39, Ybaf.ntmps39
  go_wp2_with fail
  refine (hasPrefix_no _).mono ?_
  rintro e w1 ⟨rfl, rfl⟩
  go_wp2
  go_ret
  exact ⟨rfl, rfl⟩
theorem trim_no (w : World) : Calls Ybaf.prog 25 #[.string ⟨#[]⟩, .string ⟨#[99, 104, 95]⟩] w fun e w' => e = .returned (.string ⟨#[]⟩) ∧ w' = w := by
  go_enter Ybaf.func25, Ybaf.ntmps25
  go_wp2_with fail
  refine (trim_lite _).mono ?_
  rintro e w1 ⟨rfl, rfl⟩
  go_wp2
  go_ret
  exact ⟨rfl, rfl⟩

/-! ### Type assertions -/
theorem ta43_32 (x : Value) (w : World) : (Instr.typeAssert (.iface 43 x) 42 32 true).run Ybaf.prog w = .ok (.tuple #[.pointer none, .bool false]) w := by kernel_rfl
theorem ta43_43 (x : Value) (w : World) : (Instr.typeAssert (.iface 43 x) 42 43 true).run Ybaf.prog w = .ok (.tuple #[x, .bool true]) w := by kernel_rfl
theorem ta43_47 (x : Value) (w : World) : (Instr.typeAssert (.iface 43 x) 42 47 true).run Ybaf.prog w = .ok (.tuple #[.pointer none, .bool false]) w := by kernel_rfl
theorem ta32_32 (x : Value) (w : World) : (Instr.typeAssert (.iface 32 x) 42 32 true).run Ybaf.prog w = .ok (.tuple #[x, .bool true]) w := by kernel_rfl
theorem ta32_43 (x : Value) (w : World) : (Instr.typeAssert (.iface 32 x) 42 43 true).run Ybaf.prog w = .ok (.tuple #[.pointer none, .bool false]) w := by kernel_rfl
theorem ta32_47 (x : Value) (w : World) : (Instr.typeAssert (.iface 32 x) 42 47 true).run Ybaf.prog w = .ok (.tuple #[.pointer none, .bool false]) w := by kernel_rfl
theorem ta47_32 (x : Value) (w : World) : (Instr.typeAssert (.iface 47 x) 42 32 true).run Ybaf.prog w = .ok (.tuple #[.pointer none, .bool false]) w := by kernel_rfl
theorem ta47_43 (x : Value) (w : World) : (Instr.typeAssert (.iface 47 x) 42 43 true).run Ybaf.prog w = .ok (.tuple #[.pointer none, .bool false]) w := by kernel_rfl
theorem ta47_47 (x : Value) (w : World) : (Instr.typeAssert (.iface 47 x) 42 47 true).run Ybaf.prog w = .ok (.tuple #[x, .bool true]) w := by kernel_rfl
theorem ta50_32 (x : Value) (w : World) : (Instr.typeAssert (.iface 50 x) 42 32 true).run Ybaf.prog w = .ok (.tuple #[.pointer none, .bool false]) w := by kernel_rfl
theorem ta50_43 (x : Value) (w : World) : (Instr.typeAssert (.iface 50 x) 42 43 true).run Ybaf.prog w = .ok (.tuple #[.pointer none, .bool false]) w := by kernel_rfl
theorem ta50_47 (x : Value) (w : World) : (Instr.typeAssert (.iface 50 x) 42 47 true).run Ybaf.prog w = .ok (.tuple #[.pointer none, .bool false]) w := by kernel_rfl
theorem ta50_50 (x : Value) (w : World) : (Instr.typeAssert (.iface 50 x) 42 50 true).run Ybaf.prog w = .ok (.tuple #[x, .bool true]) w := by kernel_rfl
theorem ta50_70 (x : Value) (w : World) : (Instr.typeAssert (.iface 50 x) 42 70 true).run Ybaf.prog w = .ok (.tuple #[.pointer none, .bool false]) w := by kernel_rfl
theorem ta53_30 (x : Value) (w : World) : (Instr.typeAssert (.iface 53 x) 42 30 true).run Ybaf.prog w = .ok (.tuple #[.pointer none, .bool false]) w := by kernel_rfl
theorem ta53_32 (x : Value) (w : World) : (Instr.typeAssert (.iface 53 x) 42 32 true).run Ybaf.prog w = .ok (.tuple #[.pointer none, .bool false]) w := by kernel_rfl
theorem ta53_36 (x : Value) (w : World) : (Instr.typeAssert (.iface 53 x) 42 36 true).run Ybaf.prog w = .ok (.tuple #[.pointer none, .bool false]) w := by kernel_rfl
theorem ta53_43 (x : Value) (w : World) : (Instr.typeAssert (.iface 53 x) 42 43 true).run Ybaf.prog w = .ok (.tuple #[.pointer none, .bool false]) w := by kernel_rfl
theorem ta53_47 (x : Value) (w : World) : (Instr.typeAssert (.iface 53 x) 42 47 true).run Ybaf.prog w = .ok (.tuple #[.pointer none, .bool false]) w := by kernel_rfl
theorem ta53_50 (x : Value) (w : World) : (Instr.typeAssert (.iface 53 x) 42 50 true).run Ybaf.prog w = .ok (.tuple #[.pointer none, .bool false]) w := by kernel_rfl
theorem ta53_53 (x : Value) (w : World) : (Instr.typeAssert (.iface 53 x) 42 53 true).run Ybaf.prog w = .ok (.tuple #[x, .bool true]) w := by kernel_rfl
theorem ta53_57 (x : Value) (w : World) : (Instr.typeAssert (.iface 53 x) 42 57 true).run Ybaf.prog w = .ok (.tuple #[.pointer none, .bool false]) w := by kernel_rfl
theorem ta53_60 (x : Value) (w : World) : (Instr.typeAssert (.iface 53 x) 42 60 true).run Ybaf.prog w = .ok (.tuple #[.pointer none, .bool false]) w := by kernel_rfl
theorem ta53_65 (x : Value) (w : World) : (Instr.typeAssert (.iface 53 x) 42 65 true).run Ybaf.prog w = .ok (.tuple #[.pointer none, .bool false]) w := by kernel_rfl
theorem ta53_70 (x : Value) (w : World) : (Instr.typeAssert (.iface 53 x) 42 70 true).run Ybaf.prog w = .ok (.tuple #[.pointer none, .bool false]) w := by kernel_rfl
theorem ta53_100 (x : Value) (w : World) : (Instr.typeAssert (.iface 53 x) 42 100 true).run Ybaf.prog w = .ok (.tuple #[.pointer none, .bool false]) w := by kernel_rfl
theorem ta56_30 (x : Value) (w : World) : (Instr.typeAssert (.iface 56 x) 42 30 true).run Ybaf.prog w = .ok (.tuple #[.pointer none, .bool false]) w := by kernel_rfl
theorem ta56_32 (x : Value) (w : World) : (Instr.typeAssert (.iface 56 x) 42 32 true).run Ybaf.prog w = .ok (.tuple #[.pointer none, .bool false]) w := by kernel_rfl
theorem ta56_36 (x : Value) (w : World) : (Instr.typeAssert (.iface 56 x) 42 36 true).run Ybaf.prog w = .ok (.tuple #[.pointer none, .bool false]) w := by kernel_rfl
theorem ta56_43 (x : Value) (w : World) : (Instr.typeAssert (.iface 56 x) 42 43 true).run Ybaf.prog w = .ok (.tuple #[.pointer none, .bool false]) w := by kernel_rfl
theorem ta56_47 (x : Value) (w : World) : (Instr.typeAssert (.iface 56 x) 42 47 true).run Ybaf.prog w = .ok (.tuple #[.pointer none, .bool false]) w := by kernel_rfl
theorem ta56_50 (x : Value) (w : World) : (Instr.typeAssert (.iface 56 x) 42 50 true).run Ybaf.prog w = .ok (.tuple #[.pointer none, .bool false]) w := by kernel_rfl
theorem ta56_53 (x : Value) (w : World) : (Instr.typeAssert (.iface 56 x) 42 53 true).run Ybaf.prog w = .ok (.tuple #[.pointer none, .bool false]) w := by kernel_rfl
theorem ta56_56 (x : Value) (w : World) : (Instr.typeAssert (.iface 56 x) 42 56 true).run Ybaf.prog w = .ok (.tuple #[x, .bool true]) w := by kernel_rfl
theorem ta56_57 (x : Value) (w : World) : (Instr.typeAssert (.iface 56 x) 42 57 true).run Ybaf.prog w = .ok (.tuple #[.pointer none, .bool false]) w := by kernel_rfl
theorem ta56_60 (x : Value) (w : World) : (Instr.typeAssert (.iface 56 x) 42 60 true).run Ybaf.prog w = .ok (.tuple #[.pointer none, .bool false]) w := by kernel_rfl
theorem ta56_65 (x : Value) (w : World) : (Instr.typeAssert (.iface 56 x) 42 65 true).run Ybaf.prog w = .ok (.tuple #[.pointer none, .bool false]) w := by kernel_rfl
theorem ta56_70 (x : Value) (w : World) : (Instr.typeAssert (.iface 56 x) 42 70 true).run Ybaf.prog w = .ok (.tuple #[.pointer none, .bool false]) w := by kernel_rfl
theorem ta56_100 (x : Value) (w : World) : (Instr.typeAssert (.iface 56 x) 42 100 true).run Ybaf.prog w = .ok (.tuple #[.pointer none, .bool false]) w := by kernel_rfl
theorem ta60_30 (x : Value) (w : World) : (Instr.typeAssert (.iface 60 x) 42 30 true).run Ybaf.prog w = .ok (.tuple #[.pointer none, .bool false]) w := by kernel_rfl
theorem ta60_32 (x : Value) (w : World) : (Instr.typeAssert (.iface 60 x) 42 32 true).run Ybaf.prog w = .ok (.tuple #[.pointer none, .bool false]) w := by kernel_rfl
theorem ta60_36 (x : Value) (w : World) : (Instr.typeAssert (.iface 60 x) 42 36 true).run Ybaf.prog w = .ok (.tuple #[.pointer none, .bool false]) w := by kernel_rfl
theorem ta60_43 (x : Value) (w : World) : (Instr.typeAssert (.iface 60 x) 42 43 true).run Ybaf.prog w = .ok (.tuple #[.pointer none, .bool false]) w := by kernel_rfl
theorem ta60_47 (x : Value) (w : World) : (Instr.typeAssert (.iface 60 x) 42 47 true).run Ybaf.prog w = .ok (.tuple #[.pointer none, .bool false]) w := by kernel_rfl
theorem ta60_50 (x : Value) (w : World) : (Instr.typeAssert (.iface 60 x) 42 50 true).run Ybaf.prog w = .ok (.tuple #[.pointer none, .bool false]) w := by kernel_rfl
theorem ta60_57 (x : Value) (w : World) : (Instr.typeAssert (.iface 60 x) 42 57 true).run Ybaf.prog w = .ok (.tuple #[.pointer none, .bool false]) w := by kernel_rfl
theorem ta60_60 (x : Value) (w : World) : (Instr.typeAssert (.iface 60 x) 42 60 true).run Ybaf.prog w = .ok (.tuple #[x, .bool true]) w := by kernel_rfl
theorem ta60_65 (x : Value) (w : World) : (Instr.typeAssert (.iface 60 x) 42 65 true).run Ybaf.prog w = .ok (.tuple #[.pointer none, .bool false]) w := by kernel_rfl
theorem ta60_70 (x : Value) (w : World) : (Instr.typeAssert (.iface 60 x) 42 70 true).run Ybaf.prog w = .ok (.tuple #[.pointer none, .bool false]) w := by kernel_rfl
theorem ta60_100 (x : Value) (w : World) : (Instr.typeAssert (.iface 60 x) 42 100 true).run Ybaf.prog w = .ok (.tuple #[.pointer none, .bool false]) w := by kernel_rfl
theorem ta57_32 (x : Value) (w : World) : (Instr.typeAssert (.iface 57 x) 42 32 true).run Ybaf.prog w = .ok (.tuple #[.pointer none, .bool false]) w := by kernel_rfl
theorem ta57_43 (x : Value) (w : World) : (Instr.typeAssert (.iface 57 x) 42 43 true).run Ybaf.prog w = .ok (.tuple #[.pointer none, .bool false]) w := by kernel_rfl
theorem ta57_47 (x : Value) (w : World) : (Instr.typeAssert (.iface 57 x) 42 47 true).run Ybaf.prog w = .ok (.tuple #[.pointer none, .bool false]) w := by kernel_rfl
theorem ta57_50 (x : Value) (w : World) : (Instr.typeAssert (.iface 57 x) 42 50 true).run Ybaf.prog w = .ok (.tuple #[.pointer none, .bool false]) w := by kernel_rfl
theorem ta57_57 (x : Value) (w : World) : (Instr.typeAssert (.iface 57 x) 42 57 true).run Ybaf.prog w = .ok (.tuple #[x, .bool true]) w := by kernel_rfl
theorem ta57_70 (x : Value) (w : World) : (Instr.typeAssert (.iface 57 x) 42 70 true).run Ybaf.prog w = .ok (.tuple #[.pointer none, .bool false]) w := by kernel_rfl
theorem ta57_100 (x : Value) (w : World) : (Instr.typeAssert (.iface 57 x) 42 100 true).run Ybaf.prog w = .ok (.tuple #[.pointer none, .bool false]) w := by kernel_rfl
theorem ta65_32 (x : Value) (w : World) : (Instr.typeAssert (.iface 65 x) 42 32 true).run Ybaf.prog w = .ok (.tuple #[.pointer none, .bool false]) w := by kernel_rfl
theorem ta65_36 (x : Value) (w : World) : (Instr.typeAssert (.iface 65 x) 42 36 true).run Ybaf.prog w = .ok (.tuple #[.pointer none, .bool false]) w := by kernel_rfl
theorem ta65_43 (x : Value) (w : World) : (Instr.typeAssert (.iface 65 x) 42 43 true).run Ybaf.prog w = .ok (.tuple #[.pointer none, .bool false]) w := by kernel_rfl
theorem ta65_47 (x : Value) (w : World) : (Instr.typeAssert (.iface 65 x) 42 47 true).run Ybaf.prog w = .ok (.tuple #[.pointer none, .bool false]) w := by kernel_rfl
theorem ta65_50 (x : Value) (w : World) : (Instr.typeAssert (.iface 65 x) 42 50 true).run Ybaf.prog w = .ok (.tuple #[.pointer none, .bool false]) w := by kernel_rfl
theorem ta65_57 (x : Value) (w : World) : (Instr.typeAssert (.iface 65 x) 42 57 true).run Ybaf.prog w = .ok (.tuple #[.pointer none, .bool false]) w := by kernel_rfl
theorem ta65_65 (x : Value) (w : World) : (Instr.typeAssert (.iface 65 x) 42 65 true).run Ybaf.prog w = .ok (.tuple #[x, .bool true]) w := by kernel_rfl
theorem ta65_70 (x : Value) (w : World) : (Instr.typeAssert (.iface 65 x) 42 70 true).run Ybaf.prog w = .ok (.tuple #[.pointer none, .bool false]) w := by kernel_rfl
theorem ta65_100 (x : Value) (w : World) : (Instr.typeAssert (.iface 65 x) 42 100 true).run Ybaf.prog w = .ok (.tuple #[.pointer none, .bool false]) w := by kernel_rfl
theorem ta70_32 (x : Value) (w : World) : (Instr.typeAssert (.iface 70 x) 42 32 true).run Ybaf.prog w = .ok (.tuple #[.pointer none, .bool false]) w := by kernel_rfl
theorem ta70_43 (x : Value) (w : World) : (Instr.typeAssert (.iface 70 x) 42 43 true).run Ybaf.prog w = .ok (.tuple #[.pointer none, .bool false]) w := by kernel_rfl
theorem ta70_47 (x : Value) (w : World) : (Instr.typeAssert (.iface 70 x) 42 47 true).run Ybaf.prog w = .ok (.tuple #[.pointer none, .bool false]) w := by kernel_rfl
theorem ta70_70 (x : Value) (w : World) : (Instr.typeAssert (.iface 70 x) 42 70 true).run Ybaf.prog w = .ok (.tuple #[x, .bool true]) w := by kernel_rfl
theorem ta32_32f (x : Value) (w : World) : (Instr.typeAssert (.iface 32 x) 42 32 false).run Ybaf.prog w = .ok x w := by kernel_rfl

section
variable {F : Interp} {h n : Nat} {st : Prs} {sn : Value} {ind : Int} {ret : Bool} {cont left nums : Prs} {w : World}

theorem asks_none (P : Program) (kt : TypeId) (key : Value) (kind : TypeDesc) (hk : P.underlying kt = some kind) (ck : ∀ w em, (Instr.checkKey em 10000 kt key).run P w = .ok () w) : Asks P kt key (fun _ => false) [] :=
  ⟨ck, fun _ p hp => (by cases hp), kind, hk, fun p hp => (by cases hp)⟩
theorem zero9 (w : World) : (zeroValue 9).run Ybaf.prog w = .ok (.string ⟨#[]⟩) w := by kernel_rfl
/-- No channel has a name. -/
theorem look_name (hm : Mp w h []) (cB : Nat) : (Instr.lookup 92 (.map (some h)) (.iface 23 (.pointer (some ⟨cB, 0, none⟩))) false).run Ybaf.prog w = .ok (.string ⟨#[]⟩) w :=
  look_run hm Ybaf.underlying92 (asks_none _ 20 _ _ Ybaf.underlying20 (ck20 cB)) (zero9 w) false

theorem flag_any (s : St F h n st sn ind ret cont left nums w) (cB : Nat) : Calls Ybaf.prog 11 #[.pointer (some ⟨h + 8, 0, none⟩), .pointer (some ⟨cB, 0, none⟩)] w fun e w' => e = .returned (.string ⟨#[99, 108, 95]⟩) ∧ w' = w := by
  obtain ⟨v, xs, hc, ho⟩ := s.cells
  have h1 := hc.c0
  have h2 := hc.n1
  have h3 := look_name s.names cB
  go_enter Ybaf.func11, Ybaf.ntmps11
  go_wp2_with fail
  refine (trim_no _).mono ?_
  rintro e w1 ⟨rfl, rfl⟩
  go_wp2
  go_ret
  exact ⟨rfl, rfl⟩

theorem receive_any (s : St F h n st sn ind ret cont left nums w) (cB : Nat) (hC : w.cell? ⟨cB, 4, none⟩ = some (.bool false)) : Calls Ybaf.prog 23 #[.pointer (some ⟨h + 8, 0, none⟩), .pointer (some ⟨cB, 0, none⟩)] w fun e w' => e = .returned (.string ⟨#[63, 95]⟩) ∧ w' = w := by
  obtain ⟨v, xs, hc, ho⟩ := s.cells
  have h1 := hc.c0
  have h2 := hc.n1
  have h3 := look_name s.names cB
  go_enter Ybaf.func23, Ybaf.ntmps23
  go_wp2
  go_ret
  exact ⟨rfl, rfl⟩

theorem op_timeout (s : St F h n st sn ind ret cont left nums w) (A : Nat) : Calls Ybaf.prog 10 #[.pointer (some ⟨h + 8, 0, none⟩), .iface 47 (.pointer (some ⟨A, 0, none⟩))] w fun e w' => e = .returned (.string ⟨#[115, 107, 105, 112]⟩) ∧ w' = w := by
  have a1 := ta47_47
  go_enter Ybaf.func10, Ybaf.ntmps10
  go_wp2
  go_ret
  exact ⟨rfl, rfl⟩
theorem op_send (s : St F h n st sn ind ret cont left nums w) (A cB : Nat) (hA : w.cell? ⟨A, 0, none⟩ = some (.pointer (some ⟨cB, 0, none⟩))) (hC : w.cell? ⟨cB, 4, none⟩ = some (.bool false)) :
    Calls Ybaf.prog 10 #[.pointer (some ⟨h + 8, 0, none⟩), .iface 43 (.pointer (some ⟨A, 0, none⟩))] w fun e w' => e = .returned (.string ⟨#[33, 48]⟩) ∧ w' = w := by
  obtain ⟨v, xs, hc, ho⟩ := s.cells
  have h1 := hc.c0
  have h2 := hc.n1
  have h3 := look_name s.names cB
  have a1 := ta43_47
  have a2 := ta43_43
  go_enter Ybaf.func10, Ybaf.ntmps10
  go_wp2
  go_ret
  exact ⟨rfl, rfl⟩
theorem op_recv (s : St F h n st sn ind ret cont left nums w) (A cB : Nat) (hA : w.cell? ⟨A, 0, none⟩ = some (.pointer (some ⟨cB, 0, none⟩))) (hC : w.cell? ⟨cB, 4, none⟩ = some (.bool false)) :
    Calls Ybaf.prog 10 #[.pointer (some ⟨h + 8, 0, none⟩), .iface 32 (.pointer (some ⟨A, 0, none⟩))] w fun e w' => e = .returned (.string ⟨#[63, 95]⟩) ∧ w' = w := by
  have hs := s
  have a1 := ta32_47
  have a2 := ta32_43
  have a3 := ta32_32f
  go_enter Ybaf.func10, Ybaf.ntmps10
  go_wp2_with fail
  refine (receive_any hs cB hC).mono ?_
  rintro e w1 ⟨rfl, rfl⟩
  go_wp2
  go_ret
  exact ⟨rfl, rfl⟩

theorem at_any (s : St F h n st sn ind ret cont left nums w) (x : Value) (hx : ∃ T A, x = .iface T (.pointer (some ⟨A, 0, none⟩))) : Calls Ybaf.prog 8 #[.pointer (some ⟨h + 8, 0, none⟩), x] w fun e w' => e = .returned (.tuple #[]) ∧ St F h n st x ind ret cont left nums w' ∧ Below (h + 3) w w' := by
  obtain ⟨T, A, rfl⟩ := hx
  obtain ⟨v, xs, hc, ho⟩ := s.cells
  have h1 := hc.c14
  have h2 := hc.fz
  go_enter Ybaf.func8, Ybaf.ntmps8
  go_wp2
  go_end0
  exact ⟨rfl, s.setNext _, (Below.refl _ _).setCell (p := ⟨h + 8, 14, none⟩) (by show h + 3 ≤ h + 8; omega) _⟩
end
end Go.Proofs.YbulkwawFmt
