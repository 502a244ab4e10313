/- The walk of 'line'. -/
import Derived.Test.YbulkwawFmtPrint
import Derived.Deep.RegionLaw
namespace Go.Proofs.YbulkwawFmt
open Go.RowKit Go.Extern.Stop Go.Stop Go.Extern
set_option linter.unusedVariables false
set_option maxRecDepth 100000
set_option maxHeartbeats 1000000

theorem exec_fn {P : Program} {o : Oper} {a : Act} {w : World} (f : FuncId) (x y : Operand) (ts : Array TypeId) (hop : o.op = Op.call { callee := .value (.func f), args := #[x, y], argTypes := ts }) : (execOp a.eval o).run P w = (callFunc f #[a.eval x, a.eval y]).run P w := by
  simp [execOp, hop, go_sem]

theorem step_append {P : Program} {ops : Array Oper} {o : Oper} {a : Act} {w : World} {K : Act → World → Prop} {Q : Exit → Act → World → Prop} {E : Prop}
    (hg : o.guard = none) (s x : Operand) (t : TypeId) (hop : o.op = Op.call { callee := Callee.builtin Builtin.append, args := #[s, x], argTypes := #[t, t] })
    (v sl r : Value) (w1 : World) (hs : a.eval s = v) (hx : a.eval x = sl) (hrun : (Builtin.append_ #[t, t] o.type #[v, sl]).run P w = .ok r w1) (hK : K (a.put o.dst r) w1) :
    if Region.wanted o (yielded ops a.tmps) = true then Oper.wp P o a w K Q else E := by
  rw [if_pos (by simp [Region.wanted, hg])]
  unfold Oper.wp
  simp [execOp, hop, resolve, invoke, builtin, hs, hx, hrun, Result.andThen]
  exact hK

theorem step_print {P : Program} {ops : Array Oper} {o : Oper} {a : Act} {w : World} {K : Act → World → Prop} {Q : Exit → Act → World → Prop} {E : Prop}
    (hg : o.guard = none) (x y : Operand) (ts : Array TypeId) (hop : o.op = Op.call { callee := .value (.func 22), args := #[x, y], argTypes := ts })
    (f : ByteArray) (s : Value) (hx : a.eval x = .string f) (hy : a.eval y = s) (sv : Array Value) (T : ByteArray) (h1 : (callFunc 22 #[.string f, s]).run P w = .ok (.row FmtCalls.turnsRow sv) w)
    (h2 : (FmtCalls.begun #[] #[] sv).run P w = .ok (.value (.string T)) w.drew) (hK : K (a.put o.dst (.string T)) w.drew) :
    if Region.wanted o (yielded ops a.tmps) = true then Oper.wp P o a w K Q else E := by
  rw [if_pos (by simp [Region.wanted, hg])]
  unfold Oper.wp
  rw [exec_fn 22 x y ts hop, hx, hy, h1]
  exact rows_value nextTurns h2 hK

theorem step_repeat {ops : Array Oper} {o : Oper} {a : Act} {w : World} {K : Act → World → Prop} {Q : Exit → Act → World → Prop} {E : Prop}
    (hg : o.guard = none) (x y : Operand) (ts : Array TypeId) (hop : o.op = Op.call { callee := .value (.func 21), args := #[x, y], argTypes := ts })
    (f : ByteArray) (hx : a.eval x = .string f) (hy : a.eval y = .int .i64 1) (hK : K (a.put o.dst (.string f)) w) :
    if Region.wanted o (yielded ops a.tmps) = true then Oper.wp Ybaf.prog o a w K Q else E := by
  rw [if_pos (by simp [Region.wanted, hg])]
  unfold Oper.wp
  have h1 : (callFunc 21 #[.string f, .int .i64 1]).run Ybaf.prog w = .ok (.enter 21 #[.string f, .int .i64 1]) w := by kernel_rfl
  rw [exec_fn 21 x y ts hop, hx, hy, h1]
  refine (repeat_one f w).mono ?_
  rintro e w' ⟨rfl, rfl⟩
  exact hK

section
variable {F : Interp} {h n : Nat} {st : Prs} {sn : Value} {ind : Int} {ret : Bool} {cont left nums : Prs} {w : World}
theorem info9 : (Ybaf.prog.info? 9).map (fun i => (i.zero, i.size, i.bytes)) = some (some (.string ⟨#[]⟩), 1, 16) := by kernel_rfl

theorem append_line {h n : Nat} {v : Value} {xs : List Value} {w : World} (ho : w.ownsRow (h + 9) 9 1 v n xs) (hs : h + 9 ≤ w.heap.size) (hn : n ≤ 1000000) (x : ByteArray) (ty : TypeId) : ∃ g cap w1 xs',
    (Builtin.append_ #[80, 80] ty #[v, .slice (some ⟨w.heap.size, 0, none⟩) 1 1]).run Ybaf.prog (w.alloc (.cells #[.string x] 9)) = .ok (.slice (some ⟨g, 0, none⟩) (n + 1) cap) w1 ∧ w1.ownsRow (h + 9) 9 1 (.slice (some ⟨g, 0, none⟩) (n + 1) cap) (n + 1) xs' ∧ Below (h + 9) w w1 := by
  obtain ⟨i0, hi, hz0, hz1, hz2⟩ := info_parts info9
  have hs' : h + 9 ≤ (w.alloc (.cells #[.string x] 9)).heap.size := by simp; omega
  obtain ⟨v', w', hr, how, hgr, _⟩ := run_append_own (P := Ybaf.prog) (w.alloc (.cells #[.string x] 9)) (h + 9) 80 ty 9 i0 (.string ⟨#[]⟩) 1 16 Ybaf.underlying80 hi hz0 hz1 hz2 rfl (by decide) v n xs (ho.alloc _) ⟨w.heap.size, 0, none⟩ 1 1 [.string x] rfl (cells_new _ _ rfl #[.string x] 9) (by simp [Value.oneCell']) (by unfold maxLen; omega) (by omega) hs'
  have hb := ((Below.refl (h + 9) w).alloc hs (.cells #[.string x] 9)).trans (below_of_grown (ho.alloc _) hgr hs')
  rcases how.2 with ⟨_, h0⟩ | ⟨g, cap, cur, hv, _⟩
  · omega
  · rw [hv] at hr how
    exact ⟨g, cap, w', _, hr, how, hb⟩

theorem line_nil (s : St F h n st .nilIface 1 ret cont left nums w) (hn : n ≤ 1000000) {f : ByteArray} {a : Value} {ok : World → Prop} (hP : Prints F f a ok) (hok : ok w) :
    Calls Ybaf.prog 9 #[.pointer (some ⟨h + 8, 0, none⟩), .string f, a] w fun e w' => e = .returned (.tuple #[]) ∧ St F h (n + 1) st .nilIface 1 ret cont left nums w' ∧ Below (h + 3) w w' := by
  obtain ⟨v, xs, hc, ho⟩ := s.cells
  obtain ⟨i0, hi, hz0, hz1, hz2⟩ := info_parts info9
  obtain ⟨sv, T, hT, hst, hpr⟩ := hP
  have h1 := hc.c14
  have h2 := hc.c5
  have h3 := hc.c6
  have h4 := hc.fz
  have HS : Hid _ := s
  have HO : Hid _ := ho
  have HST : Hid _ := hst
  have HPR : Hid _ := hpr
  have HOK : Hid _ := hok
  have HA : Hid _ := s.ans
  clear s ho hst hpr hok hc
  go_enter Ybaf.func9, Ybaf.ntmps9
  go_wp2_with fail
  have q1 := (HPR.out w.drew (HST.out w _ rfl HOK.out) HA.out).1
  have q2 := (HPR.out w.drew (HST.out w _ rfl HOK.out) HA.out).2
  obtain ⟨g, cap, w1, xs1, q3, how1, hb1⟩ := append_line (w := w.drew.drew) HO.out HS.out.size hn (⟨#[9]⟩ ++ T) 80
  have k1 : w1.cell? ⟨h + 8, 5, none⟩ = some v := (hb1.cell (p := ⟨h + 8, 5, none⟩) (by show h + 8 < h + 9; omega)).trans h2
  have k2 : w1.frozen? ⟨h + 8, 5, none⟩ = false := (hb1.frozen (p := ⟨h + 8, 5, none⟩) (by show h + 8 < h + 9; omega)).trans (h4 5)
  have HOW : Hid _ := how1
  have HB : Hid _ := hb1
  have Q1 : Hid _ := q1
  have Q2 : Hid _ := q2
  have Q3 : Hid _ := q3
  have k3 : ∀ o, (w.alloc o).cell? ⟨h + 8, 5, none⟩ = some v := fun o => (World.cell?_alloc_past _ _ _ (by have := HS.out.size; omega)).trans h2
  have hT' : ¬ 9223372036854775807 < 1 + T.size := by omega
  clear how1 hb1 q1 q2 q3
  go_region_law (first | (refine step_repeat rfl _ _ _ rfl ⟨#[9]⟩ rfl rfl ?_) | (refine step_print rfl _ _ _ rfl f a rfl rfl sv T Q1.out Q2.out ?_) | (refine step_append rfl _ _ 80 rfl v _ _ w1 rfl rfl Q3.out ?_))
  all_goals go_end0
  all_goals exact ⟨rfl, HS.out.addLine (((Below.refl _ _).drew.drew).trans HB.out) HOW.out, (((Below.refl _ _).drew.drew).trans (HB.out.mono (by omega))).setCell (p := ⟨h + 8, 5, none⟩) (by show h + 3 ≤ h + 8; omega) _⟩
end
end Go.Proofs.YbulkwawFmt
