/- The walks of 'number', 'exitLabel', 'leave', 'exit', 'free', 'option'. -/
import Derived.Test.YbulkwawFmtLineAt
namespace Go.Proofs.YbulkwawFmt
open Go.RowKit Go.Extern.Stop Go.Stop Go.Extern
set_option linter.unusedVariables false
set_option maxRecDepth 100000
set_option maxHeartbeats 1000000

theorem wpList_lenM {P : Program} {ops : Array Oper} {rest : List Oper} {o : Oper} {a : Act} {Q : Exit → Act → World → Prop} (w : World) (hg : o.guard = none) (m : Operand) (t kt et : TypeId) (hop : o.op = Op.call { callee := Callee.builtin Builtin.len, args := #[m], argTypes := #[t] })
    (ht : P.underlying t = some (.map kt et)) (b : Nat) (ps : Prs) (hm : a.eval m = .map (some b)) (hM : Mp w b ps) (hK : wpList P ops Q rest (a.put o.dst (.int .i64 ps.length)) w) : wpList P ops Q (o :: rest) a w := by
  refine wpList_plain hg fun K' hK' => ?_
  obtain ⟨es, clock, hb, rfl⟩ := hM
  have hl : (Builtin.len_ #[t] o.type #[.map (some b)]).run P w = .ok (.int .i64 (prs es.toList).length) w := by
    simp [Builtin.len_, run_underlying ht, MapKept.run_getObj_map hb, goInt, Result.andThen, prs]
  unfold Oper.wp
  simp [execOp, hop, resolve, invoke, builtin, hm, hl, Result.andThen]
  exact hK' _ _ hK

def eqT (T : Nat) : Value → Bool
  | .iface T' _ => T == T'
  | _ => false
/-- The keys of 'numbers' and 'left'. -/
def KeysT (lB tB : Nat) (ps : Prs) : Prop := ∀ p ∈ ps, p.1 = stm 30 lB ∨ p.1 = stm 36 tB

theorem asks_stm (lB tB T A : Nat) (hT : (T = 30 ∧ A = lB) ∨ (T = 36 ∧ A = tB) ∨ T = 57 ∨ T = 65) (ps : Prs) (hps : KeysT lB tB ps) : Asks Ybaf.prog 42 (stm T A) (eqT T) ps := by
  refine ⟨fun w em => ck42 T A (by omega) w em, fun w p hp => ?_, _, Ybaf.underlying42, fun p hp => .inl ?_⟩
  · by_cases e1 : p.1 = stm 30 lB
    · rw [e1]
      by_cases hq : T = 30
      · subst hq
        obtain rfl : A = lB := by omega
        exact eqStm 30 35 A Ybaf.underlying30 (Ybaf.prog.cellsOf 35 - 1) (fun w => by kernel_rfl) (by kernel_rfl) w
      · rw [show eqT T (stm 30 lB) = false by simp [eqT, hq]]
        exact eq42_ne T 30 A lB hq w
    · have e2 := (hps p hp).resolve_left e1
      rw [e2]
      by_cases hq : T = 36
      · subst hq
        obtain rfl : A = tB := by omega
        exact eqStm 36 39 A Ybaf.underlying36 (Ybaf.prog.cellsOf 39 - 1) (fun w => by kernel_rfl) (by kernel_rfl) w
      · rw [show eqT T (stm 36 tB) = false by simp [eqT, hq]]
        exact eq42_ne T 36 A tB hq w
  · rcases hps p hp with e | e <;> rw [e] <;> rfl

theorem asks_loop (lB : Nat) (ps : Prs) (hps : ∀ p ∈ ps, p.1 = ptr lB) : Asks Ybaf.prog 30 (ptr lB) (fun _ => true) ps := by
  refine ⟨fun w em => ck30 lB w em, fun w p hp => ?_, _, Ybaf.underlying30, fun p hp => .inl ?_⟩
  · rw [hps p hp]; exact eq30 lB w
  · rw [hps p hp]; rfl

theorem zero3 (w : World) : (zeroValue 3).run Ybaf.prog w = .ok (.int .i64 0) w := by kernel_rfl
theorem zero4 (w : World) : (zeroValue 4).run Ybaf.prog w = .ok (.bool false) w := by kernel_rfl

section
variable {F : Interp} {h n : Nat} {st : Prs} {sn : Value} {ind : Int} {ret : Bool} {cont left nums : Prs} {w : World}

theorem number_hit (s : St F h n st sn ind ret cont left nums w) (T A : Nat) {eq : Value → Bool} (hq : Asks Ybaf.prog 42 (stm T A) eq nums) (i : Nat) (k : Int) (hf : find eq nums 0 = some (i, .int .i64 k)) :
    Calls Ybaf.prog 20 #[.pointer (some ⟨h + 8, 0, none⟩), .iface T (.pointer (some ⟨A, 0, none⟩))] w fun e w' => e = .returned (.int .i64 k) ∧ w' = w := by
  obtain ⟨v, xs, hc, ho⟩ := s.cells
  have h1 := hc.c8
  have h2 : (Instr.lookup 82 (.map (some (h + 3))) (.iface T (.pointer (some ⟨A, 0, none⟩))) true).run Ybaf.prog w = .ok (.tuple #[.int .i64 k, .bool true]) w := by
    have := look_run s.num Ybaf.underlying82 hq (zero3 w) true
    rw [hf] at this
    exact this
  clear s hc ho hq
  go_enter Ybaf.func20, Ybaf.ntmps20
  go_wp2
  go_ret
  exact ⟨rfl, rfl⟩

theorem number_miss (s : St F h n st sn ind ret cont left nums w) (T A : Nat) {eq : Value → Bool} (hq : Asks Ybaf.prog 42 (stm T A) eq nums) (hf : find eq nums 0 = none) (hnl : nums.length ≤ 5) :
    Calls Ybaf.prog 20 #[.pointer (some ⟨h + 8, 0, none⟩), .iface T (.pointer (some ⟨A, 0, none⟩))] w fun e w' => e = .returned (.int .i64 ((nums.length : Int) + 1)) ∧ St F h n st sn ind ret cont left (nums ++ [(stm T A, .int .i64 ((nums.length : Int) + 1))]) w' ∧ Below (h + 3) w w' := by
  obtain ⟨v, xs, hc, ho⟩ := s.cells
  have h1 := hc.c8
  have h2 : (Instr.lookup 82 (.map (some (h + 3))) (.iface T (.pointer (some ⟨A, 0, none⟩))) true).run Ybaf.prog w = .ok (.tuple #[.int .i64 0, .bool false]) w := by
    have := look_run s.num Ybaf.underlying82 hq (zero3 w) true
    rw [hf] at this
    exact this
  obtain ⟨w1, h3, hm1, ht1⟩ := upd_new (val := .int .i64 ((nums.length : Int) + 1)) s.num Ybaf.underlying82 hq hf
  have HS : Hid _ := s.turnNum ht1 hm1
  have HB : Hid _ := turned_below ht1 (B := h + 3) (by omega)
  have HM : Hid _ := s.num
  have hb1 : (nums.length : Int) + 1 ≤ 6 := by omega
  clear s hc ho hq hm1 ht1
  go_enter Ybaf.func20, Ybaf.ntmps20
  go_wp2_with (at_len; refine wpList_lenM _ rfl _ 82 42 3 rfl Ybaf.underlying82 (h + 3) nums rfl HM.out ?_)
  go_ret
  exact ⟨rfl, HS.out, HB.out⟩

def addNum (T A : Nat) (nums : Prs) : Prs := if (find (eqT T) nums 0).isSome then nums else nums ++ [(stm T A, .int .i64 ((nums.length : Int) + 1))]
def one : Value := .int .i64 1
def two : Value := .int .i64 2
def NumsOk (lB tB : Nat) (nums : Prs) : Prop :=
  nums = [] ∨ nums = [(stm 30 lB, .int .i64 1)] ∨ nums = [(stm 36 tB, .int .i64 1)] ∨ nums = [(stm 30 lB, .int .i64 1), (stm 36 tB, .int .i64 2)] ∨ nums = [(stm 36 tB, .int .i64 1), (stm 30 lB, .int .i64 2)]
theorem NumsOk.keys {lB tB : Nat} {nums : Prs} (hk : NumsOk lB tB nums) : KeysT lB tB nums := by
  intro p hp
  rcases hk with rfl | rfl | rfl | rfl | rfl <;> simp at hp
  · exact .inl (by rw [hp])
  · exact .inr (by rw [hp])
  · rcases hp with rfl | rfl <;> simp
  · rcases hp with rfl | rfl <;> simp

theorem number_any {lB tB : Nat} (s : St F h n st sn ind ret cont left nums w) (T A : Nat) (hT : (T = 30 ∧ A = lB) ∨ (T = 36 ∧ A = tB)) (hk : NumsOk lB tB nums) :
    Calls Ybaf.prog 20 #[.pointer (some ⟨h + 8, 0, none⟩), .iface T (.pointer (some ⟨A, 0, none⟩))] w fun e w' => (e = .returned (.int .i64 1) ∨ e = .returned (.int .i64 2)) ∧ St F h n st sn ind ret cont left (addNum T A nums) w' ∧ Below (h + 3) w w' ∧ NumsOk lB tB (addNum T A nums) := by
  have hq := asks_stm lB tB T A (by omega) nums hk.keys
  have hit : ∀ i k, find (eqT T) nums 0 = some (i, .int .i64 k) → (k = 1 ∨ k = 2) → Calls Ybaf.prog 20 #[.pointer (some ⟨h + 8, 0, none⟩), .iface T (.pointer (some ⟨A, 0, none⟩))] w fun e w' => (e = .returned (.int .i64 1) ∨ e = .returned (.int .i64 2)) ∧ St F h n st sn ind ret cont left (addNum T A nums) w' ∧ Below (h + 3) w w' ∧ NumsOk lB tB (addNum T A nums) := by
    intro i k hf hk12
    refine (number_hit s T A hq i k hf).mono ?_
    rintro e w' ⟨rfl, rfl⟩
    have e1 : addNum T A nums = nums := by simp [addNum, hf]
    rw [e1]
    exact ⟨by rcases hk12 with rfl | rfl <;> simp, s, Below.refl _ _, hk⟩
  have miss : find (eqT T) nums 0 = none → nums.length ≤ 1 → NumsOk lB tB (nums ++ [(stm T A, .int .i64 ((nums.length : Int) + 1))]) → Calls Ybaf.prog 20 #[.pointer (some ⟨h + 8, 0, none⟩), .iface T (.pointer (some ⟨A, 0, none⟩))] w fun e w' => (e = .returned (.int .i64 1) ∨ e = .returned (.int .i64 2)) ∧ St F h n st sn ind ret cont left (addNum T A nums) w' ∧ Below (h + 3) w w' ∧ NumsOk lB tB (addNum T A nums) := by
    intro hf hl hk'
    refine (number_miss s T A hq hf (by omega)).mono ?_
    rintro e w' ⟨rfl, hs', hb'⟩
    have e1 : addNum T A nums = nums ++ [(stm T A, .int .i64 ((nums.length : Int) + 1))] := by simp [addNum, hf]
    rw [e1]
    refine ⟨?_, hs', hb', hk'⟩
    have : nums.length = 0 ∨ nums.length = 1 := by omega
    rcases this with q | q <;> rw [q]
    · exact .inl rfl
    · exact .inr rfl
  rcases hT with ⟨rfl, rfl⟩ | ⟨rfl, rfl⟩ <;> rcases hk with rfl | rfl | rfl | rfl | rfl
  · exact miss rfl (by simp) (.inr (.inl rfl))
  · exact hit 0 1 rfl (.inl rfl)
  · exact miss rfl (by simp) (.inr (.inr (.inr (.inr rfl))))
  · exact hit 0 1 rfl (.inl rfl)
  · exact hit 1 2 rfl (.inr rfl)
  · exact miss rfl (by simp) (.inr (.inr (.inl rfl)))
  · exact miss rfl (by simp) (.inr (.inr (.inr (.inl rfl))))
  · exact hit 0 1 rfl (.inl rfl)
  · exact hit 1 2 rfl (.inr rfl)
  · exact hit 0 1 rfl (.inl rfl)

theorem told_eq {F : Interp} {name : String} {reading : List (List UInt8)} {s : List UInt8} (h : FmtText.text name reading = some s) (hl : s.length ≤ 1000) : FmtStop.textOf (F.told name reading 0) = ⟨s.toArray⟩ := by
  have h1 := Go.Kit.textOf_list F.told name reading
  rw [told_string F h (by omega)] at h1
  revert h1
  generalize FmtStop.textOf (F.told name reading 0) = x
  intro h1
  obtain ⟨x⟩ := x
  simp at h1
  rw [← h1]

theorem prints1d_eq (F : Interp) (f : ByteArray) (x : Int) (ob : Nat) (hp : FmtStop.printed? f 1 = some [(0, 100, false)]) (s : List UInt8) (ht : FmtText.text "fmt.Sprintf" [f.data.toList, shape3, digits 8 (x % 18446744073709551616).toNat] = some s) (hl : s.length ≤ 1000) :
    ∃ sv, ∀ w, w.cell? ⟨ob, 0, none⟩ = some (.iface 3 (.int .i64 x)) → F.told.answers w.tape → (callFunc 22 #[.string f, .slice (some ⟨ob, 0, none⟩) 1 1]).run Ybaf.prog w = .ok (.row FmtCalls.turnsRow sv) w ∧ (FmtCalls.begun #[] #[] sv).run Ybaf.prog w = .ok (.value (.string ⟨s.toArray⟩)) w.drew := by
  have ht' := told_eq (F := F) ht hl
  refine ⟨FmtCalls.save 0 0 (.slice (some ⟨ob, 0, none⟩) 1 1) f [] [(0, 100, false)], fun w hc hF => ⟨?_, ?_⟩⟩
  · have hF' := answers_open hF
    have f1 := call22
    have f2 := fguard
    rw [f1]
    go_simp
  · rw [← ht']
    clear ht' ht
    have hF' := answers_open hF
    have f5 := op3
    have f6 := act3
    go_simp

abbrev brk (k : UInt8) : ByteArray := ⟨#[98, 114, 107, 95, k]⟩

theorem label_any {lB tB : Nat} (s : St F.told h n st sn ind ret cont left nums w) (T A : Nat) (hT : (T = 30 ∧ A = lB) ∨ (T = 36 ∧ A = tB)) (hk : NumsOk lB tB nums) :
    Calls Ybaf.prog 30 #[.pointer (some ⟨h + 8, 0, none⟩), .iface T (.pointer (some ⟨A, 0, none⟩))] w fun e w' => (e = .returned (.string (brk 49)) ∨ e = .returned (.string (brk 50))) ∧ St F.told h n st sn ind ret cont left (addNum T A nums) w' ∧ Below (h + 3) w w' ∧ NumsOk lB tB (addNum T A nums) := by
  go_enter Ybaf.func30, Ybaf.ntmps30
  go_wp2_with fail
  refine (number_any s T A hT hk).mono ?_
  rintro e w1 ⟨rfl | rfl, hs1, hb1, hk1⟩
  · obtain ⟨sv, hp⟩ := prints1d_eq F ⟨#[98, 114, 107, 95, 37, 100]⟩ 1 w1.heap.size (by kernel_rfl) [98, 114, 107, 95, 49] (by kernel_rfl) (by decide)
    have HC : Hid ((w1.alloc (.cells #[.iface 3 (.int .i64 1)] 20)).cell? ⟨w1.heap.size, 0, none⟩ = some (.iface 3 (.int .i64 1))) := World.cell?_alloc_at _ _ _ 0 rfl
    have HP : Hid _ := hp
    have HS : Hid _ := hs1
    have HB : Hid _ := hb1
    have HK : Hid _ := hk1
    clear hp hs1 hb1 hk1 s hk
    go_wp2_with (refine wpList_print _ rfl _ _ _ rfl ⟨#[98, 114, 107, 95, 37, 100]⟩ _ rfl rfl sv _ (HP.out _ HC.out HS.out.ans).1 (HP.out _ HC.out HS.out.ans).2 ?_)
    go_ret
    exact ⟨.inl rfl, (HS.out.alloc _).drew, (HB.out.alloc (by have := HS.out.size; omega) _).drew, HK.out⟩
  · obtain ⟨sv, hp⟩ := prints1d_eq F ⟨#[98, 114, 107, 95, 37, 100]⟩ 2 w1.heap.size (by kernel_rfl) [98, 114, 107, 95, 50] (by kernel_rfl) (by decide)
    have HC : Hid ((w1.alloc (.cells #[.iface 3 (.int .i64 2)] 20)).cell? ⟨w1.heap.size, 0, none⟩ = some (.iface 3 (.int .i64 2))) := World.cell?_alloc_at _ _ _ 0 rfl
    have HP : Hid _ := hp
    have HS : Hid _ := hs1
    have HB : Hid _ := hb1
    have HK : Hid _ := hk1
    clear hp hs1 hb1 hk1 s hk
    go_wp2_with (refine wpList_print _ rfl _ _ _ rfl ⟨#[98, 114, 107, 95, 37, 100]⟩ _ rfl rfl sv _ (HP.out _ HC.out HS.out.ans).1 (HP.out _ HC.out HS.out.ans).2 ?_)
    go_ret
    exact ⟨.inr rfl, (HS.out.alloc _).drew, (HB.out.alloc (by have := HS.out.size; omega) _).drew, HK.out⟩
end
end Go.Proofs.YbulkwawFmt
