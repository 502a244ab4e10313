/- The walks of the encoder's small functions, of the body closure and of the error's road. -/
import Derived.Test.YbulkvsuFmtParts
import Derived.RegionTactic
import Derived.BigRegion
import Derived.Deep.RegionWith
import Derived.Stop.CallBack
import Derived.Stop.IfaceNil
namespace Go.Proofs.YbulkvsuFmt
open Go.RowKit Go.Extern.Stop Go.Stop Go.Extern
set_option linter.unusedVariables false

theorem call16 (args : Array Value) (w : World) : (callFunc 16 args).run Ybaf.prog w = ((FmtStop.errorf #[9, 49] #[28] args).run Ybaf.prog w).andThen fun v w' => .ok (.value v) w' :=
  run_callFunc_extern Ybaf.func16 (by kernel_rfl) (by kernel_rfl) (by kernel_rfl) (by kernel_rfl) args w
theorem fguard (name : String) (w : World) : (FmtStop.guard name).run Ybaf.prog w = .ok () w := by kernel_rfl
theorem fmt0 : FmtStop.printed? ⟨#[37, 115, 32, 105, 115, 32, 101, 109, 112, 116, 121]⟩ 1 = some [(0, 115, false)] := by kernel_rfl
theorem fmt0r (w : World) : (FmtDoors.printed ⟨#[37, 115, 32, 105, 115, 32, 101, 109, 112, 116, 121]⟩ 1).run Ybaf.prog w = .ok [(0, 115, false)] w := by kernel_rfl
def shape9 : List UInt8 := [12, 6, 0, 0, 0, 0, 0, 0, 0, 115, 116, 114, 105, 110, 103]
theorem op9_115w (name : String) (x : ByteArray) (w : World) : (FmtStop.operand name true 115 false (.iface 9 (.string x))).run Ybaf.prog w = .ok (shape9, FmtStop.pack x.data.toList) w := by kernel_rfl
theorem op9_115 (name : String) (x : ByteArray) (w : World) : (FmtStop.operand name false 115 false (.iface 9 (.string x))).run Ybaf.prog w = .ok (shape9, FmtStop.pack x.data.toList) w := by kernel_rfl
theorem strict9 (name : String) (x : ByteArray) (w : World) : (FmtStop.strict name (.iface 9 (.string x))).run Ybaf.prog w = .ok (shape9, FmtStop.pack x.data.toList) w := by kernel_rfl
theorem ptr52 (w : World) : (FmtStop.ptrTo "errors.errorString").run Ybaf.prog w = .ok 52 w := by kernel_rfl
theorem elem52 (w : World) : (elemOf 52).run Ybaf.prog w = .ok 54 w := by kernel_rfl
theorem isError52 (w : World) : (FmtDoors.textMethod 52 "Error").run Ybaf.prog w = .ok true w := by kernel_rfl

set_option maxRecDepth 100000 in
theorem short_err (F : Interp) (s : ByteArray) (n k : Int) (hn : n = 0) (w : World) (hF : F.answers w.tape) :
    Calls Ybaf.prog 14 #[.string s, .int .i64 n, .int .i64 k] w fun e w' => e = .returned (.iface 52 (.pointer (some ⟨w.heap.size + 1, 0, none⟩))) ∧ Below w.heap.size w w' := by
  subst hn
  have hF' := answers_open hF
  have f1 := call16
  have f2 := fguard
  have f3 := fmt0
  have f4 := fmt0r
  have f5 := op9_115w
  have f6 := op9_115
  have f7 := strict9
  have f8 := ptr52
  have f9 := elem52
  have f10 := isError52
  go_enter Ybaf.func14, Ybaf.ntmps14
  go_wp2
  go_ret
  exact ⟨rfl, (((Below.refl _ _).alloc (Nat.le_refl _) _).alloc (by simp) _).drew⟩

set_option maxRecDepth 100000 in
set_option maxHeartbeats 1000000 in
theorem appendU16 (base : Nat) (v : Value) (n : Nat) (xs : List Int) (x : Int) (hx0 : 0 ≤ x) (hx1 : x ≤ 65535) (w : World) (hn : n ≤ 1000000) (hb : base ≤ w.heap.size) (hown : w.ownsRow base 5 1 v n (B8 xs)) :
    Calls Ybaf.prog 13 #[.agg #[], v, .int .u16 x] w fun e w' => ∃ g cap, e = .returned (.slice (some ⟨g, 0, none⟩) (n + 2) cap) ∧ w'.ownsRow base 5 1 (.slice (some ⟨g, 0, none⟩) (n + 2) cap) (n + 2) (B8 (xs ++ [x / 256, x % 256])) ∧ Below base w w' := by
  obtain ⟨i0, hi, hz0, hz1, hz2⟩ := info_parts info5
  go_enter Ybaf.func13, Ybaf.ntmps13
  go_wp2_with (at_builtin; refine wpList_append_news _ rfl _ _ 22 rfl base 5 i0 (.int .u8 0) 1 Ybaf.underlying22 hi hz0 hz1 hz2 rfl v n (B8 xs) rfl ((hown.alloc _).alloc _) ⟨w.heap.size + 1, 0, none⟩ 2 2 (B8 [x / 256, x % 256]) rfl rfl (cells_new _ _ (by simp) #[.int .u8 (x / 256), .int .u8 (x % 256)] 5) (B8_one _) (by omega) (by unfold maxLen; omega) (by omega) (by simp; omega) ?_; intro g cap w1 hown1 hb1)
  go_ret
  exact ⟨g, cap, rfl, by rw [B8_append]; exact hown1, (((Below.refl _ _).alloc hb _).alloc (by simp; omega) _).trans hb1⟩

/-- The encoder in memory: its bytes 'xs' in a row of its own from 'base' on, no error. -/
structure Enc (w : World) (EB base : Nat) (v : Value) (xs : List Int) : Prop where
  c0 : w.cell? ⟨EB, 0, none⟩ = some v
  c1 : w.cell? ⟨EB, 1, none⟩ = some .nilIface
  fz : ∀ o, w.frozen? ⟨EB, o, none⟩ = false
  own : w.ownsRow base 5 1 v xs.length (B8 xs)
  lt : EB < base
  size : base ≤ w.heap.size

theorem enc_put {w w' : World} {EB base : Nat} {v v' : Value} {xs ys : List Int} (h : Enc w EB base v xs) (hb : Below base w w') (how : w'.ownsRow base 5 1 v' ys.length (B8 ys)) :
    Enc (w'.setCell ⟨EB, 0, none⟩ v') EB base v' ys ∧ But EB base w (w'.setCell ⟨EB, 0, none⟩ v') := by
  obtain ⟨hc0, hc1, hfz, hown, hlt, hsz⟩ := h
  have hs := hb.size
  refine ⟨⟨World.cell?_setCell_same _ _ _ ((hb.cell (p := ⟨EB, 0, none⟩) hlt).trans hc0), ?_, fun o => ?_, ownsRow_setCell_below how hlt _, hlt, ?_⟩, (But.of_below hb).trans (But.set 0 v')⟩
  · rw [World.cell?_setCell_other _ _ _ _ (by simp)]
    exact (hb.cell (p := ⟨EB, 1, none⟩) hlt).trans hc1
  · rw [World.frozen?_setCell]
    exact (hb.frozen (p := ⟨EB, o, none⟩) hlt).trans (hfz o)
  · simp [World.setCell]
    omega

set_option maxRecDepth 100000 in
set_option maxHeartbeats 1000000 in
theorem uint16 (EB base : Nat) (v : Value) (xs : List Int) (x : Int) (hx0 : 0 ≤ x) (hx1 : x ≤ 65535) (w : World) (hn : xs.length ≤ 1000000) (h : Enc w EB base v xs) :
    Calls Ybaf.prog 10 #[.pointer (some ⟨EB, 0, none⟩), .int .u16 x] w fun e w' => ∃ v', e = .returned (.tuple #[]) ∧ Enc w' EB base v' (xs ++ [x / 256, x % 256]) ∧ But EB base w w' := by
  have hE := h
  obtain ⟨hc0, hc1, hfz, hown, hlt, hsz⟩ := h
  go_enter Ybaf.func10, Ybaf.ntmps10
  go_region_with (go_at_call 13; refine (appendU16 base v xs.length xs x hx0 hx1 _ hn (by simpa using hsz) (by exact hown)).mono ?_; rintro e w' ⟨g, cap, rfl, how1, hb1⟩; have k1 : w'.cell? ⟨EB, 0, none⟩ = some v := (hb1.cell (p := ⟨EB, 0, none⟩) hlt).trans hc0; have k2 : w'.frozen? ⟨EB, 0, none⟩ = false := (hb1.frozen (p := ⟨EB, 0, none⟩) hlt).trans (hfz 0))
  all_goals go_end0
  all_goals exact ⟨_, rfl, enc_put hE ((Below.refl _ _).drew.trans hb1) (by simpa using how1)⟩

/-- What the codes write. -/
def wireOf (cs : List Int) : List Int := cs.flatMap (fun x => [x / 256, x % 256])
theorem wireOf_length (cs : List Int) : (wireOf cs).length = 2 * cs.length := by
  induction cs with
  | nil => rfl
  | cons c cs ih => simp [wireOf] at ih ⊢; omega
theorem wireOf_snoc (cs : List Int) (k : Nat) (hk : k < cs.length) : wireOf (cs.take (k + 1)) = wireOf (cs.take k) ++ [cs.getD k 0 / 256, cs.getD k 0 % 256] := by
  rw [List.take_succ_eq_append_getElem hk, List.getD_eq_getElem?_getD, List.getElem?_eq_getElem hk, wireOf, wireOf, List.flatMap_append]
  rfl

set_option maxRecDepth 100000 in
set_option maxHeartbeats 1000000 in
theorem body_any (EB base SB SG m : Nat) (v : Value) (xs cs : List Int) (w : World) (hm : m ≤ 1024) (hml : Hid (m = cs.length)) (hx : xs.length ≤ 100000) (h : Enc w EB base v xs)
    (hSB : SB < base ∧ SB ≠ EB) (hSG : SG < base ∧ SG ≠ EB) (hs1 : w.cell? ⟨SB, 0, none⟩ = some (.slice (some ⟨SG, 0, none⟩) m m)) (hs2 : ∀ j, j < m → w.cell? ⟨SG, j, none⟩ = some (.int .u16 (cs.getD j 0))) (hs3 : ∀ j, j < m → 0 ≤ cs.getD j 0 ∧ cs.getD j 0 ≤ 65535) :
    Calls Ybaf.prog 9 #[.pointer (some ⟨EB, 0, none⟩), .pointer (some ⟨SB, 0, none⟩)] w fun e w' => ∃ v', e = .returned (.tuple #[]) ∧ Enc w' EB base v' (xs ++ wireOf cs) ∧ But EB base w w' := by
  have HS2 : Hid (∀ j, j < m → w.cell? ⟨SG, j, none⟩ = some (.int .u16 (cs.getD j 0))) := hs2
  have HS3 : Hid (∀ j, j < m → 0 ≤ cs.getD j 0 ∧ cs.getD j 0 ≤ 65535) := hs3
  clear hs2 hs3
  go_enter Ybaf.func9, Ybaf.ntmps9
  go_wp2
  go_loopw [7] (fun t wr => ∃ k : Nat, k ≤ m ∧ t = .int .i64 k ∧ (∃ v', Enc wr EB base v' (xs ++ wireOf (cs.take k))) ∧ But EB base w wr) (fun t _ => m - (intOf t).toNat)
  case atStart => exact ⟨0, Nat.zero_le _, rfl, ⟨v, by simpa [wireOf] using h⟩, But.refl _ _ _⟩
  case round =>
    obtain ⟨k, hk, rfl, ⟨v1, he⟩, hbut⟩ := hrel
    by_cases hlt : k < m
    · have hck : wr.cell? ⟨SG, k, none⟩ = some (.int .u16 (cs.getD k 0)) := (hbut.cell (p := ⟨SG, k, none⟩) hSG.1 hSG.2).trans (HS2.out k hlt)
      have hxk := HS3.out k hlt
      have hsn := wireOf_snoc cs k (by rw [← hml.out]; exact hlt)
      have hl1 : (xs ++ wireOf (cs.take k)).length ≤ 1000000 := by simp [wireOf_length]; omega
      obtain ⟨x, hxe⟩ : ∃ x, x = cs.getD k 0 := ⟨_, rfl⟩
      rw [← hxe] at hck hxk hsn
      have HN : Hid (wireOf (cs.take (k + 1)) = wireOf (cs.take k) ++ [x / 256, x % 256]) := hsn
      clear hsn hxe
      go_wp2_with fail
      refine (uint16 EB base v1 (xs ++ wireOf (cs.take k)) x hxk.1 hxk.2 _ hl1 he).mono ?_
      rintro e w2 ⟨v2, rfl, he2, hb2⟩
      go_wp2
      go_roundw
      case rel => exact ⟨k + 1, by omega, by go_num, ⟨v2, by rw [HN.out, ← List.append_assoc]; exact he2⟩, hbut.trans hb2⟩
      case measure => simp [intOf]; omega
    · have hkm : k = cs.length := by rw [← hml.out]; omega
      go_wp2
      go_end0
      exact ⟨v1, rfl, by rw [hkm, List.take_length] at he; exact he, hbut⟩

set_option maxRecDepth 100000 in
set_option maxHeartbeats 1000000 in
theorem appendLen_full (g0 n : Nat) (xs : List Int) (w : World) (hn : n ≤ 100000) (hxl : xs.length = n) (hxc : ∀ j, j < n → w.cell? ⟨g0, j, none⟩ = some (.int .u8 (xs.getD j 0))) (hg : g0 < w.heap.size) :
    Calls Ybaf.prog 11 #[.slice (some ⟨g0, 0, none⟩) n n, .int .i64 2, .int .i64 0] w fun e w' => ∃ g cap, e = .returned (.slice (some ⟨g, 0, none⟩) (n + 2) cap) ∧
      w'.ownsRow w.heap.size 5 1 (.slice (some ⟨g, 0, none⟩) (n + 2) cap) (n + 2) (B8 (xs ++ [0, 0])) ∧ Below w.heap.size w w' := by
  obtain ⟨i0, hi, hz0, hz1, hz2⟩ := info_parts info5
  have HXC : Hid (∀ j u, (B8 xs)[j]? = some u → (w.alloc (.cells #[.int .u8 0] 5)).cell? ⟨g0, j, none⟩ = some u) := by
    intro j u hj
    have hjl : j < xs.length := by
      have := (List.getElem?_eq_some_iff.1 hj).1
      rwa [B8_length] at this
    rw [B8_get xs j hjl] at hj
    cases hj
    rw [World.cell?_alloc_past _ _ _ hg]
    exact hxc j (by omega)
  clear hxc
  go_enter Ybaf.func11, Ybaf.ntmps11
  go_wp2
  refine wp_loop_rounds 3 ?_
  rw [rounds_succ]
  go_wp2_with (at_builtin; refine wpList_append_full _ rfl _ _ 22 rfl 5 i0 (.int .u8 0) 1 Ybaf.underlying22 hi hz0 hz1 hz2 rfl g0 n (B8 xs) rfl (by rw [B8_length]; exact hxl) (fun j u hj => HXC.out j u hj) ⟨w.heap.size, 0, none⟩ 1 1 (B8 [0]) rfl rfl (cells_new _ _ rfl #[.int .u8 0] 5) (B8_one _) (by omega) (by unfold maxLen; omega) (by omega) ?_; intro g cap w1 hown1 hb1)
  rw [rounds_succ]
  have hs1 := hb1.size
  simp only [World.size_alloc] at hs1
  go_wp2_with (at_builtin; refine wpList_append_news _ rfl _ _ 22 rfl w.heap.size 5 i0 (.int .u8 0) 1 Ybaf.underlying22 hi hz0 hz1 hz2 rfl _ (n + 1) (B8 xs ++ B8 [0]) rfl ((ownsRow_base hown1 (by simp)).alloc _) ⟨w1.heap.size, 0, none⟩ 1 1 (B8 [0]) rfl rfl (cells_new _ _ rfl #[.int .u8 0] 5) (B8_one _) (by omega) (by unfold maxLen; omega) (by omega) (by simp; omega) ?_; intro g2 cap2 w2 hown2 hb2)
  rw [rounds_succ]
  go_wp2
  go_ret
  refine ⟨g2, cap2, rfl, by rw [B8_append]; simpa [B8] using hown2, ?_⟩
  exact ((((Below.refl _ _).alloc (Nat.le_refl _) _).trans (hb1.mono (by simp))).alloc (by omega) _).trans hb2
end Go.Proofs.YbulkvsuFmt
