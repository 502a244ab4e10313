/- The walk of 'line' where the next line stands for a statement. -/
import Derived.Test.YbulkwawFmtLine
namespace Go.Proofs.YbulkwawFmt
open Go.RowKit Go.Extern.Stop Go.Stop Go.Extern
set_option linter.unusedVariables false
set_option maxRecDepth 100000
set_option maxHeartbeats 1000000
section
variable {F : Interp} {h n : Nat} {st : Prs} {sn : Value} {ind : Int} {ret : Bool} {cont left nums : Prs} {w : World}

/-- All keys of 'stands' are numbers of lines that are written. -/
def Keys (st : Prs) (n : Nat) : Prop := ∀ p ∈ st, ∃ k : Nat, k < n ∧ p.1 = .int .i64 k

def isInt (a : Int) : Value → Bool
  | .int .i64 b => a == b
  | _ => false

theorem asks_int (st : Prs) (n : Nat) (hk : Keys st n) (a : Int) : Asks Ybaf.prog 3 (.int .i64 a) (isInt a) st := by
  refine ⟨fun w em => ck3 a w em, fun w p hp => ?_, _, Ybaf.underlying3, fun p hp => ?_⟩
  · obtain ⟨k, _, e⟩ := hk p hp
    rw [e]
    exact run_equalIn_int w 9999 3 .i64 .i64 a k Ybaf.underlying3
  · obtain ⟨k, _, e⟩ := hk p hp
    rw [e]
    exact .inr (by simp [Instr.sameNow, isInt])

theorem find_none {eq : Value → Bool} : ∀ (ps : Prs) (i : Nat), (∀ p ∈ ps, eq p.1 = false) → find eq ps i = none
  | [], _, _ => rfl
  | p :: ps, i, h => by
    simp only [find, h p (by simp)]
    exact find_none ps (i + 1) (fun q hq => h q (by simp [hq]))

theorem new_key (st : Prs) (n : Nat) (hk : Keys st n) : find (isInt (n : Int)) st 0 = none := by
  refine find_none st 0 fun p hp => ?_
  obtain ⟨k, hkn, e⟩ := hk p hp
  rw [e]
  simp [isInt]
  omega

theorem row_shape {w : World} {base n : Nat} {v : Value} {xs : List Value} (h : w.ownsRow base 9 1 v n xs) : ∃ ao cap, v = .slice ao n cap := by
  rcases h.2 with ⟨rfl, rfl⟩ | ⟨g, cap, cur, hv, _⟩
  · exact ⟨none, 0, rfl⟩
  · exact ⟨_, cap, hv⟩

theorem line_at (T0 A0 : Nat) (s : St F h n st (.iface T0 (.pointer (some ⟨A0, 0, none⟩))) 1 ret cont left nums w) (hks : Keys st n) (hn : n ≤ 1000000) {f : ByteArray} {a : Value} {ok : World → Prop} (hP : Prints F f a ok) (hok : ∀ w', Below (h + 3) w w' → (∀ k, h + 9 ≤ k → w'.heap[k]? = w.heap[k]?) → ok w') :
    Calls Ybaf.prog 9 #[.pointer (some ⟨h + 8, 0, none⟩), .string f, a] w fun e w' => e = .returned (.tuple #[]) ∧ St F h (n + 1) (st ++ [(.int .i64 n, .iface T0 (.pointer (some ⟨A0, 0, none⟩)))]) .nilIface 1 ret cont left nums w' ∧ Below (h + 3) w w' := by
  obtain ⟨v, xs, hc, ho⟩ := s.cells
  obtain ⟨ao, cap0, rfl⟩ := row_shape ho
  obtain ⟨w1, hup, hm1, ht1⟩ := upd_new (w := w.drew) (val := .iface T0 (.pointer (some ⟨A0, 0, none⟩))) s.drew.stn Ybaf.underlying86 (asks_int st n hks n) (new_key st n hks)
  have HS1 : Hid _ := s.drew.turnSt ht1 hm1
  have HB1 : Hid _ := (Below.refl (h + 3) w).drew.trans (turned_below ht1 (B := h + 3) (by omega))
  have HH1 : Hid (∀ k, h + 9 ≤ k → w1.heap[k]? = w.heap[k]?) := fun k hk => by
    have := turned_other (k := k) ht1 (by omega)
    exact this
  have h1 := hc.c14
  have h2 := hc.c5
  have h3 := hc.c13
  have h4 : w1.cell? ⟨h + 8, 14, none⟩ = some (.iface T0 (.pointer (some ⟨A0, 0, none⟩))) := by obtain ⟨_, _, hc', _⟩ := HS1.out.cells; exact hc'.c14
  have h5 : w1.frozen? ⟨h + 8, 14, none⟩ = false := by obtain ⟨_, _, hc', _⟩ := HS1.out.cells; exact hc'.fz 14
  have HO : Hid _ := hok
  clear s ho hc hm1 ht1 hok
  go_enter Ybaf.func9, Ybaf.ntmps9
  go_wp2_with fail
  go_region
  all_goals go_wp2_with fail
  have HS2 : Hid _ := HS1.out.setNext .nilIface
  have HB2 : Hid _ := HB1.out.setCell (p := ⟨h + 8, 14, none⟩) (by show h + 3 ≤ h + 8; omega) .nilIface
  have HOK : Hid _ := HO.out _ HB2.out (fun k hk => (Below.heap_setCell _ _ _ _ (by show k ≠ h + 8; omega)).trans (HH1.out k hk))
  revert HS2 HB2 HOK
  clear HS1 HB1 HH1 h4 h5 hup HO h1 h2 h3
  generalize w1.setCell ⟨h + 8, 14, none⟩ .nilIface = wz
  intro HS HB0 HOK
  clear w1
  obtain ⟨v, ys, hc, ho⟩ := HS.out.cells
  obtain ⟨sv, T, hT, hst, hpr⟩ := hP
  have h2 := hc.c5
  have h3 := hc.c6
  have h4 := hc.fz
  have HO : Hid _ := ho
  have HST : Hid _ := hst
  have HPR : Hid _ := hpr
  have HA : Hid _ := HS.out.ans
  clear ho hst hpr hc
  have q1 := (HPR.out wz.drew (HST.out wz _ rfl HOK.out) HA.out).1
  have q2 := (HPR.out wz.drew (HST.out wz _ rfl HOK.out) HA.out).2
  obtain ⟨g, cap, w1, xs1, q3, how1, hb1⟩ := append_line (w := wz.drew.drew) HO.out HS.out.size hn (⟨#[9]⟩ ++ T) 80
  have k1 : w1.cell? ⟨h + 8, 5, none⟩ = some v := (hb1.cell (p := ⟨h + 8, 5, none⟩) (by show h + 8 < h + 9; omega)).trans h2
  have k2 : w1.frozen? ⟨h + 8, 5, none⟩ = false := (hb1.frozen (p := ⟨h + 8, 5, none⟩) (by show h + 8 < h + 9; omega)).trans (h4 5)
  have HOW : Hid _ := how1
  have HB : Hid _ := hb1
  have Q1 : Hid _ := q1
  have Q2 : Hid _ := q2
  have Q3 : Hid _ := q3
  have k3 : ∀ o, (wz.alloc o).cell? ⟨h + 8, 5, none⟩ = some v := fun o => (World.cell?_alloc_past _ _ _ (by have := HS.out.size; omega)).trans h2
  have hT' : ¬ 9223372036854775807 < 1 + T.size := by omega
  clear how1 hb1 q1 q2 q3
  go_region_law (first | (refine step_repeat rfl _ _ _ rfl ⟨#[9]⟩ rfl rfl ?_) | (refine step_print rfl _ _ _ rfl f a rfl rfl sv T Q1.out Q2.out ?_) | (refine step_append rfl _ _ 80 rfl v _ _ w1 rfl rfl Q3.out ?_))
  all_goals go_end0
  all_goals exact ⟨rfl, HS.out.addLine (((Below.refl _ _).drew.drew).trans HB.out) HOW.out, HB0.out.trans ((((Below.refl _ _).drew.drew).trans (HB.out.mono (by omega))).setCell (p := ⟨h + 8, 5, none⟩) (by show h + 3 ≤ h + 8; omega) _)⟩
end
end Go.Proofs.YbulkwawFmt
