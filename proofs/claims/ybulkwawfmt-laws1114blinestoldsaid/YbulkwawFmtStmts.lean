/- 'stmt' at any of the ten kinds; 'stmts' over a list. -/
import Derived.Test.YbulkwawFmtStmt2
namespace Go.Proofs.YbulkwawFmt
open Go.RowKit Go.Extern.Stop Go.Stop Go.Extern
set_option linter.unusedVariables false
set_option maxRecDepth 100000
set_option maxHeartbeats 1000000

/-- What the body holds, in plain terms. -/
structure G where
  n : Nat
  st : Prs
  ret : Bool
  cont : Prs
  left : Prs
  nums : Prs
def G.start : G := ⟨0, [], false, [], [], []⟩
def stepG (lB tB : Nat) (g : G) (k : Nat) (x : Value) : G :=
  match k with
  | 0 => { g with n := g.n + 1, st := g.st ++ [(.int .i64 g.n, x)] }
  | 1 => { g with n := g.n + 1, st := g.st ++ [(.int .i64 g.n, x)] }
  | 2 => { g with n := g.n + 1 }
  | 3 => { g with n := g.n + 1, st := g.st ++ [(.int .i64 g.n, x)] }
  | 4 => { g with n := g.n + 1, cont := [(ptr lB, .bool true)], nums := addNum 30 lB g.nums }
  | 5 => { g with n := g.n + 1, ret := true }
  | 6 => { g with n := g.n + 1, left := [(stm 36 tB, .bool true)], nums := addNum 36 tB g.nums }
  | 7 => g
  | 8 => { g with n := g.n + 4 }
  | _ => { g with n := g.n + 1 }
def GOk (lB tB : Nat) (g : G) : Prop := Keys g.st g.n ∧ ContOk lB g.cont ∧ LeftOk tB g.left ∧ NumsOk lB tB g.nums
def SG (F : Interp) (h : Nat) (g : G) (w : World) : Prop := St F.told h g.n g.st .nilIface 1 g.ret g.cont g.left g.nums w

/-- The statement of kind k, in memory. -/
def IsStm (lo h cB lB tB : Nat) (w : World) (k : Nat) (x : Value) : Prop :=
  match k with
  | 0 => ∃ A, x = stm 43 A ∧ (lo ≤ A ∧ A < h) ∧ w.cell? ⟨A, 0, none⟩ = some (ptr cB)
  | 1 => ∃ A, x = stm 32 A ∧ (lo ≤ A ∧ A < h) ∧ w.cell? ⟨A, 0, none⟩ = some (ptr cB)
  | 2 => ∃ A, x = stm 47 A
  | 3 => ∃ A, x = stm 50 A ∧ (lo ≤ A ∧ A < h) ∧ w.cell? ⟨A, 0, none⟩ = some (ptr cB)
  | 4 => ∃ A, x = stm 53 A ∧ (lo ≤ A ∧ A < h) ∧ w.cell? ⟨A, 0, none⟩ = some (ptr lB)
  | 5 => ∃ A, x = stm 56 A ∧ (lo ≤ A ∧ A < h) ∧ w.cell? ⟨A, 0, none⟩ = some (.pointer none)
  | 6 => ∃ A, x = stm 60 A ∧ (lo ≤ A ∧ A < h) ∧ w.cell? ⟨A, 0, none⟩ = some (stm 36 tB)
  | 7 => ∃ A, x = stm 57 A ∧ (lo ≤ A ∧ A < h) ∧ w.cell? ⟨A, 1, none⟩ = some (.slice none 0 0)
  | 8 => ∃ A Bk, x = stm 65 A ∧ (lo ≤ A ∧ A < h) ∧ (lo ≤ Bk ∧ Bk < h) ∧ w.cell? ⟨A, 0, none⟩ = some (.slice (some ⟨Bk, 0, none⟩) 2 2) ∧ w.cell? ⟨A, 1, none⟩ = some (.pointer none) ∧ w.cell? ⟨Bk, 0, none⟩ = some (.slice none 0 0) ∧ w.cell? ⟨Bk, 1, none⟩ = some (.slice none 0 0)
  | _ => ∃ A, x = stm 70 A ∧ (lo ≤ A ∧ A < h) ∧ w.cell? ⟨A, 0, none⟩ = some (ptr cB)

theorem ten {k : Nat} (h : k < 10) : k = 0 ∨ k = 1 ∨ k = 2 ∨ k = 3 ∨ k = 4 ∨ k = 5 ∨ k = 6 ∨ k = 7 ∨ k = 8 ∨ k = 9 := by omega

theorem IsStm.keep {lo h h' cB lB tB k : Nat} {x : Value} {w w' : World} (hs : IsStm lo h cB lB tB w k x) (hk : k < 10) (hh : h ≤ h') (hb : ∀ j, lo ≤ j → j < h → w'.heap[j]? = w.heap[j]?) : IsStm lo h' cB lB tB w' k x := by
  have hc : ∀ (A o : Nat), (lo ≤ A ∧ A < h) → w'.cell? ⟨A, o, none⟩ = w.cell? ⟨A, o, none⟩ := fun A o hA => World.cell?_of_block (w := w) (hb A hA.1 hA.2)
  rcases ten hk with rfl | rfl | rfl | rfl | rfl | rfl | rfl | rfl | rfl | rfl
  · obtain ⟨A, e, hA, c⟩ := hs; exact ⟨A, e, by omega, (hc A 0 hA).trans c⟩
  · obtain ⟨A, e, hA, c⟩ := hs; exact ⟨A, e, by omega, (hc A 0 hA).trans c⟩
  · exact hs
  · obtain ⟨A, e, hA, c⟩ := hs; exact ⟨A, e, by omega, (hc A 0 hA).trans c⟩
  · obtain ⟨A, e, hA, c⟩ := hs; exact ⟨A, e, by omega, (hc A 0 hA).trans c⟩
  · obtain ⟨A, e, hA, c⟩ := hs; exact ⟨A, e, by omega, (hc A 0 hA).trans c⟩
  · obtain ⟨A, e, hA, c⟩ := hs; exact ⟨A, e, by omega, (hc A 0 hA).trans c⟩
  · obtain ⟨A, e, hA, c⟩ := hs; exact ⟨A, e, by omega, (hc A 1 hA).trans c⟩
  · obtain ⟨A, B, e, hA, hB, c0, c1, c2, c3⟩ := hs; exact ⟨A, B, e, by omega, by omega, (hc A 0 hA).trans c0, (hc A 1 hA).trans c1, (hc B 0 hB).trans c2, (hc B 1 hB).trans c3⟩
  · obtain ⟨A, e, hA, c⟩ := hs; exact ⟨A, e, by omega, (hc A 0 hA).trans c⟩

theorem Keys.more {st : Prs} {n m : Nat} (h : Keys st n) (hm : n ≤ m) : Keys st m := fun p hp => by
  obtain ⟨k, hk, e⟩ := h p hp
  exact ⟨k, by omega, e⟩
theorem Keys.snoc {st : Prs} {n : Nat} (h : Keys st n) (x : Value) : Keys (st ++ [(.int .i64 n, x)]) (n + 1) := fun p hp => by
  rcases List.mem_append.1 hp with hp | hp
  · obtain ⟨k, hk, e⟩ := h p hp
    exact ⟨k, by omega, e⟩
  · simp at hp
    exact ⟨n, by omega, by rw [hp]⟩

section
variable {F : Interp} {h : Nat} {g : G} {w : World} {lo cB lB tB : Nat}

theorem stmt_any (s : SG F h g w) (ok : GOk lB tB g) (hn : g.n ≤ 900000) (k : Nat) (hk : k < 10) (x : Value) (hx : IsStm lo h cB lB tB w k x) (hC : w.cell? ⟨cB, 4, none⟩ = some (.bool false)) (hcB : cB < h) :
    Calls Ybaf.prog 7 #[.pointer (some ⟨h + 8, 0, none⟩), x] w fun e w' => e = .returned (.tuple #[]) ∧ SG F h (stepG lB tB g k x) w' ∧ Below (h + 3) w w' ∧ GOk lB tB (stepG lB tB g k x) := by
  obtain ⟨hks, hkc, hkl, hkn⟩ := ok
  rcases ten hk with rfl | rfl | rfl | rfl | rfl | rfl | rfl | rfl | rfl | rfl
  · obtain ⟨A, rfl, hA, c⟩ := hx
    exact (stmt_send s (by omega) hks A c hC (by omega)).mono fun e w' ⟨h1, h2, h3⟩ => ⟨h1, h2, h3, hks.snoc _, hkc, hkl, hkn⟩
  · obtain ⟨A, rfl, hA, c⟩ := hx
    exact (stmt_recv s (by omega) hks A c hC (by omega)).mono fun e w' ⟨h1, h2, h3⟩ => ⟨h1, h2, h3, hks.snoc _, hkc, hkl, hkn⟩
  · obtain ⟨A, rfl⟩ := hx
    exact (stmt_time s (by omega) A).mono fun e w' ⟨h1, h2, h3⟩ => ⟨h1, h2, h3, hks.more (Nat.le_succ _), hkc, hkl, hkn⟩
  · obtain ⟨A, rfl, hA, c⟩ := hx
    exact (stmt_close s (by omega) hks A c).mono fun e w' ⟨h1, h2, h3⟩ => ⟨h1, h2, h3, hks.snoc _, hkc, hkl, hkn⟩
  · obtain ⟨A, rfl, hA, c⟩ := hx
    exact (stmt_cont s (by omega) hkc hkn A c (by omega)).mono fun e w' ⟨h1, h2, h3, h4⟩ => ⟨h1, h2, h3, hks.more (Nat.le_succ _), .inr rfl, hkl, h4⟩
  · obtain ⟨A, rfl, hA, c⟩ := hx
    exact (stmt_ret s (by omega) A c).mono fun e w' ⟨h1, h2, h3⟩ => ⟨h1, h2, h3, hks.more (Nat.le_succ _), hkc, hkl, hkn⟩
  · obtain ⟨A, rfl, hA, c⟩ := hx
    exact (stmt_break s (by omega) hkl hkn A c).mono fun e w' ⟨h1, h2, h3, h4⟩ => ⟨h1, h2, h3, hks.more (Nat.le_succ _), hkc, .inr rfl, h4⟩
  · obtain ⟨A, rfl, hA, c⟩ := hx
    exact (stmt_call s hkl A c).mono fun e w' ⟨h1, h2⟩ => ⟨h1, by rw [h2]; exact s, by rw [h2]; exact Below.refl _ _, hks, hkc, hkl, hkn⟩
  · obtain ⟨A, B, rfl, hA, hB, c0, c1, c2, c3⟩ := hx
    exact (stmt_choice s hn hkl A B c0 c1 c2 c3 (by omega)).mono fun e w' ⟨h1, h2, h3⟩ => ⟨h1, h2, h3, hks.more (Nat.le_add_right _ _), hkc, hkl, hkn⟩
  · obtain ⟨A, rfl, hA, c⟩ := hx
    exact (stmt_rearm s (by omega) A c).mono fun e w' ⟨h1, h2, h3⟩ => ⟨h1, h2, h3, hks.more (Nat.le_succ _), hkc, hkl, hkn⟩

/-- Behind i statements. -/
def runG (lB tB : Nat) (ks : List Nat) (xs : List Value) : Nat → G
  | 0 => G.start
  | i + 1 => stepG lB tB (runG lB tB ks xs i) (ks.getD i 0) (xs.getD i undef)

theorem step_n (lB tB : Nat) (g : G) (k : Nat) (x : Value) : (stepG lB tB g k x).n ≤ g.n + 4 := by
  unfold stepG
  split <;> simp
theorem run_n (lB tB : Nat) (ks : List Nat) (xs : List Value) : ∀ i, (runG lB tB ks xs i).n ≤ 4 * i
  | 0 => by simp [runG, G.start]
  | i + 1 => by
    have h1 := step_n lB tB (runG lB tB ks xs i) (ks.getD i 0) (xs.getD i undef)
    have h2 := run_n lB tB ks xs i
    simp only [runG]
    omega

theorem stmts_list (ks : List Nat) (xs : List Value) (m cap lb : Nat) (hm : m ≤ 1024) (s : SG F h G.start w) (ok : GOk lB tB G.start) (hk : ∀ i, i < m → ks.getD i 0 < 10)
    (hx : ∀ i, i < m → IsStm lo h cB lB tB w (ks.getD i 0) (xs.getD i undef)) (hl : ∀ i, i < m → w.cell? ⟨lb, i, none⟩ = some (xs.getD i undef)) (hlb : lb < h) (hC : w.cell? ⟨cB, 4, none⟩ = some (.bool false)) (hcB : cB < h) :
    Calls Ybaf.prog 6 #[.pointer (some ⟨h + 8, 0, none⟩), .slice (some ⟨lb, 0, none⟩) m cap] w fun e w' => e = .returned (.tuple #[]) ∧ SG F h (runG lB tB ks xs m) w' ∧ Below (h + 3) w w' ∧ GOk lB tB (runG lB tB ks xs m) := by
  have HS : Hid (SG F h G.start w) := s
  have HOK : Hid (GOk lB tB G.start) := ok
  have HK : Hid (∀ i, i < m → ks.getD i 0 < 10) := hk
  have HX : Hid (∀ i, i < m → IsStm lo h cB lB tB w (ks.getD i 0) (xs.getD i undef)) := hx
  have HL : Hid (∀ i, i < m → w.cell? ⟨lb, i, none⟩ = some (xs.getD i undef)) := hl
  have HC : Hid (w.cell? ⟨cB, 4, none⟩ = some (.bool false)) := hC
  clear s ok hk hx hl hC
  go_enter Ybaf.func6, Ybaf.ntmps6
  go_wp2
  go_loopw [8] (fun t wr => ∃ k : Nat, k ≤ m ∧ t = .int .i64 k ∧ Hid (SG F h (runG lB tB ks xs k) wr) ∧ Hid (Below (h + 3) w wr) ∧ Hid (GOk lB tB (runG lB tB ks xs k))) (fun t _ => m - (intOf t).toNat)
  case atStart => exact ⟨0, Nat.zero_le _, rfl, HS, Below.refl _ _, HOK⟩
  case round =>
    obtain ⟨k, hkm, rfl, HS1, HB1, HOK1⟩ := hrel
    by_cases hlt : k < m
    · have hck : wr.cell? ⟨lb, k, none⟩ = some (xs.getD k undef) := (HB1.out.cell (p := ⟨lb, k, none⟩) (by show lb < h + 3; omega)).trans (HL.out k hlt)
      have HXK : Hid (IsStm lo h cB lB tB wr (ks.getD k 0) (xs.getD k undef)) := (HX.out k hlt).keep (HK.out k hlt) (Nat.le_refl _) (fun j _ hj => HB1.out.block j (by omega))
      have HCK : Hid (wr.cell? ⟨cB, 4, none⟩ = some (.bool false)) := (HB1.out.cell (p := ⟨cB, 4, none⟩) (by show cB < h + 3; omega)).trans HC.out
      have HKK : Hid (ks.getD k 0 < 10) := HK.out k hlt
      have HRN : Hid ((runG lB tB ks xs k).n ≤ 900000) := by have := run_n lB tB ks xs k; show _ ≤ _; omega
      have HE : Hid (runG lB tB ks xs (k + 1) = stepG lB tB (runG lB tB ks xs k) (ks.getD k 0) (xs.getD k undef)) := rfl
      revert hck HXK HE
      generalize xs.getD k undef = x
      intro hck HXK HE
      go_wp2_with fail
      refine (stmt_any HS1.out HOK1.out HRN.out _ HKK.out x HXK.out HCK.out hcB).mono ?_
      rintro e w2 ⟨rfl, s2, hb2, ok2⟩
      rw [← HE.out] at s2 ok2
      have HS2 : Hid (SG F h (runG lB tB ks xs (k + 1)) w2) := s2
      have HB2 : Hid (Below (h + 3) w w2) := HB1.out.trans hb2
      have HOK2 : Hid (GOk lB tB (runG lB tB ks xs (k + 1))) := ok2
      clear s2 hb2 ok2
      go_wp2
      go_roundw
      case rel => exact ⟨k + 1, by omega, by go_num, HS2, HB2, HOK2⟩
      case measure => simp [intOf]; omega
    · obtain rfl : k = m := by omega
      go_wp2
      go_end0
      exact ⟨rfl, HS1.out, HB1.out, HOK1.out⟩
end
end Go.Proofs.YbulkwawFmt
