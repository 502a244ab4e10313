/- The walk of the law 'LawS1099AEncodes' (func 3). -/
import Derived.Test.YbulkvsuFmtNested
import Derived.Laws.CopyOwn
namespace Go.Proofs.YbulkvsuFmt
open Go.RowKit Go.Extern.Stop Go.Stop Go.Extern
set_option linter.unusedVariables false

theorem new_any (v : Value) (hv : ∃ a n c, v = .slice a n c) (w : World) :
    Calls Ybaf.prog 4 #[v] w fun e w' => e = .returned (.agg #[v, .nilIface]) ∧ w' = w.alloc (.cells #[v, .nilIface] 30) := by
  obtain ⟨a, n, c, rfl⟩ := hv
  go_enter Ybaf.func4, Ybaf.ntmps4
  go_wp2
  exact bodyPost_ret (v := .agg #[.slice a n c, .nilIface]) (by simp [results, Ybaf.results4, go_sem]) rfl ⟨rfl, rfl⟩

theorem result_ok (EB : Nat) (v : Value) (w : World) (h0 : w.cell? ⟨EB, 0, none⟩ = some v) (h1 : w.cell? ⟨EB, 1, none⟩ = some .nilIface) :
    Calls Ybaf.prog 6 #[.pointer (some ⟨EB, 0, none⟩)] w fun e w' => e = .returned (.tuple #[v, .nilIface]) ∧ w' = w := by
  go_enter Ybaf.func6, Ybaf.ntmps6
  go_wp2
  go_ret2
  exact ⟨rfl, rfl⟩

theorem result_err (EB : Nat) (a : Addr) (w : World) (h1 : w.cell? ⟨EB, 1, none⟩ = some (.iface 52 (.pointer (some a)))) :
    Calls Ybaf.prog 6 #[.pointer (some ⟨EB, 0, none⟩)] w fun e w' => e = .returned (.tuple #[.slice none 0 0, .iface 52 (.pointer (some a))]) ∧ w' = w.drew := by
  go_enter Ybaf.func6, Ybaf.ntmps6
  go_wp2
  go_region
  all_goals go_wp2
  all_goals go_ret2
  all_goals exact ⟨rfl, rfl⟩

theorem Start.alloc {w : World} {EB B0 n : Nat} {xs : List Int} (h : Start w EB B0 n xs) (o : Obj) : Start (w.alloc o) EB B0 n xs := by
  obtain ⟨c0, c1, fz, hlen, hcells, hlt, hbd⟩ := h
  exact ⟨(World.cell?_alloc_past _ _ _ hlt.1).trans c0, (World.cell?_alloc_past _ _ _ hlt.1).trans c1, fun q => (World.frozen?_alloc_past _ _ _ hlt.1).trans (fz q), hlen, fun j hj => (World.cell?_alloc_past _ _ _ hlt.2).trans (hcells j hj), by simp; omega, hbd⟩
theorem Codes.alloc {w : World} {EB SG m : Nat} {cs : List Int} (h : Codes w EB SG m cs) (o : Obj) : Codes (w.alloc o) EB SG m cs := by
  obtain ⟨a, b, c, d, e⟩ := h
  exact ⟨a, b, fun j hj => (World.cell?_alloc_past _ _ _ e.1).trans (c j hj), d, by simp; omega, e.2⟩

set_option maxRecDepth 100000 in
theorem write_ok (EB B0 n SG m : Nat) (xs cs : List Int) (w : World) (hs : Start w EB B0 n xs) (hc : Codes w EB SG m cs) (hm0 : 0 < m) :
    Calls Ybaf.prog 5 #[.pointer (some ⟨EB, 0, none⟩), .slice (some ⟨SG, 0, none⟩) m m] w fun e w' =>
      ∃ v base, e = .returned (.tuple #[]) ∧ w.heap.size ≤ base ∧ Enc w' EB base v (xs ++ [2 * (m : Int) / 256, 2 * (m : Int) % 256] ++ wireOf cs) ∧ But EB w.heap.size w w' := by
  have hmf : ∀ (fn : Fn) (first cap : Array Value) (w : World), (Instr.makeFunc fn first cap).run Ybaf.prog w = .ok (.func fn first cap) w := fun _ _ _ _ => rfl
  have hlt := hs.lt.1
  go_enter Ybaf.func5, Ybaf.ntmps5
  go_wp2_with fail
  refine (nested_ok EB B0 n w.heap.size SG m _ xs cs _ (hs.alloc _) (hc.alloc _) hm0 (by simp; omega) (by rw [World.cell?_alloc_at _ _ _ _ rfl]; rfl)).mono ?_
  rintro e w1 ⟨v, rfl, hE, hb⟩
  go_wp2
  go_end0
  exact ⟨v, _, rfl, by simp, hE, (But.of_below ((Below.refl _ _).alloc (Nat.le_refl _) _)).trans (hb.mono (by simp))⟩

set_option maxRecDepth 100000 in
theorem write_short (F : Interp) (EB B0 n SG : Nat) (xs : List Int) (w : World) (hF : F.answers w.tape) (hs : Start w EB B0 n xs) (hc : Codes w EB SG 0 []) :
    Calls Ybaf.prog 5 #[.pointer (some ⟨EB, 0, none⟩), .slice (some ⟨SG, 0, none⟩) 0 0] w fun e w' =>
      ∃ a, e = .returned (.tuple #[]) ∧ w'.cell? ⟨EB, 1, none⟩ = some (.iface 52 (.pointer (some a))) ∧ But EB w.heap.size w w' := by
  have hmf : ∀ (fn : Fn) (first cap : Array Value) (w : World), (Instr.makeFunc fn first cap).run Ybaf.prog w = .ok (.func fn first cap) w := fun _ _ _ _ => rfl
  have hlt := hs.lt.1
  go_enter Ybaf.func5, Ybaf.ntmps5
  go_wp2_with fail
  refine (nested_short F EB B0 n w.heap.size SG _ xs _ (by exact hF) (hs.alloc _) (hc.alloc _) (by simp; omega) (by rw [World.cell?_alloc_at _ _ _ _ rfl]; rfl)).mono ?_
  rintro e w1 ⟨a, rfl, hE, hb⟩
  go_wp2
  go_end0
  exact ⟨a, rfl, hE, (But.of_below ((Below.refl _ _).alloc (Nat.le_refl _) _)).trans (hb.mono (by simp))⟩

/-- What the law is told of the slice ahead. -/
structure PrefixOk (w : World) (a : Option Addr) (n cap : Nat) (xs : List Int) : Prop where
  len : xs.length = n
  isNil : a = none → n = 0 ∧ cap = 0
  at_ : ∀ ad, a = some ad → ∀ j u, (B8 xs)[j]? = some u → w.cell? (ad.add j) = some u ∧ ad.block < w.heap.size

/-- What the law is told of 'codes'. -/
structure CodesOk (w : World) (a : Option Addr) (m : Nat) (cs : List Int) : Prop where
  len : m = cs.length
  mem : m = 0 ∨ ∃ b off, a = some ⟨b, off, none⟩ ∧ b < w.heap.size ∧ ∀ j, j < m → w.cell? ⟨b, off + j, none⟩ = some (.int .u16 (cs.getD j 0))
  vals : ∀ j, j < m → 0 ≤ cs.getD j 0 ∧ cs.getD j 0 ≤ 65535

theorem make22 (n : Nat) (hn : n ≤ 1024) (w : World) : (Instr.makeSlice 22 (.int .i64 (n : Int)) (.int .i64 (n : Int))).run Ybaf.prog w = .ok (.slice (some ⟨w.heap.size, 0, none⟩) n n) (w.alloc (.cells (madeCells #[.int .u8 0] n) 5)) := by
  obtain ⟨i0, hi, hz0, hz1, hz2⟩ := info_parts info5
  have hr := run_make (P := Ybaf.prog) w 22 5 i0 (.int .u8 0) Ybaf.underlying22 hi hz0 .i64 .i64 n n (by omega) (Int.le_refl _) (by rw [hz2]; omega) (by omega)
  rw [hr, hz1]
  simp [Value.cells]

theorem make24 (m : Nat) (hm : m ≤ 1024) (w : World) : (Instr.makeSlice 24 (.int .i64 (m : Int)) (.int .i64 (m : Int))).run Ybaf.prog w = .ok (.slice (some ⟨w.heap.size, 0, none⟩) m m) (w.alloc (.cells (madeCells #[.int .u16 0] m) 26)) := by
  obtain ⟨i0, hi, hz0, hz1, hz2⟩ := info_parts info26
  have hr := run_make (P := Ybaf.prog) w 24 26 i0 (.int .u16 0) Ybaf.underlying24 hi hz0 .i64 .i64 m m (by omega) (Int.le_refl _) (by rw [hz2]; omega) (by omega)
  rw [hr, hz1]
  simp [Value.cells]

theorem equal_any (g0 c0 g1 c1 n : Nat) (zs : List Int) (w : World) (hz : zs.length = n) (h0 : ∀ i, i < n → w.cell? ⟨g0, 0 + i, none⟩ = some (.int .u8 (zs.getD i 0))) (h1 : ∀ i, i < n → w.cell? ⟨g1, 0 + i, none⟩ = some (.int .u8 (zs.getD i 0))) :
    Calls Ybaf.prog 7 #[.slice (some ⟨g0, 0, none⟩) n c0, .slice (some ⟨g1, 0, none⟩) n c1] w fun e w' => e = .returned (.bool true) ∧ w' = w := by
  have k0 := run_convert_bytes_arg (P := Ybaf.prog) w 22 5 Ybaf.underlying22 Ybaf.underlying5 g0 0 n c0 zs hz h0 9 Ybaf.underlying9
  have k1 := run_convert_bytes_arg (P := Ybaf.prog) w 22 5 Ybaf.underlying22 Ybaf.underlying5 g1 0 n c1 zs hz h1 9 Ybaf.underlying9
  clear h0 h1
  go_enter Ybaf.func7, Ybaf.ntmps7
  go_wp2
  go_ret
  exact ⟨by simp, rfl⟩

theorem size5 : (Ybaf.prog.info? 5).map (·.size) = some 1 := by kernel_rfl

/-- 'copy' of the slice ahead into the new row: the row holds it. -/
theorem copy_pre (a0 : Option Addr) (n cap0 : Nat) (xs : List Int) (w : World) (hp : PrefixOk w a0 n cap0 xs) :
    ∃ w1, (Builtin.copy_ #[22, 22] 3 #[.slice (some ⟨w.heap.size, 0, none⟩) n n, .slice a0 n cap0]).run Ybaf.prog (w.alloc (.cells (madeCells #[.int .u8 0] n) 5)) = .ok (.int .i64 n) w1 ∧
      (∀ j, j < n → w1.cell? ⟨w.heap.size, j, none⟩ = some (.int .u8 (xs.getD j 0))) ∧ w1.heap.size = w.heap.size + 1 ∧ Below w.heap.size w w1 := by
  have hb0 : Below w.heap.size w (w.alloc (.cells (madeCells #[.int .u8 0] n) 5)) := (Below.refl _ _).alloc (Nat.le_refl _) _
  by_cases h0 : n = 0
  · subst h0
    exact ⟨_, run_copy_none (P := Ybaf.prog) _ 22 22 3 5 _ _ 0 0 0 cap0 Ybaf.underlying22 size5 rfl, fun j hj => absurd hj (by omega), by simp, hb0⟩
  · cases ha : a0 with
    | none => exact absurd (hp.isNil ha).1 h0
    | some ad =>
      have hsrc : ∀ j v, (B8 xs)[j]? = some v → (w.alloc (.cells (madeCells #[.int .u8 0] n) 5)).cell? (ad.add j) = some v := by
        intro j v hj
        obtain ⟨h1, h2⟩ := hp.at_ ad ha j v hj
        have h3 : (ad.add j).block = ad.block := by simp only [Addr.add]; split <;> rfl
        rw [hb0.cell (p := ad.add j) (by rw [h3]; exact h2)]
        exact h1
      have hg : (w.alloc (.cells (madeCells #[.int .u8 0] n) 5)).heap[w.heap.size]? = some (.cells (madeCells #[.int .u8 0] n) 5 (0, 0)) := heap_alloc_new w _
      have hl : (B8 xs).length = n := by rw [B8_length]; exact hp.len
      have hrun := run_copy_row (P := Ybaf.prog) _ 22 22 3 5 w.heap.size 0 n n ad n cap0 (madeCells #[.int .u8 0] n) 5 (B8 xs) Ybaf.underlying22 size5 hg (by rw [hl]; simp) hsrc (by rw [hl, size_madeCells]; omega) (B8_one _)
      refine ⟨_, by rw [hrun, hl]; rfl, ?_, by simp [World.setRow], below_setRow hb0 (Nat.le_refl _) _⟩
      intro j hj
      have hrow := setRow_heap (w.alloc (.cells (madeCells #[.int .u8 0] n) 5)) w.heap.size _ ((madeCells #[.int .u8 0] n).toList.take 0 ++ B8 xs ++ (madeCells #[.int .u8 0] n).toList.drop (0 + (B8 xs).length)).toArray 5 _ hg
      rw [hl] at hrow
      simp only [World.cell?, hrow]
      have hd : (madeCells #[.int .u8 0] n).toList.drop (0 + n) = [] := List.drop_eq_nil_of_le (by simp [size_madeCells])
      rw [hd]
      have := B8_get xs j (by rw [hp.len]; exact hj)
      simpa using this

/-- The schemes' row as the first loop fills it: below k it is filled. -/
structure Fill (w1 wr : World) (m : Nat) (cs : List Int) (k : Nat) : Prop where
  cell : ∀ j, j < m → wr.cell? ⟨w1.heap.size, j, none⟩ = some (.int .u16 (if j < k then cs.getD j 0 else 0))
  frozen : ∀ o, wr.frozen? ⟨w1.heap.size, o, none⟩ = false
  size : wr.heap.size = w1.heap.size + 1
  bel : Below w1.heap.size w1 wr

theorem fill_begin (w1 : World) (m : Nat) (cs : List Int) : Fill w1 (w1.alloc (.cells (madeCells #[.int .u16 0] m) 26)) m cs 0 := by
  refine ⟨fun j hj => ?_, fun o => World.frozen?_alloc_at _ _ _ _ rfl, by simp, (Below.refl _ _).alloc (Nat.le_refl _) _⟩
  rw [World.cell?_alloc_at _ _ _ _ rfl]
  simp only [madeCells, Array.getElem?_map]
  rw [Array.getElem?_range, if_pos hj]
  have e : (#[Value.int .u16 0] : Array Value).size = 1 := rfl
  simp only [Option.map_some, e, Nat.mod_one]
  rfl

theorem Fill.step {w1 wr : World} {m : Nat} {cs : List Int} {k : Nat} (h : Fill w1 wr m cs k) (hk : k < m) (x : Int) (hx : x = cs.getD k 0) : Fill w1 (wr.setCell ⟨w1.heap.size, k, none⟩ (.int .u16 x)) m cs (k + 1) := by
  obtain ⟨h1, h2, h3, h4⟩ := h
  refine ⟨fun j hj => ?_, fun o => by rw [World.frozen?_setCell]; exact h2 o, by simpa [World.setCell] using h3, h4.setCell (Nat.le_refl _) _⟩
  by_cases e : j = k
  · subst e
    rw [World.cell?_setCell_same _ _ _ (h1 j hj), if_pos (by omega), hx]
  · rw [World.cell?_setCell_other _ _ _ _ (by simp only [ne_eq, Addr.mk.injEq, true_and, and_true]; omega), h1 j hj]
    by_cases e2 : j < k
    · rw [if_pos e2, if_pos (by omega)]
    · rw [if_neg e2, if_neg (by omega)]

theorem PrefixOk.cells {w w' : World} {a : Option Addr} {n cap : Nat} {xs : List Int} (h : PrefixOk w a n cap xs) (hb : Below w.heap.size w w') : ∀ ad, a = some ad → ∀ j u, (B8 xs)[j]? = some u → w'.cell? (ad.add j) = some u := by
  intro ad ha j u hj
  obtain ⟨h1, h2⟩ := h.at_ ad ha j u hj
  have h3 : (ad.add j).block = ad.block := by simp only [Addr.add]; split <;> rfl
  rw [hb.cell (p := ad.add j) (by rw [h3]; exact h2)]
  exact h1

theorem below_row {w w' : World} {base g : Nat} (hg : w.grownBy w' (some g)) (h1 : base ≤ g) (h2 : base ≤ w.heap.size) : Below base w w' :=
  ⟨hg.os, hg.tape, hg.output, hg.size, fun k hk => hg.block k (by omega) (by simp; omega)⟩

theorem cells_of_own {w w' : World} {base g L cap : Nat} {zs : List Int} (h : w.ownsRow base 5 1 (.slice (some ⟨g, 0, none⟩) L cap) L (B8 zs)) (hz : zs.length = L) (hb : Below w.heap.size w w') (hg : g < w.heap.size) : ∀ i, i < L → w'.cell? ⟨g, 0 + i, none⟩ = some (.int .u8 (zs.getD i 0)) := by
  intro i hi
  rw [Nat.zero_add, hb.cell (p := ⟨g, i, none⟩) hg, h.cellAt i (by omega), B8_get zs i (by omega)]

set_option maxRecDepth 100000 in
set_option maxHeartbeats 2000000 in
theorem encodesLaw (F : Interp) (a0 : Option Addr) (n cap0 : Nat) (xs : List Int) (a1 : Option Addr) (m cap1 : Nat) (cs : List Int) (w : World) (hF : F.answers w.tape) (hn : n ≤ 1024) (hm : m ≤ 1024) (hp : PrefixOk w a0 n cap0 xs) (hq : CodesOk w a1 m cs) :
    Calls Ybaf.prog 3 #[.slice a0 n cap0, .slice a1 m cap1] w fun e w' => e = .returned (.bool true) ∧ Below w.heap.size w w' := by
  have g0 : ¬ (1024 : Int) < (n : Int) := by omega
  have g1 : ¬ (1024 : Int) < (m : Int) := by omega
  have hmk22 := make22 n hn
  have hmk24 := make24 m hm
  obtain ⟨w1, hcp, hb0, hs1, hbl1⟩ := copy_pre a0 n cap0 xs w hp
  have HB0 : Hid (∀ j, j < n → w1.cell? ⟨w.heap.size, j, none⟩ = some (.int .u8 (xs.getD j 0))) := hb0
  have HP : Hid (PrefixOk w a0 n cap0 xs) := hp
  have HQ : Hid (CodesOk w a1 m cs) := hq
  clear hp hq hb0
  go_enter Ybaf.func3, Ybaf.ntmps3
  go_wp2
  have HF0 := fill_begin w1 m cs
  go_loopw [35] (fun t wr => ∃ k : Nat, k ≤ m ∧ t = .int .i64 k ∧ Hid (Fill w1 wr m cs k)) (fun t _ => m - (intOf t).toNat)
  case atStart => exact ⟨0, Nat.zero_le _, rfl, HF0⟩
  case round =>
    obtain ⟨k, hk, rfl, HFk⟩ := hrel
    clear HF0 hmk22 hmk24 hcp
    by_cases hlt : k < m
    · rcases HQ.out.mem with h | ⟨b1, off1, rfl, hb1, hc1⟩
      · omega
      have hs1' := hbl1.size
      have hck : wr.cell? ⟨b1, off1 + k, none⟩ = some (.int .u16 (cs.getD k 0)) := (HFk.out.bel.cell (p := ⟨b1, off1 + k, none⟩) (by simp; omega)).trans ((hbl1.cell (p := ⟨b1, off1 + k, none⟩) hb1).trans (hc1 k hlt))
      have hsc := HFk.out.cell k hlt
      have hsf := HFk.out.frozen
      have hkm : (k : Int) < (m : Int) := by omega
      obtain ⟨x, hx⟩ : ∃ x, x = cs.getD k 0 := ⟨_, rfl⟩
      rw [← hx] at hck
      have HS := HFk.out.step hlt x hx
      have HS' : Hid (Fill w1 (wr.setCell ⟨w.heap.size + 1, k, none⟩ (.int .u16 x)) m cs (k + 1)) := by rw [hs1] at HS; exact HS
      simp only [Nat.lt_irrefl, if_false] at hsc
      clear hx hc1 HS
      rw [hs1] at hsc hsf
      go_wp2
      go_roundw
      case rel => exact ⟨k + 1, by omega, by go_num, HS'⟩
      case measure => simp [intOf]; omega
    · have hkm : k = m := by omega
      subst hkm
      have hfs := HFk.out.size
      rw [hs1] at hfs
      have hST : Start ((wr.alloc (.cells #[.slice (some ⟨w.heap.size, 0, none⟩) n n, .nilIface] 30)).alloc (.cells #[.slice (some ⟨w.heap.size, 0, none⟩) n n, .nilIface] 30)) (w.heap.size + 1 + 1 + 1) w.heap.size n xs := by
        have e1 : w.heap.size + 1 + 1 + 1 = (wr.alloc (.cells #[.slice (some ⟨w.heap.size, 0, none⟩) n n, .nilIface] 30)).heap.size := by simp [hfs]
        refine ⟨by rw [World.cell?_alloc_at _ _ _ _ e1]; rfl, by rw [World.cell?_alloc_at _ _ _ _ e1]; rfl, fun o => World.frozen?_alloc_at _ _ _ _ e1, HP.out.len, fun j hj => ?_, by simp; omega, hn⟩
        rw [World.cell?_alloc_past _ _ _ (by simp; omega), World.cell?_alloc_past _ _ _ (by omega)]
        exact (HFk.out.bel.cell (p := ⟨w.heap.size, j, none⟩) (by simp; omega)).trans (HB0.out j hj)
      have hCD : Codes ((wr.alloc (.cells #[.slice (some ⟨w.heap.size, 0, none⟩) n n, .nilIface] 30)).alloc (.cells #[.slice (some ⟨w.heap.size, 0, none⟩) n n, .nilIface] 30)) (w.heap.size + 1 + 1 + 1) (w.heap.size + 1) k cs := by
        refine ⟨HQ.out.len, hm, fun j hj => ?_, HQ.out.vals, by simp; omega, by omega⟩
        rw [World.cell?_alloc_past _ _ _ (by simp; omega), World.cell?_alloc_past _ _ _ (by omega)]
        have := HFk.out.cell j hj
        rw [hs1, if_pos hj] at this
        exact this
      have hBW : Below w.heap.size w ((wr.alloc (.cells #[.slice (some ⟨w.heap.size, 0, none⟩) n n, .nilIface] 30)).alloc (.cells #[.slice (some ⟨w.heap.size, 0, none⟩) n n, .nilIface] 30)) :=
        ((hbl1.trans (HFk.out.bel.mono (by omega))).alloc (by omega) _).alloc (by simp; omega) _
      have hWs : w.heap.size + 1 + 1 + 1 + 1 = ((wr.alloc (.cells #[.slice (some ⟨w.heap.size, 0, none⟩) n n, .nilIface] 30)).alloc (.cells #[.slice (some ⟨w.heap.size, 0, none⟩) n n, .nilIface] 30)).heap.size := by simp [hfs]
      have HST : Hid _ := hST
      have HCD : Hid _ := hCD
      have HWS : Hid _ := hWs
      clear hST hCD HFk hWs
      go_wp2_with (go_at_call 4; refine (new_any _ ⟨_, _, _, rfl⟩ _).mono ?_; rintro e w' ⟨rfl, rfl⟩)
      by_cases hk0 : k = 0
      · subst hk0
        have hcs : cs = [] := List.length_eq_zero_iff.1 HQ.out.len.symm
        subst hcs
        refine (write_short F (w.heap.size + 1 + 1 + 1) w.heap.size n (w.heap.size + 1) xs _ (by rw [hBW.tape]; exact hF) HST.out HCD.out).mono ?_
        rintro e w4 ⟨a, rfl, hc4, hb4⟩
        have hbw4 : Below w.heap.size w w4 := hBW.trans (hb4.below (by omega) (by rw [← HWS.out]; omega))
        clear hBW hb4
        go_wp2_with fail
        refine (result_err (w.heap.size + 1 + 1 + 1) a _ hc4).mono ?_
        rintro e w5 ⟨rfl, rfl⟩
        go_wp2
        go_ret
        exact ⟨rfl, hbw4.drew⟩
      · have hk0' : ((k : Int) == 0) = false := beq_eq_false_iff_ne.2 (by omega)
        refine (write_ok (w.heap.size + 1 + 1 + 1) w.heap.size n (w.heap.size + 1) k xs cs _ HST.out HCD.out (by omega)).mono ?_
        rintro e w4 ⟨v, base, rfl, hbs, hE, hb4⟩
        have hbw4 : Below w.heap.size w w4 := hBW.trans (hb4.below (by omega) (by rw [← HWS.out]; omega))
        clear hBW hb4
        have d0 := hE.c0
        have d1 := hE.c1
        go_wp2_with fail
        refine (result_ok (w.heap.size + 1 + 1 + 1) v _ d0 d1).mono ?_
        rintro e w5 ⟨rfl, hw5⟩
        subst hw5
        have HE : Hid _ := hE
        clear hE
        rcases HQ.out.mem with h | ⟨b1, off1, rfl, hb1, hc1⟩
        · exact absurd h hk0
        have HC1 : Hid (∀ j, j < k → w5.cell? ⟨b1, off1 + j, none⟩ = some (.int .u16 (cs.getD j 0))) := fun j hj => (hbw4.cell (p := ⟨b1, off1 + j, none⟩) hb1).trans (hc1 j hj)
        have hb1s : b1 < w5.heap.size := by have := hbw4.size; omega
        have HPC : Hid (∀ w', Below w5.heap.size w5 w' → ∀ ad, a0 = some ad → ∀ j u, (B8 xs)[j]? = some u → w'.cell? (ad.add j) = some u) := fun w' hb => HP.out.cells (hbw4.trans (hb.mono hbw4.size))
        have hxl : (B8 xs).length = n * 1 := by rw [B8_length, HP.out.len]; omega
        have hnn := HP.out.isNil
        have HNN : Hid (a0 = none → n = 0 ∧ cap0 = 0) := hnn
        obtain ⟨i0, hi, hz0, hz1, hz2⟩ := info_parts info5
        clear hc1 hnn d0 d1 HB0 HST HCD
        go_wp2_with (first | (at_make; refine wpList_make_own _ rfl _ _ 22 rfl w5.heap.size 5 i0 (.int .u8 0) 1 Ybaf.underlying22 hi hz0 hz1 _ _ _ (n + 2 + 2 * k) rfl rfl (by omega) (by rw [hz2]; omega) (by unfold maxLen; omega) (Nat.le_refl _) ?_; intro w6 hown6 hgrow6; have B6 : Below w5.heap.size w5 w6 := (Below.refl _ _).grown hgrow6 (Nat.le_refl _) (fun k hk => by cases hk)) | (at_builtin; refine wpList_append_fits_any _ rfl (.tmp 68) (.tmp 69) 22 rfl w5.heap.size 5 i0 1 Ybaf.underlying22 hi hz1 w5.heap.size 0 (n + 2 + 2 * k) [] rfl hown6 a0 n cap0 (B8 xs) rfl hxl HNN.out (HPC.out _ B6) (B8_one _) (by omega) ?_; intro w7 hown7 hgrow7; simp only [Nat.zero_add, List.nil_append] at hown7; have B7 : Below w5.heap.size w5 w7 := B6.trans (below_row hgrow7 (Nat.le_refl _) B6.size)) | (at_builtin; refine wpList_append_fits _ rfl (.tmp 74) (.tmp 80) 22 rfl w5.heap.size 5 i0 1 Ybaf.underlying22 hi hz1 w5.heap.size n (n + 2 + 2 * k) (B8 xs) rfl (hown7.alloc _) ⟨w7.heap.size, 0, none⟩ 2 2 (B8 [2 * (k : Int) / 256, 2 * (k : Int) % 256]) rfl rfl (cells_new _ _ rfl #[.int .u8 (2 * (k : Int) / 256), .int .u8 (2 * (k : Int) % 256)] 5) (B8_one _) (by omega) ?_; intro w8 hown8 hgrow8; have B8' : Below w5.heap.size w5 w8 := (B7.alloc B7.size _).trans (below_row hgrow8 (Nat.le_refl _) (by have := B7.size; simp; omega))))
        have OW8 : Hid (w8.ownsRow w5.heap.size 5 1 (.slice (some ⟨w5.heap.size, 0, none⟩) (n + 2 + 2 * 0) (n + 2 + 2 * k)) (n + 2 + 2 * 0) (B8 (xs ++ [2 * (k : Int) / 256, 2 * (k : Int) % 256] ++ wireOf (cs.take 0)))) := by
          show w8.ownsRow _ _ _ _ _ _
          simpa [B8_append, wireOf] using hown8
        clear hown6 hown7 hown8 hgrow6 hgrow7 hgrow8 B6 B7 hxl
        go_loopw [12, 84] (fun t12 t wq => ∃ j : Nat, j ≤ k ∧ t = .int .i64 j ∧ t12 = .slice (some ⟨w5.heap.size, 0, none⟩) (n + 2 + 2 * j) (n + 2 + 2 * k) ∧
            Hid (wq.ownsRow w5.heap.size 5 1 (.slice (some ⟨w5.heap.size, 0, none⟩) (n + 2 + 2 * j) (n + 2 + 2 * k)) (n + 2 + 2 * j) (B8 (xs ++ [2 * (k : Int) / 256, 2 * (k : Int) % 256] ++ wireOf (cs.take j)))) ∧ Below w5.heap.size w5 wq)
          (fun _ t _ => k - (intOf t).toNat)
        case atStart => exact ⟨0, Nat.zero_le _, rfl, rfl, OW8, B8'⟩
        case round =>
          obtain ⟨j, hj, rfl, rfl, OWj, Bj⟩ := hrel
          clear OW8 B8'
          by_cases hjk : j < k
          · have hck : wr.cell? ⟨b1, off1 + j, none⟩ = some (.int .u16 (cs.getD j 0)) := (Bj.cell (p := ⟨b1, off1 + j, none⟩) hb1s).trans (HC1.out j hjk)
            have hxk := HQ.out.vals j hjk
            have hsn := wireOf_snoc cs j (by rw [← HQ.out.len]; exact hjk)
            obtain ⟨x, hx⟩ : ∃ x, x = cs.getD j 0 := ⟨_, rfl⟩
            rw [← hx] at hck hxk hsn
            have HSN : Hid (wireOf (cs.take (j + 1)) = wireOf (cs.take j) ++ [x / 256, x % 256]) := hsn
            have hjk' : (j : Int) < (k : Int) := by omega
            have hbs := Bj.size
            clear hx hsn
            go_wp2_with (at_builtin; refine wpList_append_fits _ rfl (.tmp 88) (.tmp 94) 22 rfl w5.heap.size 5 i0 1 Ybaf.underlying22 hi hz1 w5.heap.size (n + 2 + 2 * j) (n + 2 + 2 * k) _ rfl (OWj.out.alloc _) ⟨wr.heap.size, 0, none⟩ 2 2 (B8 [x / 256, x % 256]) rfl rfl (cells_new _ _ rfl #[.int .u8 (x / 256), .int .u8 (x % 256)] 5) (B8_one _) (by omega) ?_; intro w9 hown9 hgrow9)
            have OW9 : Hid (w9.ownsRow w5.heap.size 5 1 (.slice (some ⟨w5.heap.size, 0, none⟩) (n + 2 + 2 * (j + 1)) (n + 2 + 2 * k)) (n + 2 + 2 * (j + 1)) (B8 (xs ++ [2 * (k : Int) / 256, 2 * (k : Int) % 256] ++ wireOf (cs.take (j + 1))))) := by
              rw [HSN.out, ← List.append_assoc, B8_append]
              exact hown9
            have B9 : Below w5.heap.size w5 w9 := (Bj.alloc Bj.size _).trans (below_row hgrow9 (Nat.le_refl _) (by simp; omega))
            clear hown9 hgrow9 OWj
            go_wp2
            go_roundw
            case rel => exact ⟨j + 1, by omega, by go_num, rfl, OW9, B9⟩
            case measure => simp [intOf]; omega
          · have hjj : j = k := by omega
            subst hjj
            have hwl := wireOf_length cs
            have hlx := HP.out.len
            have hlc := HQ.out.len
            have hzl : (xs ++ [2 * (j : Int) / 256, 2 * (j : Int) % 256] ++ wireOf cs).length = n + 2 + 2 * j := by simp [hwl, hlx, ← hlc]; omega
            have hE := HE.out.own
            rw [hzl] at hE
            obtain ⟨gv, cv, hv, hgv, hgs, _⟩ := own_shape hE (by omega)
            rw [hv] at hE
            have ce1 := cells_of_own hE hzl Bj hgs
            have hOW := OWj.out
            rw [hlc, List.take_length, ← hlc] at hOW
            have ce2 := cells_of_own hOW hzl (Below.refl _ wr) ((hOW.lt _ rfl).2)
            have HCE1 : Hid _ := ce1
            have HCE2 : Hid _ := ce2
            have HZL : Hid _ := hzl
            subst hv
            clear ce1 ce2 hOW hE hwl hlx hlc hzl OWj HE
            go_wp2_with fail
            refine (equal_any gv cv w5.heap.size _ (n + 2 + 2 * j) _ _ HZL.out HCE1.out HCE2.out).mono ?_
            rintro e w9 ⟨rfl, hw9⟩
            subst hw9
            go_wp2
            go_ret
            exact ⟨rfl, hbw4.trans (Bj.mono hbw4.size)⟩
end Go.Proofs.YbulkvsuFmt
