/- The walks of 'checkLength' and of 'Nested'. -/
import Derived.Test.YbulkvsuFmtWire
namespace Go.Proofs.YbulkvsuFmt
open Go.RowKit Go.Extern.Stop Go.Stop Go.Extern
set_option linter.unusedVariables false

set_option maxRecDepth 100000 in
set_option maxHeartbeats 1000000 in
theorem appendLen_in (g s c : Nat) (n : Int) (u0 u1 : Value) (w : World) (hn0 : 0 ≤ n) (hn1 : n ≤ 4096) (hc : 2 ≤ c) (hg : g < w.heap.size) (h0 : w.cell? ⟨g, s, none⟩ = some u0) (h1 : w.cell? ⟨g, s + 1, none⟩ = some u1) (hf : ∀ o, w.frozen? ⟨g, o, none⟩ = false) :
    Calls Ybaf.prog 11 #[.slice (some ⟨g, s, none⟩) 0 c, .int .i64 2, .int .i64 n] w fun e w' => ∃ v, e = .returned v ∧
      w' = (((w.setCell ⟨g, s, none⟩ (.int .u8 (n / 256))).setCell ⟨g, s + 1, none⟩ (.int .u8 (n % 256))).alloc (.cells #[.int .u8 (n / 256)] 5)).alloc (.cells #[.int .u8 (n % 256)] 5) := by
  have hc1 : 1 ≤ c := by omega
  go_enter Ybaf.func11, Ybaf.ntmps11
  go_wp2
  refine wp_loop_rounds 3 ?_
  rw [rounds_succ]
  go_wp2
  rw [rounds_succ]
  go_wp2
  rw [rounds_succ]
  go_wp2
  go_ret
  exact ⟨_, rfl, rfl⟩

theorem check_ok (f : ByteArray) (n : Int) (hn0 : 2 ≤ n) (hn1 : n ≤ 4096) (w : World) :
    Calls Ybaf.prog 12 #[.string f, .int .i64 n, .int .i64 2, .int .i64 2] w fun e w' => e = .returned .nilIface ∧ w' = w := by
  have h1 : ¬ n < 2 := by omega
  have h2 : n / 65536 = 0 := by omega
  go_enter Ybaf.func12, Ybaf.ntmps12
  go_wp2
  go_ret
  exact ⟨rfl, rfl⟩

theorem check_short (F : Interp) (f : ByteArray) (n : Int) (hn : n = 0) (w : World) (hF : F.answers w.tape) :
    Calls Ybaf.prog 12 #[.string f, .int .i64 n, .int .i64 2, .int .i64 2] w fun e w' => e = .returned (.iface 52 (.pointer (some ⟨w.heap.size + 1, 0, none⟩))) ∧ Below w.heap.size w w' := by
  subst hn
  go_enter Ybaf.func12, Ybaf.ntmps12
  go_wp2_with fail
  refine (short_err F f 0 2 rfl _ hF).mono ?_
  rintro e w1 ⟨rfl, hb⟩
  go_wp2
  go_ret
  exact ⟨rfl, hb⟩

/-- The encoder as the law makes it: its buffer is a full row of n bytes. -/
structure Start (w : World) (EB B0 n : Nat) (xs : List Int) : Prop where
  c0 : w.cell? ⟨EB, 0, none⟩ = some (.slice (some ⟨B0, 0, none⟩) n n)
  c1 : w.cell? ⟨EB, 1, none⟩ = some .nilIface
  fz : ∀ o, w.frozen? ⟨EB, o, none⟩ = false
  len : xs.length = n
  cells : ∀ j, j < n → w.cell? ⟨B0, j, none⟩ = some (.int .u8 (xs.getD j 0))
  lt : EB < w.heap.size ∧ B0 < w.heap.size
  bd : n ≤ 1024

/-- The schemes in memory. -/
structure Codes (w : World) (EB SG m : Nat) (cs : List Int) : Prop where
  len : m = cs.length
  bd : m ≤ 1024
  cells : ∀ j, j < m → w.cell? ⟨SG, j, none⟩ = some (.int .u16 (cs.getD j 0))
  vals : ∀ j, j < m → 0 ≤ cs.getD j 0 ∧ cs.getD j 0 ≤ 65535
  lt : SG < w.heap.size ∧ SG ≠ EB

theorem own_shape {w : World} {base n : Nat} {v : Value} {xs : List Value} (h : w.ownsRow base 5 1 v n xs) (hn : 0 < n) : ∃ g cap, v = .slice (some ⟨g, 0, none⟩) n cap ∧ base ≤ g ∧ g < w.heap.size ∧ n ≤ cap := by
  rcases h.2 with ⟨_, h0⟩ | ⟨g, cap, cur, hv, hb, hg, hc, _⟩
  · omega
  · exact ⟨g, cap, hv, hb, (Array.getElem?_eq_some_iff.1 hg).1, hc⟩

theorem set_two (p q : List Int) (a b x y : Int) : ((B8 (p ++ [a, b] ++ q)).set p.length (.int .u8 x)).set (p.length + 1) (.int .u8 y) = B8 (p ++ [x, y] ++ q) := by
  induction p with
  | nil => rfl
  | cons c p ih => simp [B8]

theorem enc_patch {w3 : World} {EB base g n L cap : Nat} {xs wire : List Int} {hi lo : Int} (o1 o2 : Obj) (d0 : w3.cell? ⟨EB, 0, none⟩ = some (.slice (some ⟨g, 0, none⟩) L cap)) (d1 : w3.cell? ⟨EB, 1, none⟩ = some .nilIface) (df : ∀ o, w3.frozen? ⟨EB, o, none⟩ = false)
    (how : w3.ownsRow base 5 1 (.slice (some ⟨g, 0, none⟩) L cap) L (B8 (xs ++ [0, 0] ++ wire))) (hn : xs.length = n) (hlt : EB < base) (hg : base ≤ g) (hsz : base ≤ w3.heap.size) (hL : L = (xs ++ [hi, lo] ++ wire).length) :
    Enc (((((w3.setCell ⟨EB, 1, none⟩ .nilIface).setCell ⟨g, n, none⟩ (.int .u8 hi)).setCell ⟨g, n + 1, none⟩ (.int .u8 lo)).alloc o1).alloc o2) EB base (.slice (some ⟨g, 0, none⟩) L cap) (xs ++ [hi, lo] ++ wire) ∧
    But EB base w3 (((((w3.setCell ⟨EB, 1, none⟩ .nilIface).setCell ⟨g, n, none⟩ (.int .u8 hi)).setCell ⟨g, n + 1, none⟩ (.int .u8 lo)).alloc o1).alloc o2) := by
  have hne : g ≠ EB := by omega
  have h1 := (ownsRow_setCell_below how (a := ⟨EB, 1, none⟩) hlt .nilIface)
  have h2 := (h1.stored n (.int .u8 hi)).1
  have h3 := (h2.stored (n + 1) (.int .u8 lo)).1
  rw [← hn, set_two] at h3
  have hs3 : (((w3.setCell ⟨EB, 1, none⟩ .nilIface).setCell ⟨g, n, none⟩ (.int .u8 hi)).setCell ⟨g, n + 1, none⟩ (.int .u8 lo)).heap.size = w3.heap.size := by simp [World.setCell]
  have B1 : Below base (((w3.setCell ⟨EB, 1, none⟩ .nilIface).setCell ⟨g, n, none⟩ (.int .u8 hi)).setCell ⟨g, n + 1, none⟩ (.int .u8 lo)) (((((w3.setCell ⟨EB, 1, none⟩ .nilIface).setCell ⟨g, n, none⟩ (.int .u8 hi)).setCell ⟨g, n + 1, none⟩ (.int .u8 lo)).alloc o1).alloc o2) :=
    ((Below.refl _ _).alloc (by omega) _).alloc (by simp; omega) _
  have B2 : Below base (w3.setCell ⟨EB, 1, none⟩ .nilIface) (((w3.setCell ⟨EB, 1, none⟩ .nilIface).setCell ⟨g, n, none⟩ (.int .u8 hi)).setCell ⟨g, n + 1, none⟩ (.int .u8 lo)) :=
    ((Below.refl base _).setCell (p := ⟨g, n, none⟩) hg _).setCell (p := ⟨g, n + 1, none⟩) hg _
  have B3 := B2.trans B1
  refine ⟨⟨?_, ?_, fun o => ?_, ?_, hlt, ?_⟩, (But.set 1 .nilIface).trans (But.of_below B3)⟩
  · rw [B3.cell (p := ⟨EB, 0, none⟩) hlt, World.cell?_setCell_other _ _ _ _ (by simp)]; exact d0
  · rw [B3.cell (p := ⟨EB, 1, none⟩) hlt]; exact World.cell?_setCell_same _ _ _ d1
  · rw [B3.frozen (p := ⟨EB, o, none⟩) hlt, World.frozen?_setCell]; exact df o
  · rw [← hL]
    rw [hn] at h3
    exact (h3.alloc o1).alloc o2
  · have := B3.size
    simp [World.setCell] at this ⊢
    omega

set_option maxRecDepth 100000 in
set_option maxHeartbeats 1000000 in
theorem nested_ok (EB B0 n SB SG m : Nat) (f : ByteArray) (xs cs : List Int) (w : World) (hs : Start w EB B0 n xs) (hc : Codes w EB SG m cs) (hm0 : 0 < m) (hSB : SB < w.heap.size ∧ SB ≠ EB) (hs1 : w.cell? ⟨SB, 0, none⟩ = some (.slice (some ⟨SG, 0, none⟩) m m)) :
    Calls Ybaf.prog 8 #[.pointer (some ⟨EB, 0, none⟩), .int .i64 2, .int .i64 2, .string f, .func (.func 9) #[] #[.pointer (some ⟨SB, 0, none⟩)]] w fun e w' =>
      ∃ v, e = .returned (.tuple #[]) ∧ Enc w' EB w.heap.size v (xs ++ [2 * (m : Int) / 256, 2 * (m : Int) % 256] ++ wireOf cs) ∧ But EB w.heap.size w w' := by
  obtain ⟨c0, c1, fz, hlen, hcells, hlt, hbd⟩ := hs
  have HC : Hid (∀ j, j < n → w.cell? ⟨B0, j, none⟩ = some (.int .u8 (xs.getD j 0))) := hcells
  have HCS : Hid (Codes w EB SG m cs) := hc
  have hbm := hc.bd
  clear hcells hc
  go_enter Ybaf.func8, Ybaf.ntmps8
  go_wp2_with fail
  refine (appendLen_full B0 n xs _ (by omega) hlen HC.out hlt.2).mono ?_
  rintro e w1 ⟨g1, cap1, rfl, how1, hb1⟩
  have k0 : w1.cell? ⟨EB, 0, none⟩ = some (.slice (some ⟨B0, 0, none⟩) n n) := (hb1.cell (p := ⟨EB, 0, none⟩) hlt.1).trans c0
  have k1 : w1.cell? ⟨EB, 1, none⟩ = some .nilIface := (hb1.cell (p := ⟨EB, 1, none⟩) hlt.1).trans c1
  have kf : ∀ o, w1.frozen? ⟨EB, o, none⟩ = false := fun o => (hb1.frozen (p := ⟨EB, o, none⟩) hlt.1).trans (fz o)
  have hE : Enc (w1.setCell ⟨EB, 0, none⟩ (.slice (some ⟨g1, 0, none⟩) (n + 2) cap1)) EB w.heap.size (.slice (some ⟨g1, 0, none⟩) (n + 2) cap1) (xs ++ [0, 0]) := by
    refine ⟨World.cell?_setCell_same _ _ _ k0, ?_, fun o => by rw [World.frozen?_setCell]; exact kf o, ownsRow_setCell_below (by simpa [hlen] using how1) hlt.1 _, hlt.1, ?_⟩
    · rw [World.cell?_setCell_other _ _ _ _ (by simp)]; exact k1
    · have := hb1.size; simp [World.setCell]; omega
  have hbut1 : But EB w.heap.size w (w1.setCell ⟨EB, 0, none⟩ (.slice (some ⟨g1, 0, none⟩) (n + 2) cap1)) := (But.of_below hb1).trans (But.set 0 _)
  have hs1' := (hbut1.cell (p := ⟨SB, 0, none⟩) hSB.1 hSB.2).trans hs1
  have HS2 : Hid (∀ j, j < m → (w1.setCell ⟨EB, 0, none⟩ (.slice (some ⟨g1, 0, none⟩) (n + 2) cap1)).cell? ⟨SG, j, none⟩ = some (.int .u16 (cs.getD j 0))) := fun j hj => (hbut1.cell (p := ⟨SG, j, none⟩) HCS.out.lt.1 HCS.out.lt.2).trans (HCS.out.cells j hj)
  go_wp2_with fail
  refine (body_any EB w.heap.size SB SG m _ (xs ++ [0, 0]) cs _ hbm HCS.out.len (by simp; omega) hE hSB HCS.out.lt hs1' HS2.out HCS.out.vals).mono ?_
  rintro e w2 ⟨v2, rfl, hE2, hb2⟩
  have hbut2 := hbut1.trans hb2
  have hwl := wireOf_length cs
  have hml := HCS.out.len
  have hll : (xs ++ [0, 0] ++ wireOf cs).length = n + 2 + 2 * m := by simp [hwl, hlen, hml]; omega
  have hown2 := hE2.own
  rw [hll] at hown2
  obtain ⟨g2, cap2, hv2, hg2, hg2s, hcap2⟩ := own_shape hown2 (by omega)
  have d0 := hE2.c0
  have d1 := hE2.c1
  have df := hE2.fz
  have hsz2 := hE2.size
  rw [hv2] at d0 hown2
  have e1 : (n : Int) + 2 + 2 * (m : Int) - (n : Int) - 2 = 2 * (m : Int) := by omega
  have HE2 : Hid (Enc w2 EB w.heap.size v2 (xs ++ [0, 0] ++ wireOf cs)) := hE2
  have HOW : Hid (w2.ownsRow w.heap.size 5 1 (.slice (some ⟨g2, 0, none⟩) (n + 2 + 2 * m) cap2) (n + 2 + 2 * m) (B8 (xs ++ [0, 0] ++ wireOf cs))) := hown2
  have HML : Hid (m = cs.length) := hml
  clear hE2 hv2 hown2 hml hll hwl hE hs1' HS2 k0 k1 kf how1
  go_wp2_with fail
  refine (check_ok f (2 * (m : Int)) (by omega) (by omega) _).mono ?_
  rintro e w3 ⟨rfl, hw3⟩
  subst hw3
  have q0 := HOW.out.cellAt n (by omega)
  have q1 := HOW.out.cellAt (n + 1) (by omega)
  have hbl : ∀ j, j < n + 2 → ∃ u, (B8 (xs ++ [0, 0] ++ wireOf cs))[j]? = some u := fun j hj => ⟨_, List.getElem?_eq_getElem (by rw [B8_length]; simp [hlen]; omega)⟩
  obtain ⟨u0, hu0⟩ := hbl n (by omega)
  obtain ⟨u1, hu1⟩ := hbl (n + 1) (by omega)
  rw [hu0] at q0
  rw [hu1] at q1
  have qf := HOW.out.frozenAt
  have hne : EB ≠ g2 := by omega
  have hne' : g2 ≠ EB := by omega
  have hcn : n ≤ cap2 := by omega
  clear hbl hu0 hu1
  have HP := fun o1 o2 => enc_patch (hi := 2 * (m : Int) / 256) (lo := 2 * (m : Int) % 256) o1 o2 d0 d1 df HOW.out hlen hlt.1 hg2 hsz2 (by simp [wireOf_length, hlen, ← HML.out]; omega)
  have hg2s' : g2 < (w3.setCell ⟨EB, 1, none⟩ .nilIface).heap.size := by simpa [World.setCell] using hg2s
  have q0' : (w3.setCell ⟨EB, 1, none⟩ .nilIface).cell? ⟨g2, n, none⟩ = some u0 := by rw [World.cell?_setCell_other _ _ _ _ (fun q => hne (congrArg Addr.block q))]; exact q0
  have q1' : (w3.setCell ⟨EB, 1, none⟩ .nilIface).cell? ⟨g2, n + 1, none⟩ = some u1 := by rw [World.cell?_setCell_other _ _ _ _ (fun q => hne (congrArg Addr.block q))]; exact q1
  have qf' : ∀ o, (w3.setCell ⟨EB, 1, none⟩ .nilIface).frozen? ⟨g2, o, none⟩ = false := fun o => by rw [World.frozen?_setCell]; exact qf o
  have HP' : Hid _ := HP
  clear HP
  go_wp2_with fail
  refine (appendLen_in g2 n (cap2 - n) (2 * (m : Int)) u0 u1 _ (by omega) (by omega) (by omega) hg2s' q0' q1' qf').mono ?_
  rintro e w5 ⟨v5, rfl, hw5⟩
  subst hw5
  go_wp2
  go_end0
  obtain ⟨hp1, hp2⟩ := HP'.out (.cells #[.int .u8 (2 * (m : Int) / 256)] 5) (.cells #[.int .u8 (2 * (m : Int) % 256)] 5)
  exact ⟨_, rfl, hp1, hbut2.trans hp2⟩

set_option maxRecDepth 100000 in
set_option maxHeartbeats 1000000 in
theorem nested_short (F : Interp) (EB B0 n SB SG : Nat) (f : ByteArray) (xs : List Int) (w : World) (hF : F.answers w.tape) (hs : Start w EB B0 n xs) (hc : Codes w EB SG 0 []) (hSB : SB < w.heap.size ∧ SB ≠ EB) (hs1 : w.cell? ⟨SB, 0, none⟩ = some (.slice (some ⟨SG, 0, none⟩) 0 0)) :
    Calls Ybaf.prog 8 #[.pointer (some ⟨EB, 0, none⟩), .int .i64 2, .int .i64 2, .string f, .func (.func 9) #[] #[.pointer (some ⟨SB, 0, none⟩)]] w fun e w' =>
      ∃ a, e = .returned (.tuple #[]) ∧ w'.cell? ⟨EB, 1, none⟩ = some (.iface 52 (.pointer (some a))) ∧ But EB w.heap.size w w' := by
  obtain ⟨c0, c1, fz, hlen, hcells, hlt, hbd⟩ := hs
  have HC : Hid (∀ j, j < n → w.cell? ⟨B0, j, none⟩ = some (.int .u8 (xs.getD j 0))) := hcells
  have HCS : Hid (Codes w EB SG 0 []) := hc
  clear hcells hc
  go_enter Ybaf.func8, Ybaf.ntmps8
  go_wp2_with fail
  refine (appendLen_full B0 n xs _ (by omega) hlen HC.out hlt.2).mono ?_
  rintro e w1 ⟨g1, cap1, rfl, how1, hb1⟩
  have k0 : w1.cell? ⟨EB, 0, none⟩ = some (.slice (some ⟨B0, 0, none⟩) n n) := (hb1.cell (p := ⟨EB, 0, none⟩) hlt.1).trans c0
  have k1 : w1.cell? ⟨EB, 1, none⟩ = some .nilIface := (hb1.cell (p := ⟨EB, 1, none⟩) hlt.1).trans c1
  have kf : ∀ o, w1.frozen? ⟨EB, o, none⟩ = false := fun o => (hb1.frozen (p := ⟨EB, o, none⟩) hlt.1).trans (fz o)
  have hE : Enc (w1.setCell ⟨EB, 0, none⟩ (.slice (some ⟨g1, 0, none⟩) (n + 2) cap1)) EB w.heap.size (.slice (some ⟨g1, 0, none⟩) (n + 2) cap1) (xs ++ [0, 0]) := by
    refine ⟨World.cell?_setCell_same _ _ _ k0, ?_, fun o => by rw [World.frozen?_setCell]; exact kf o, ownsRow_setCell_below (by simpa [hlen] using how1) hlt.1 _, hlt.1, ?_⟩
    · rw [World.cell?_setCell_other _ _ _ _ (by simp)]; exact k1
    · have := hb1.size; simp [World.setCell]; omega
  have hbut1 : But EB w.heap.size w (w1.setCell ⟨EB, 0, none⟩ (.slice (some ⟨g1, 0, none⟩) (n + 2) cap1)) := (But.of_below hb1).trans (But.set 0 _)
  have hs1' := (hbut1.cell (p := ⟨SB, 0, none⟩) hSB.1 hSB.2).trans hs1
  go_wp2_with fail
  refine (body_any EB w.heap.size SB SG 0 _ (xs ++ [0, 0]) [] _ (by omega) (show (0 : Nat) = ([] : List Int).length from rfl) (by simp; omega) hE hSB HCS.out.lt hs1' (fun j hj => absurd hj (by omega)) (fun j hj => absurd hj (by omega))).mono ?_
  rintro e w2 ⟨v2, rfl, hE2, hb2⟩
  have hbut2 := hbut1.trans hb2
  have hll : (xs ++ [0, 0] ++ wireOf []).length = n + 2 := by simp [wireOf, hlen]
  have hown2 := hE2.own
  rw [hll] at hown2
  obtain ⟨g2, cap2, hv2, hg2, hg2s, hcap2⟩ := own_shape hown2 (by omega)
  have d0 := hE2.c0
  have d1 := hE2.c1
  have df := hE2.fz
  have hsz2 := hE2.size
  rw [hv2] at d0
  have e1 : (n : Int) + 2 - (n : Int) - 2 = 0 := by omega
  have HF2 : F.answers w2.tape := by rw [hbut2.tape]; exact hF
  have HF2' : Hid (F.answers w2.tape) := HF2
  clear hE2 hv2 hown2 hll hE hs1' k0 k1 kf how1 HF2 hF
  go_wp2_with fail
  refine (check_short F f 0 rfl _ HF2'.out).mono ?_
  rintro e w3 ⟨rfl, hb3⟩
  have hEs : EB < w2.heap.size := by omega
  have m1 : w3.cell? ⟨EB, 1, none⟩ = some .nilIface := (hb3.cell (p := ⟨EB, 1, none⟩) hEs).trans d1
  have mf : w3.frozen? ⟨EB, 1, none⟩ = false := (hb3.frozen (p := ⟨EB, 1, none⟩) hEs).trans (df 1)
  have hbut3 := hbut2.trans (But.of_below (hb3.mono hsz2))
  go_wp2
  refine bodyPost_ret (results_none rfl _ _ _) rfl ?_
  exact ⟨_, rfl, World.cell?_setCell_same _ _ _ m1, hbut3.trans (But.set 1 _)⟩
end Go.Proofs.YbulkvsuFmt
