import Derived.Test.Qxb6605490aPatG
namespace Go.Proofs.Qxb6605490a.Pat
open Go.ChangeShapes Go.WideShapes Go.ChangeAt Go.RowKit
set_option linter.unusedVariables false
set_option maxRecDepth 100000
set_option maxHeartbeats 40000000

theorem law_ne (a0 a1 a3 a4 : Option Addr) (n m c0 c1 c3 c4 : Nat) (K1 K2 : List Key) (p1 p2 : Int) (w : World)
    (hn : n ≤ 4096) (hm : m ≤ 4096) (hl1 : K1.length = n) (hl2 : K2.length = m) (hv1 : ∀ k ∈ K1, Valid k) (hv2 : ∀ k ∈ K2, Valid k) (hq1 : (Lit.int .i64 p1).wf = true) (hq2 : (Lit.int .i64 p2).wf = true)
    (h0 : Kr w a0 n K1) (h1 : Tr w a1 n K1) (h3 : Kr w a3 m K2) (h4 : Tr w a4 m K2) (z0 : a0 = none → n = 0) (z1 : a1 = none → n = 0) (z3 : a3 = none → m = 0) (z4 : a4 = none → m = 0) (hp : ¬ p1 = p2) :
    Calls Try.prog 3 #[.slice a0 n c0, .slice a1 n c1, .int .i64 p1, .slice a3 m c3, .slice a4 m c4, .int .i64 p2] w fun e w' => e = .returned (.bool true) ∧ Below w.heap.size w w' := by
  have V1 := hid hv1
  have V2 := hid hv2
  have L1 := hid hl1
  have L2 := hid hl2
  have Q1 := hid hq1
  have Q2 := hid hq2
  have H0 := hid h0
  have H1 := hid h1
  have H3 := hid h3
  have H4 := hid h4
  have Z0 := hid z0
  have Z1 := hid z1
  have Z3 := hid z3
  have Z4 := hid z4
  obtain ⟨ss, hss⟩ := h1.strs
  obtain ⟨ls, hls⟩ := h4.strs
  have HS := hid hss
  have HL := hid hls
  clear hv1 hv2 hl1 hl2 hq1 hq2 h0 h1 h3 h4 z0 z1 z3 z4 hss hls
  have hmm := @run_makeMap Try.prog
  have HPP := hid hp
  have hp' : (p1 == p2) = false := by simp [hp]
  clear hp
  go_enter Try.func3, Try.ntmps3
  go_wp2_with fail
  refine (bytes_any a0 a1 a3 a4 n n m m c0 c1 c3 c4 p1 p2 ss ls _ (by unfold maxLen; omega) (by unfold maxLen; omega) (by unfold maxLen; omega) (by unfold maxLen; omega) HS.out HL.out).mono ?_
  rintro e w' ⟨⟨b, rfl⟩, rfl⟩
  cases b
  · go_wp2
    go_ret
    exact ⟨rfl, Below.refl _ _⟩
  go_wp2_with fail
  refine (sum_any _ a1 n c1 ss _ hn HS.out).mono ?_
  rintro e w' ⟨⟨T, rfl⟩, rfl⟩
  by_cases hT : (1048576 : Int) < T
  · go_wp2
    go_ret
    exact ⟨rfl, Below.refl _ _⟩
  go_wp2_with fail
  refine (sum_any _ a4 m c4 ls _ hm HL.out).mono ?_
  rintro e w' ⟨⟨U, rfl⟩, rfl⟩
  by_cases hU : (1048576 : Int) < U
  · go_wp2
    go_ret
    exact ⟨rfl, Below.refl _ _⟩
  clear HS HL
  go_wp2_with fail
  refine (cloneK a0 n c0 K1 _ hn H0.out Z0.out).mono ?_
  rintro e w1 ⟨b0, rfl, k1, d1⟩
  have K1' := hid k1
  have D1 := hid d1
  clear k1 d1
  go_wp2_with fail
  refine (cloneT a1 n c1 K1 _ hn (H1.out.below D1.out) Z1.out).mono ?_
  rintro e w2 ⟨b1, rfl, k2, d2⟩
  have K2' := hid k2
  have D2 := hid (D1.out.trans (d2.mono D1.out.size))
  have K1a := hid (K1'.out.below d2)
  clear k2 d2 K1'
  go_wp2_with fail
  refine (cloneK a3 m c3 K2 _ hm (H3.out.below D2.out) Z3.out).mono ?_
  rintro e w3 ⟨b3, rfl, k3, d3⟩
  have K3' := hid k3
  have D3 := hid (D2.out.trans (d3.mono D2.out.size))
  have K1b := hid (K1a.out.below d3)
  have K2b := hid (K2'.out.below d3)
  clear k3 d3 K1a K2'
  go_wp2_with fail
  refine (cloneT a4 m c4 K2 _ hm (H4.out.below D3.out) Z4.out).mono ?_
  rintro e w4 ⟨b4, rfl, k4, d4⟩
  have K4 := hid k4
  have D4 := hid (D3.out.trans (d4.mono D3.out.size))
  have K1c := hid (K1b.out.below d4)
  have K2c := hid (K2b.out.below d4)
  have K3c := hid (K3'.out.below d4)
  clear k4 d4 K1b K2b K3' D1 D2 D3 H0 H1 H3 H4 Z0 Z1 Z3 Z4
  go_wp2_with fail
  refine (newIndex _).mono ?_
  rintro e w5 ⟨rfl, f5, d5⟩
  have F5 := hid f5
  have D5 := hid d5
  have hX5 : w4.heap.size < w5.heap.size := block_lt_of_cell f5.1
  clear f5 d5
  go_wp2_with fail
  refine (zadd w4.heap.size b0 b1 n n n K1 p1 (fun _ => []) (fun _ => false) 0 [] [] 0 _ hn (by omega) (by simp) (by simp) L1.out V1.out Q1.out (fun x h => absurd rfl h) hX5 (K1c.out.below D5.out) (K2c.out.below D5.out) (.inl ⟨F5.out, rfl, rfl, rfl, rfl, rfl, rfl⟩)).mono ?_
  rintro e w6 ⟨rfl, r6, d6⟩
  have R6 := hid r6
  have D6 := hid (D5.out.trans d6)
  have hX6 : w4.heap.size < w6.heap.size := Nat.lt_of_lt_of_le hX5 d6.size
  clear r6 d6 F5
  go_wp2_with fail
  refine (zadd w4.heap.size b3 b4 m m m K2 p2 (addP (fun _ => []) p1 K1 n) (addQ (fun _ => false) K1 n) (0 + cn K1 (fun _ => false) n) ([] ++ wl K1 2 (fun x => ends ((fun _ => []) x) p1) n) ([] ++ wl K1 3 (fun x => ends ((fun _ => []) x) p1) n) (0 + n) _ hm (by omega) (by rw [List.nil_append]; exact Nat.le_trans (wl_len _ _ _ _) hn) (by rw [List.nil_append]; exact Nat.le_trans (wl_len _ _ _ _) hn) L2.out V2.out Q2.out addQ_of hX6 (K3c.out.below D6.out) (K4.out.below D6.out) (.inr R6.out)).mono ?_
  rintro e w7 ⟨rfl, r7, d7⟩
  have R7 := hid r7
  have D7 := hid (D6.out.trans d7)
  clear r7 d7 R6
  go_wp2_with fail
  refine (members b0 b1 n n n K1 _ hn L1.out V1.out (K1c.out.below D7.out) (K2c.out.below D7.out)).mono ?_
  rintro e w8 ⟨m1, rfl, s8, d8⟩
  have S8 := hid s8
  have D8 := hid d8
  have D48 := hid (D7.out.trans (d8.mono D7.out.size))
  clear s8 d8
  go_wp2_with fail
  refine (members b3 b4 m m m K2 _ hm L2.out V2.out (K3c.out.below D48.out) (K4.out.below D48.out)).mono ?_
  rintro e w9 ⟨m2, rfl, s9, d9⟩
  have D49 := hid (D48.out.trans (d9.mono D48.out.size))
  have BS : Hid (Base w9 w4.heap.size b0 b1 b3 b4 n m K1 K2 p1 p2 m1 m2) := ⟨K1c.out.below D49.out, K2c.out.below D49.out, K3c.out.below D49.out, K4.out.below D49.out, S8.out.below d9, s9, (R7.out.below D8.out).below d9⟩
  have D9 := hid (D4.out.trans (D49.out.mono D4.out.size))
  clear s9 d9 D4 D5 D6 D7 D8 D48 D49 S8 R7 K1c K2c K3c K4
  generalize w4.heap.size = X at BS
  have Z1 : Hid (cn K1 (fun _ => false) n ≤ 4096) := Nat.le_trans (cn_le _ _ _) hn
  have Z2 : Hid (cn K2 (addQ (fun _ => false) K1 n) m ≤ 4096) := Nat.le_trans (cn_le _ _ _) hm
  obtain ⟨z1, hz1⟩ : ∃ z, z = cn K1 (fun _ => false) n := ⟨_, rfl⟩
  obtain ⟨z2, hz2⟩ : ∃ z, z = cn K2 (addQ (fun _ => false) K1 n) m := ⟨_, rfl⟩
  have lz1 : z1 ≤ 4096 := by rw [hz1]; exact Z1.out
  have lz2 : z2 ≤ 4096 := by rw [hz2]; exact Z2.out
  clear Z1 Z2
  have Z1 := hid hz1
  have Z2 := hid hz2
  clear hz1 hz2
  obtain ⟨A, hA'⟩ : ∃ A, A = ([] ++ wl K1 2 (fun x => ends ((fun _ => []) x) p1) n) ++ wl K2 2 (fun x => ends (addP (fun _ => []) p1 K1 n x) p2) m := ⟨_, rfl⟩
  obtain ⟨B, hB'⟩ : ∃ B, B = ([] ++ wl K1 3 (fun x => ends ((fun _ => []) x) p1) n) ++ wl K2 3 (fun x => ends (addP (fun _ => []) p1 K1 n x) p2) m := ⟨_, rfl⟩
  have hA : A.length ≤ 65536 := by rw [hA']; exact two_len K1 K2 2 _ _ n m hn hm
  have hB : B.length ≤ 65536 := by rw [hB']; exact two_len K1 K2 3 _ _ n m hn hm
  have EA := hid hA'
  have EB := hid hB'
  clear hA' hB'
  have SK : Hid (∀ W, Below w9.heap.size w9 W → ∀ k, Valid k → (Instr.lookup 31 (.map none) (kval k) false).run Try.prog W = .ok (.bool (ends (addP (fun _ => []) p1 K1 n k) p2)) W) := fun W hb k hk => by rw [← skip_ne K1 n p1 p2 HPP.out k]; exact look_none hk W
  go_wp2_with fail
  refine (checkZ w9 X b0 b1 n n n K1 m1 m2 w9.heap.size n m 0 (inTo K1 n) (inTo K2 m) (fun _ => false) p1 p2 _ _ _ _ _ _ _ hn (by omega) (by omega) L1.out V1.out BS.out.k1 BS.out.t1 BS.out.s1 BS.out.s2 BS.out.r (fun k _ => adds_want L1.out L2.out p1 p2 k) ((Below.refl _ _).alloc (Nat.le_refl _) _) (Nat.le_refl _) (SetAt.made w9) z1 Z1.out).mono ?_
  rintro e w11 ⟨rfl, c11, d11⟩
  have C11 : Hid (SetAt w11 w9.heap.size (0 + n) (addQ (fun _ => false) K1 n)) := c11
  have D11 := hid d11
  clear c11 d11 hmm
  go_wp2_with fail
  refine (checkZ w9 X b3 b4 m m m K2 m1 m2 w9.heap.size n m (0 + n) (inTo K1 n) (inTo K2 m) (addQ (fun _ => false) K1 n) p1 p2 _ _ _ _ _ _ _ hm (by omega) (by omega) L2.out V2.out BS.out.k2 BS.out.t2 BS.out.s1 BS.out.s2 BS.out.r (fun k _ => adds_want L1.out L2.out p1 p2 k) D11.out (Nat.le_refl _) C11.out z2 Z2.out).mono ?_
  rintro e w12 ⟨rfl, c12, d12⟩
  have B12 := hid (BS.out.below d12)
  have SK12 := hid (fun W (hb : Below w12.heap.size w12 W) => SK.out W (d12.trans (hb.mono d12.size)))
  have D12 := hid (D9.out.trans (d12.mono D9.out.size))
  clear c12 d12 C11 D11 BS SK D9
  go_wp2_with fail
  refine (countZ X _ _ _ _ _ _ w12 B12.out.r ((z1 : Int) + (z2 : Int)) (by rw [Z1.out, Z2.out]; simp)).mono ?_
  rintro e w' ⟨rfl, rfl⟩
  go_wp2_with fail
  refine (hasMap X _ _ _ _ _ _ _ B12.out.r).mono ?_
  rintro e w' ⟨rfl, rfl⟩
  go_wp2_with fail
  refine (wantL w' b0 b1 n n n K1 2 (.map none) _ (fun x => ends ((fun _ => []) x) p1) [] _ hn (by simp) L1.out V1.out B12.out.k1 B12.out.t1 (fun W _ k hk => look_none hk W) (row_new w' _ (Nat.le_refl _)) ((Below.refl _ _).alloc (Nat.le_refl _) _)).mono ?_
  rintro e w14 ⟨v1, rfl, r14, d14⟩
  have R14 := hid r14
  have D14 := hid d14
  clear r14 d14
  go_wp2_with fail
  refine (wantLZ w' b3 b4 m m m K2 2 _ v1 (fun x => ends (addP (fun _ => []) p1 K1 n x) p2) ([] ++ wl K1 2 (fun x => ends ((fun _ => []) x) p1) n) _ hm (by rw [List.nil_append]; exact Nat.le_trans (wl_len _ _ _ _) hn) L2.out V2.out B12.out.k2 B12.out.t2 SK12.out R14.out D14.out A EA.out).mono ?_
  rintro e w15 ⟨v2, rfl, r15, d15⟩
  have B15 := hid (B12.out.below d15)
  have SK15 := hid (fun W (hb : Below w15.heap.size w15 W) => SK12.out W (d15.trans (hb.mono d15.size)))
  have D15 := hid (D12.out.trans (d15.mono D12.out.size))
  obtain ⟨f2, g2, rfl, nn2⟩ := row_nums r15
  have N2 := hid nn2
  clear r15 d15 nn2 R14 D14 B12 SK12 D12
  go_wp2_with fail
  refine (wantL w15 b0 b1 n n n K1 3 (.map none) _ (fun x => ends ((fun _ => []) x) p1) [] _ hn (by simp) L1.out V1.out B15.out.k1 B15.out.t1 (fun W _ k hk => look_none hk W) (row_new w15 _ (Nat.le_refl _)) ((Below.refl _ _).alloc (Nat.le_refl _) _)).mono ?_
  rintro e w16 ⟨v3, rfl, r16, d16⟩
  have R16 := hid r16
  have D16 := hid d16
  clear r16 d16
  go_wp2_with fail
  refine (wantLZ w15 b3 b4 m m m K2 3 _ v3 (fun x => ends (addP (fun _ => []) p1 K1 n x) p2) ([] ++ wl K1 3 (fun x => ends ((fun _ => []) x) p1) n) _ hm (by rw [List.nil_append]; exact Nat.le_trans (wl_len _ _ _ _) hn) L2.out V2.out B15.out.k2 B15.out.t2 SK15.out R16.out D16.out B EB.out).mono ?_
  rintro e w17 ⟨v4, rfl, r17, d17⟩
  have B17 := hid (B15.out.below d17)
  have M2 := hid (N2.out.below d17)
  have D17 := hid (D15.out.trans (d17.mono D15.out.size))
  obtain ⟨f4, g4, rfl, nn4⟩ := row_nums r17
  have N4 := hid nn4
  clear r17 d17 nn4 R16 D16 B15 SK15 D15 N2
  have R17 := hid B17.out.r
  rw [← EA.out, ← EB.out] at R17
  clear B17
  go_wp2_with fail
  refine (prefixes X _ _ _ A B _ _ R17.out).mono ?_
  rintro e w' ⟨⟨pa, pc, rfl, pn⟩, rfl⟩
  have PN := hid pn
  clear pn
  go_wp2_with fail
  refine (equal_yes pa f2 _ pc g2 A _ hA PN.out M2.out).mono ?_
  rintro e w' ⟨rfl, q, rfl⟩
  go_wp2_with fail
  refine (suffixes X _ _ _ A B _ _ (R17.out.below (below_drewN (Below.refl _ _) q))).mono ?_
  rintro e w' ⟨⟨pa2, pc2, rfl, pn⟩, rfl⟩
  have PN2 := hid pn
  clear pn
  go_wp2_with fail
  refine (equal_yes pa2 f4 _ pc2 g4 B _ hB PN2.out (N4.out.below (below_drewN (Below.refl _ _) q))).mono ?_
  rintro e w' ⟨rfl, q2, rfl⟩
  go_wp2
  go_ret
  exact ⟨rfl, below_drewN D17.out (q + q2)⟩

end Go.Proofs.Qxb6605490a.Pat
