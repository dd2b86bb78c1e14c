import Derived.Test.Qxb6605490aPatE
namespace Go.Proofs.Qxb6605490a.Pat
open Go.ChangeShapes Go.WideShapes Go.ChangeAt Go.RowKit
set_option linter.unusedVariables false
attribute [local go_sem ↓] Go.wp_at_zero Go.wp_at_succ

/-! ### zzCheckPlaces -/
theorem wantN (i1 i2 : Bool) (p1 p2 : Int) (zs : List Int) (hz : zs = want i1 i2 p1 p2) (w : World) :
    Calls Try.prog 25 #[.bool i1, .bool i2, .int .i64 p1, .int .i64 p2] w fun e w' => ∃ a c, e = .returned (.slice a zs.length c) ∧ Nums w' a zs.length zs ∧ Below w.heap.size w w' := by
  refine (wantP i1 i2 p1 p2 w).mono ?_
  rintro e w' ⟨v, rfl, ho⟩
  rw [← hz] at ho
  obtain ⟨a, c, rfl, hn⟩ := row_nums ho.1
  exact ⟨a, c, rfl, hn, ho.2⟩

theorem chk_seen {ks : List Key} {C0 : Key → Bool} {k : Nat} (hk : k < ks.length) (h : (C0 (at0 ks k) || inTo ks k (at0 ks k)) = true) :
    cn ks C0 (k + 1) = cn ks C0 k ∧ (fun y => C0 y || inTo ks (k + 1) y) = (fun y => C0 y || inTo ks k y) := by
  constructor
  · by_cases hc : C0 (at0 ks k) = true
    · exact cn_old hc
    · have : inTo ks k (at0 ks k) = true := by simpa [hc] using h
      exact cn_seen (by simpa [inTo] using this)
  · funext y
    rw [inTo_succ hk]
    by_cases e : y = at0 ks k
    · subst e; simp only [if_true, Bool.or_true]; exact h.symm
    · simp [e]
theorem chk_new {ks : List Key} {C0 : Key → Bool} {k : Nat} (hk : k < ks.length) (h : (C0 (at0 ks k) || inTo ks k (at0 ks k)) = false) :
    cn ks C0 (k + 1) = cn ks C0 k + 1 ∧ (fun y => C0 y || inTo ks (k + 1) y) = (fun y => if y = at0 ks k then true else (C0 y || inTo ks k y)) := by
  have h' : C0 (at0 ks k) = false ∧ at0 ks k ∉ ks.take k := by simpa [inTo] using h
  refine ⟨cn_new h'.2 h'.1, ?_⟩
  funext y
  rw [inTo_succ hk]
  by_cases e : y = at0 ks k
  · simp [e]
  · simp [e]

theorem below_drewN {X : Nat} {w w' : World} (h : Below X w w') (q : Nat) : Below X w (w'.drewN q) := by
  induction q with
  | zero => exact h
  | succ q ih => exact ih.drew

theorem check (u : World) (X : Nat) (a0 a1 : Option Addr) (n c0 c1 : Nat) (ks : List Key) (m1 m2 mc n1 n2 nc : Nat) (S1 S2 C0 : Key → Bool) (p1 p2 : Int) (P : Key → List Int) (Q : Key → Bool) (z : Nat) (A B : List Int) (N : Nat) (w : World)
    (hn : n ≤ 4096) (hnc : nc ≤ 4096) (hN : N ≤ 65536) (hl : ks.length = n) (hv : ∀ k ∈ ks, Valid k) (h0 : Kr u a0 n ks) (h1 : Tr u a1 n ks) (hS1 : SetAt u m1 n1 S1) (hS2 : SetAt u m2 n2 S2) (hR : Ready u X P Q z A B N)
    (hP : ∀ k ∈ ks, P k = want (S1 k) (S2 k) p1 p2) (hb : Below u.heap.size u w) (hmc : u.heap.size ≤ mc) (hC : SetAt w mc nc C0) :
    Calls Try.prog 12 #[.pointer (some ⟨X, 0, none⟩), .slice a0 n c0, .slice a1 n c1, .map (some m1), .map (some m2), .map (some mc), .int .i64 p1, .int .i64 p2] w fun e w' =>
      e = .returned (.tuple #[.int .i64 (cn ks C0 n), .bool true]) ∧ SetAt w' mc (nc + n) (fun x => C0 x || inTo ks n x) ∧ Below u.heap.size u w' := by
  have H0 := hid h0
  have H1 := hid h1
  have HL := hid hl
  have HV := hid hv
  have HS1 := hid hS1
  have HS2 := hid hS2
  have HR := hid hR
  have HP := hid hP
  have HB := hid hb
  have HC := hid hC
  clear h0 h1 hl hv hS1 hS2 hR hP hb hC
  go_enter Try.func12, Try.ntmps12
  go_wp2
  go_loopw [18, 19] (fun c i wr => ∃ k : Nat, k ≤ n ∧ i = .int .i64 k ∧ c = .int .i64 (cn ks C0 k) ∧ SetAt wr mc (nc + k) (fun x => C0 x || inTo ks k x) ∧ Below u.heap.size u wr) (fun _ i _ => n - (intOf i).toNat)
  case atStart => exact ⟨0, Nat.zero_le _, rfl, rfl, by rw [show (fun x => C0 x || inTo ks 0 x) = C0 from by funext x; simp [inTo_zero]]; exact HC.out, HB.out⟩
  case round =>
    clear HC HB
    obtain ⟨k, hk, rfl, rfl, hS, hB⟩ := hrel
    have S := hid hS
    have B := hid hB
    have hsz2 := hB.size
    clear hS hB
    by_cases hlt : k < n
    · obtain ⟨b0, o0, e0, hb0, hc0⟩ := H0.out (by omega)
      obtain ⟨b1, o1, e1, hb1, hc1⟩ := H1.out (by omega)
      subst e0 e1
      have k0 := (B.out.cell (p := ⟨b0, o0 + k, none⟩) hb0).trans (hc0 k hlt)
      have k1 := (B.out.cell (p := ⟨b1, o1 + k, none⟩) hb1).trans (hc1 k hlt)
      clear hc0 hc1
      have hlt' : (k : Int) < (n : Int) := by omega
      have hb0' : b0 < wr.heap.size := by omega
      have hb1' : b1 < wr.heap.size := by omega
      have HK : Hid (k < ks.length) := by show k < ks.length; rw [HL.out]; exact hlt
      have VK : Hid (Valid (at0 ks k)) := HV.out _ (at0_mem HK.out)
      have PK := hid (HP.out _ (at0_mem HK.out))
      have X1 := hid (boxed wr (at0 ks k).1 (bs (at0 ks k).2) 55)
      have hcn := cn_le ks C0 k
      obtain ⟨W1, hW1⟩ : ∃ W1, (wr.alloc (.cells #[.int .i64 (at0 ks k).1, .string (bs (at0 ks k).2)] 55)).drew = W1 := ⟨_, rfl⟩
      have HW := hid hW1
      rw [hW1] at X1
      have BW : Hid (Below wr.heap.size wr W1) := by rw [← hW1]; exact ((Below.refl _ _).alloc (Nat.le_refl _) _).drew
      have SW := hid (S.out.below BW.out)
      have BU := hid (B.out.trans (BW.out.mono hsz2))
      have hlook := SW.out.look VK.out
      clear hW1
      simp only [kval] at hlook
      obtain ⟨xc0, xc1, xf⟩ := X1.out
      generalize hx : (at0 ks k).1 = x at k0 HW xc0 hlook
      generalize hy : bs (at0 ks k).2 = y at k1 HW xc1 hlook
      have HX := hid hx
      have HY := hid hy
      clear hx hy
      cases hin : (C0 (at0 ks k) || inTo ks k (at0 ks k))
      · rw [hin] at hlook
        have NEW := hid (chk_new HK.out hin)
        clear hin
        obtain ⟨w2, hrun, hS2', hg2⟩ := SW.out.put VK.out (by unfold maxLen; omega)
        simp only [kval, HX.out, HY.out] at hrun
        have mlt : mc < wr.heap.size := S.out.lt
        have Sn := hid hS2'
        have B2 := hid (BU.out.grown hg2 BU.out.size (fun j hj => by cases hj; exact hmc))
        have y0 : w2.cell? ⟨wr.heap.size, 0, none⟩ = some (.int .i64 x) := by
          rw [World.cell?_of_block (w := W1) (hg2.block wr.heap.size xf (by simp; omega))]; exact xc0
        have y1 : w2.cell? ⟨wr.heap.size, 1, none⟩ = some (.string y) := by
          rw [World.cell?_of_block (w := W1) (hg2.block wr.heap.size xf (by simp; omega))]; exact xc1
        have y2 : wr.heap.size < w2.heap.size := block_lt_of_cell y0
        have l1 := (HS1.out.below B2.out.drew).look VK.out
        have l2 := (HS2.out.below B2.out.drew).look VK.out
        simp only [kval, HX.out, HY.out] at l1 l2
        have PL := hid (places X P Q z A _ N (at0 ks k) w2 (HR.out.below B2.out) (by unfold maxLen; omega) VK.out)
        rw [HX.out, HY.out] at PL
        have hlp : (P (at0 ks k)).length ≤ 65536 := by rw [PK.out]; simp [want]; split <;> split <;> simp
        clear hS2' hg2
        go_wp2
        go_region
        rw [HW.out]
        go_wp2_with (first | (go_at_call 24; refine PL.out.mono ?_; rintro e w' ⟨⟨ga, gc, rfl, gn⟩, rfl⟩; have GN := hid gn; clear gn) | go_in)
        go_region_held3 (fun w' => w'.cell? ⟨wr.heap.size, 0, none⟩ = some (.int .i64 x) ∧ w'.cell? ⟨wr.heap.size, 1, none⟩ = some (.string y)) (first | go_keep | (refine ⟨?_, ?_⟩ <;> assumption)) ((first | (go_at_call 25; refine (wantN _ _ _ _ _ PK.out _).mono ?_; rintro e w3 ⟨ha, hc, rfl, hn3, hb3⟩; have N3 := hid hn3; have B3 := hid hb3; have z0 := (hb3.cell (p := ⟨wr.heap.size, 0, none⟩) y2).trans y0; have z1 := (hb3.cell (p := ⟨wr.heap.size, 1, none⟩) y2).trans y1; have G3 := hid (GN.out.below ((Below.refl _ _).drew.trans hb3)); clear hn3 hb3) | (go_at_call 16; refine (equal_yes _ _ _ _ _ (P (at0 ks k)) _ hlp G3.out N3.out).mono ?_; rintro e w4 ⟨rfl, q4, rfl⟩)))
        all_goals go_wp2
        all_goals have BB := hid (below_drewN B3.out q4)
        all_goals refine ⟨⟨k + 1, by omega, by go_num, by rw [NEW.out.1]; go_num, ?_, ?_⟩, by simp [intOf]; omega⟩
        all_goals first
          | (rw [NEW.out.2]; exact (SetAt.kept (w' := World.drew _) Sn.out rfl).below BB.out)
          | exact B2.out.drew.trans (BB.out.mono B2.out.drew.size)
      · rw [hin] at hlook
        have OLD := hid (chk_seen HK.out hin)
        clear hin
        go_wp2
        go_region
        rw [HW.out]
        go_wp2
        go_roundw
        case rel => exact ⟨k + 1, by omega, by go_num, by rw [OLD.out.1], by rw [OLD.out.2]; exact SW.out.mono (by omega), BU.out⟩
        case measure => simp [intOf]; omega
    · obtain rfl : k = n := by omega
      go_wp2
      go_ret2
      exact ⟨rfl, S.out, B.out⟩

end Go.Proofs.Qxb6605490a.Pat
