import Derived.Test.Qxb6606066aC
namespace Go.Proofs.Qxb6606066a.Wk
open Go.ChangeShapes Go.WideShapes Go.ChangeAt Go.RowKit
open Pl (Asc AscTo mem Behind)
set_option linter.unusedVariables false

theorem below3 {a b c : World} (h : Below a.heap.size a b) (k : Below b.heap.size b c) : Below a.heap.size a c := h.trans (k.mono h.size)
theorem belowD (w : World) (q : Nat) : Below w.heap.size w (w.drewN q) := below_drewN (Below.refl _ _) q

/-! ### FnIntersectKeepsExactlyTheSharedOfFirst -/
theorem long3 (a0 a1 : Option Addr) (n0 n1 c0 c1 : Nat) (w : World) (h0 : n0 ≤ maxLen) (h1 : n1 ≤ maxLen) (h : ¬ (n0 ≤ 65536 ∧ n1 ≤ 65536)) :
    Calls Try.prog 3 #[.slice a0 n0 c0, .slice a1 n1 c1] w fun e w' => e = .returned (.bool true) ∧ Below w.heap.size w w' := by
  have hm := h0
  have hm1 := h1
  unfold maxLen at hm hm1
  by_cases e0 : 65536 < n0
  · clear h
    go_enter Try.func3, Try.ntmps3
    go_wp2_with fail
    refine (some7 a0 a1 n0 n1 c0 c1 _ h0 h1).mono ?_
    rintro e w' ⟨⟨b, rfl⟩, rfl⟩
    cases b
    · go_wp2
      go_ret
      exact ⟨rfl, Below.refl _ _⟩
    · go_wp2
      go_ret
      exact ⟨rfl, Below.refl _ _⟩
  · have e1 : 65536 < n1 := by omega
    clear h
    go_enter Try.func3, Try.ntmps3
    go_wp2_with fail
    refine (some7 a0 a1 n0 n1 c0 c1 _ h0 h1).mono ?_
    rintro e w' ⟨⟨b, rfl⟩, rfl⟩
    cases b
    · go_wp2
      go_ret
      exact ⟨rfl, Below.refl _ _⟩
    · go_wp2
      go_ret
      exact ⟨rfl, Below.refl _ _⟩

theorem law3 (a0 a1 : Option Addr) (n0 n1 c0 c1 : Nat) (A B : List Int) (w : World) (h0 : n0 ≤ 65536) (h1 : n1 ≤ 65536) (hA : Nums w a0 n0 A) (hB : Nums w a1 n1 B) (z0 : a0 = none → n0 = 0) (z1 : a1 = none → n1 = 0) :
    Calls Try.prog 3 #[.slice a0 n0 c0, .slice a1 n1 c1] w fun e w' => e = .returned (.bool true) ∧ Below w.heap.size w w' := by
  have HA := hid hA
  have HB := hid hB
  have Z0 := hid z0
  have Z1 := hid z1
  clear hA hB z0 z1
  go_enter Try.func3, Try.ntmps3
  go_wp2_with fail
  refine (bytes7 a0 a1 n0 n1 c0 c1 _ h0 h1).mono ?_
  rintro e w' ⟨rfl, rfl⟩
  go_wp2_with fail
  refine (asc_any a0 n0 c0 A _ h0 HA.out).mono ?_
  rintro e w1 ⟨⟨x0, rfl, hx0⟩, q0, rfl⟩
  have HX0 := hid hx0
  clear hx0
  cases x0
  · go_wp2
    go_ret
    exact ⟨rfl, belowD _ _⟩
  have AA : Hid (Asc A) := HX0.out rfl
  clear HX0
  go_wp2_with fail
  refine (asc_any a1 n1 c1 B _ h1 (HB.out.drewN q0)).mono ?_
  rintro e w1 ⟨⟨x1, rfl, hx1⟩, q1, rfl⟩
  have HX1 := hid hx1
  clear hx1
  have B1 : Hid (Below w'.heap.size w' ((w'.drewN q0).drewN q1)) := below3 (belowD _ _) (belowD _ _)
  cases x1
  · go_wp2
    go_ret
    exact ⟨rfl, belowD _ _⟩
  have AB : Hid (Asc B) := HX1.out rfl
  clear HX1
  generalize ((w'.drewN q0).drewN q1) = w1 at B1 ⊢
  go_wp2_with fail
  refine (clone_any a0 n0 c0 A _ h0 (HA.out.below B1.out) Z0.out).mono ?_
  rintro e w2 ⟨x0, rfl, hN0, hb2⟩
  have N0 := hid hN0
  have B2 := hid (below3 B1.out hb2)
  clear hN0 hb2
  go_wp2_with fail
  refine (clone_any a1 n1 c1 B _ h1 (HB.out.below B2.out) Z1.out).mono ?_
  rintro e w3 ⟨x1, rfl, hN1, hb3⟩
  have N1 := hid hN1
  have M0 := hid (N0.out.below hb3)
  have B3 := hid (below3 B2.out hb3)
  clear hN1 hb3 N0 B1 B2 HA HB
  go_wp2_with fail
  refine (zzInter x0 x1 n0 n1 n0 n1 A B _ h0 h1 M0.out N1.out AA.out AB.out).mono ?_
  rintro e w4 ⟨v, rfl, ho⟩
  obtain ⟨y, c, rfl, hY⟩ := ho.nums
  have Y := hid hY
  have M1 := hid (M0.out.below ho.2)
  have N2 := hid (N1.out.below ho.2)
  have B4 := hid (below3 B3.out ho.2)
  clear ho hY B3 M0 N1
  go_wp2_with fail
  refine (filter_any x0 x1 n0 n1 n0 n1 A B true _ h0 h1 M1.out N2.out AB.out).mono ?_
  rintro e w5 ⟨v, rfl, ho⟩
  have EQ : Hid (A.filter (fun x => mem B x == true) = A.filter (mem B)) := by
    show _ = _
    refine List.filter_congr fun x _ => ?_
    cases mem B x <;> rfl
  have ho' := ho
  rw [EQ.out] at ho'
  obtain ⟨y', c', rfl, hY'⟩ := ho'.nums
  have Y1 := hid (Y.out.below ho.2)
  have Y2 := hid hY'
  have B5 := hid (below3 B4.out ho.2)
  have hlen : (A.filter (mem B)).length ≤ 65536 := by
    have := List.length_filter_le (mem B) A
    have := M1.out.1
    omega
  clear ho ho' hY' B4 M1 N2 Y EQ
  generalize A.filter (mem B) = R at hlen Y1 Y2 ⊢
  go_wp2_with fail
  refine (same_yes y y' R.length c c' R _ hlen Y1.out Y2.out).mono ?_
  rintro e w6 ⟨rfl, q, rfl⟩
  go_wp2
  go_ret
  exact ⟨rfl, below3 B5.out (belowD _ _)⟩

/-! ### FnSubtractKeepsExactlyTheUnsharedOfFirst -/
theorem long5 (a0 a1 : Option Addr) (n0 n1 c0 c1 : Nat) (w : World) (h0 : n0 ≤ maxLen) (h1 : n1 ≤ maxLen) (h : ¬ (n0 ≤ 65536 ∧ n1 ≤ 65536)) :
    Calls Try.prog 5 #[.slice a0 n0 c0, .slice a1 n1 c1] w fun e w' => e = .returned (.bool true) ∧ Below w.heap.size w w' := by
  have hm := h0
  have hm1 := h1
  unfold maxLen at hm hm1
  by_cases e0 : 65536 < n0
  · clear h
    go_enter Try.func5, Try.ntmps5
    go_wp2_with fail
    refine (some14 a0 a1 n0 n1 c0 c1 _ h0 h1).mono ?_
    rintro e w' ⟨⟨b, rfl⟩, rfl⟩
    cases b
    · go_wp2
      go_ret
      exact ⟨rfl, Below.refl _ _⟩
    · go_wp2
      go_ret
      exact ⟨rfl, Below.refl _ _⟩
  · have e1 : 65536 < n1 := by omega
    clear h
    go_enter Try.func5, Try.ntmps5
    go_wp2_with fail
    refine (some14 a0 a1 n0 n1 c0 c1 _ h0 h1).mono ?_
    rintro e w' ⟨⟨b, rfl⟩, rfl⟩
    cases b
    · go_wp2
      go_ret
      exact ⟨rfl, Below.refl _ _⟩
    · go_wp2
      go_ret
      exact ⟨rfl, Below.refl _ _⟩

theorem law5 (a0 a1 : Option Addr) (n0 n1 c0 c1 : Nat) (A B : List Int) (w : World) (h0 : n0 ≤ 65536) (h1 : n1 ≤ 65536) (hA : Nums w a0 n0 A) (hB : Nums w a1 n1 B) (z0 : a0 = none → n0 = 0) (z1 : a1 = none → n1 = 0) :
    Calls Try.prog 5 #[.slice a0 n0 c0, .slice a1 n1 c1] w fun e w' => e = .returned (.bool true) ∧ Below w.heap.size w w' := by
  have HA := hid hA
  have HB := hid hB
  have Z0 := hid z0
  have Z1 := hid z1
  clear hA hB z0 z1
  go_enter Try.func5, Try.ntmps5
  go_wp2_with fail
  refine (bytes14 a0 a1 n0 n1 c0 c1 _ h0 h1).mono ?_
  rintro e w' ⟨rfl, rfl⟩
  go_wp2_with fail
  refine (asc_any a0 n0 c0 A _ h0 HA.out).mono ?_
  rintro e w1 ⟨⟨x0, rfl, hx0⟩, q0, rfl⟩
  have HX0 := hid hx0
  clear hx0
  cases x0
  · go_wp2
    go_ret
    exact ⟨rfl, belowD _ _⟩
  have AA : Hid (Asc A) := HX0.out rfl
  clear HX0
  go_wp2_with fail
  refine (asc_any a1 n1 c1 B _ h1 (HB.out.drewN q0)).mono ?_
  rintro e w1 ⟨⟨x1, rfl, hx1⟩, q1, rfl⟩
  have HX1 := hid hx1
  clear hx1
  have B1 : Hid (Below w'.heap.size w' ((w'.drewN q0).drewN q1)) := below3 (belowD _ _) (belowD _ _)
  cases x1
  · go_wp2
    go_ret
    exact ⟨rfl, belowD _ _⟩
  have AB : Hid (Asc B) := HX1.out rfl
  clear HX1
  generalize ((w'.drewN q0).drewN q1) = w1 at B1 ⊢
  go_wp2_with fail
  refine (clone_any a0 n0 c0 A _ h0 (HA.out.below B1.out) Z0.out).mono ?_
  rintro e w2 ⟨x0, rfl, hN0, hb2⟩
  have N0 := hid hN0
  have B2 := hid (below3 B1.out hb2)
  clear hN0 hb2
  go_wp2_with fail
  refine (clone_any a1 n1 c1 B _ h1 (HB.out.below B2.out) Z1.out).mono ?_
  rintro e w3 ⟨x1, rfl, hN1, hb3⟩
  have N1 := hid hN1
  have M0 := hid (N0.out.below hb3)
  have B3 := hid (below3 B2.out hb3)
  clear hN1 hb3 N0 B1 B2 HA HB
  go_wp2_with fail
  refine (zzSub x0 x1 n0 n1 n0 n1 A B _ h0 h1 M0.out N1.out AA.out AB.out).mono ?_
  rintro e w4 ⟨v, rfl, ho⟩
  obtain ⟨y, c, rfl, hY⟩ := ho.nums
  have Y := hid hY
  have M1 := hid (M0.out.below ho.2)
  have N2 := hid (N1.out.below ho.2)
  have B4 := hid (below3 B3.out ho.2)
  clear ho hY B3 M0 N1
  go_wp2_with fail
  refine (filter_any x0 x1 n0 n1 n0 n1 A B false _ h0 h1 M1.out N2.out AB.out).mono ?_
  rintro e w5 ⟨v, rfl, ho⟩
  have EQ : Hid (A.filter (fun x => mem B x == false) = A.filter (fun x => !mem B x)) := by
    show _ = _
    refine List.filter_congr fun x _ => ?_
    cases mem B x <;> rfl
  have ho' := ho
  rw [EQ.out] at ho'
  obtain ⟨y', c', rfl, hY'⟩ := ho'.nums
  have Y1 := hid (Y.out.below ho.2)
  have Y2 := hid hY'
  have B5 := hid (below3 B4.out ho.2)
  have hlen : (A.filter (fun x => !mem B x)).length ≤ 65536 := by
    have := List.length_filter_le (fun x => !mem B x) A
    have := M1.out.1
    omega
  clear ho ho' hY' B4 M1 N2 Y EQ
  generalize A.filter (fun x => !mem B x) = R at hlen Y1 Y2 ⊢
  go_wp2_with fail
  refine (same_yes y y' R.length c c' R _ hlen Y1.out Y2.out).mono ?_
  rintro e w6 ⟨rfl, q, rfl⟩
  go_wp2
  go_ret
  exact ⟨rfl, below3 B5.out (belowD _ _)⟩

/-! ### FnSubtractAndIntersectSplitFirst -/
theorem long6 (a0 a1 : Option Addr) (n0 n1 c0 c1 : Nat) (w : World) (h0 : n0 ≤ maxLen) (h1 : n1 ≤ maxLen) (h : ¬ (n0 ≤ 65536 ∧ n1 ≤ 65536)) :
    Calls Try.prog 6 #[.slice a0 n0 c0, .slice a1 n1 c1] w fun e w' => e = .returned (.bool true) ∧ Below w.heap.size w w' := by
  have hm := h0
  have hm1 := h1
  unfold maxLen at hm hm1
  by_cases e0 : 65536 < n0
  · clear h
    go_enter Try.func6, Try.ntmps6
    go_wp2_with fail
    refine (some16 a0 a1 n0 n1 c0 c1 _ h0 h1).mono ?_
    rintro e w' ⟨⟨b, rfl⟩, rfl⟩
    cases b
    · go_wp2
      go_ret
      exact ⟨rfl, Below.refl _ _⟩
    · go_wp2
      go_ret
      exact ⟨rfl, Below.refl _ _⟩
  · have e1 : 65536 < n1 := by omega
    clear h
    go_enter Try.func6, Try.ntmps6
    go_wp2_with fail
    refine (some16 a0 a1 n0 n1 c0 c1 _ h0 h1).mono ?_
    rintro e w' ⟨⟨b, rfl⟩, rfl⟩
    cases b
    · go_wp2
      go_ret
      exact ⟨rfl, Below.refl _ _⟩
    · go_wp2
      go_ret
      exact ⟨rfl, Below.refl _ _⟩

theorem law6 (a0 a1 : Option Addr) (n0 n1 c0 c1 : Nat) (A B : List Int) (w : World) (h0 : n0 ≤ 65536) (h1 : n1 ≤ 65536) (hA : Nums w a0 n0 A) (hB : Nums w a1 n1 B) (z0 : a0 = none → n0 = 0) (z1 : a1 = none → n1 = 0) :
    Calls Try.prog 6 #[.slice a0 n0 c0, .slice a1 n1 c1] w fun e w' => e = .returned (.bool true) ∧ Below w.heap.size w w' := by
  have HA := hid hA
  have HB := hid hB
  have Z0 := hid z0
  have Z1 := hid z1
  clear hA hB z0 z1
  go_enter Try.func6, Try.ntmps6
  go_wp2_with fail
  refine (bytes16 a0 a1 n0 n1 c0 c1 _ h0 h1).mono ?_
  rintro e w' ⟨rfl, rfl⟩
  go_wp2_with fail
  refine (asc_any a0 n0 c0 A _ h0 HA.out).mono ?_
  rintro e w1 ⟨⟨x0, rfl, hx0⟩, q0, rfl⟩
  have HX0 := hid hx0
  clear hx0
  cases x0
  · go_wp2
    go_ret
    exact ⟨rfl, belowD _ _⟩
  have AA : Hid (Asc A) := HX0.out rfl
  clear HX0
  go_wp2_with fail
  refine (asc_any a1 n1 c1 B _ h1 (HB.out.drewN q0)).mono ?_
  rintro e w1 ⟨⟨x1, rfl, hx1⟩, q1, rfl⟩
  have HX1 := hid hx1
  clear hx1
  have B1 : Hid (Below w'.heap.size w' ((w'.drewN q0).drewN q1)) := below3 (belowD _ _) (belowD _ _)
  cases x1
  · go_wp2
    go_ret
    exact ⟨rfl, belowD _ _⟩
  have AB : Hid (Asc B) := HX1.out rfl
  clear HX1
  generalize ((w'.drewN q0).drewN q1) = w1 at B1 ⊢
  go_wp2_with fail
  refine (clone_any a0 n0 c0 A _ h0 (HA.out.below B1.out) Z0.out).mono ?_
  rintro e w2 ⟨x0, rfl, hN0, hb2⟩
  have N0 := hid hN0
  have B2 := hid (below3 B1.out hb2)
  clear hN0 hb2
  go_wp2_with fail
  refine (clone_any a1 n1 c1 B _ h1 (HB.out.below B2.out) Z1.out).mono ?_
  rintro e w3 ⟨x1, rfl, hN1, hb3⟩
  have N1 := hid hN1
  have M0 := hid (N0.out.below hb3)
  have B3 := hid (below3 B2.out hb3)
  clear hN1 hb3 N0 B1 B2 HA HB
  go_wp2_with fail
  refine (zzInter x0 x1 n0 n1 n0 n1 A B _ h0 h1 M0.out N1.out AA.out AB.out).mono ?_
  rintro e w4 ⟨v, rfl, ho⟩
  obtain ⟨y, c, rfl, hY⟩ := ho.nums
  have Y := hid hY
  have M1 := hid (M0.out.below ho.2)
  have N2 := hid (N1.out.below ho.2)
  have B4 := hid (below3 B3.out ho.2)
  clear ho hY B3 M0 N1
  go_wp2_with fail
  refine (zzSub x0 x1 n0 n1 n0 n1 A B _ h0 h1 M1.out N2.out AA.out AB.out).mono ?_
  rintro e w5 ⟨v, rfl, ho⟩
  obtain ⟨y', c', rfl, hY'⟩ := ho.nums
  have Y1 := hid (Y.out.below ho.2)
  have Y2 := hid hY'
  have M2 := hid (M1.out.below ho.2)
  have B5 := hid (below3 B4.out ho.2)
  have LC : Hid ((A.filter (mem B)).length + (A.filter (fun x => !mem B x)).length = n0) := by
    have := Pl.count_two A B A.length (Nat.le_refl _)
    rw [List.take_length] at this
    show _ = _
    rw [this]; exact M1.out.1
  have MG := hid (fun w a0 a1 n0 n1 c0 c1 hn hI hO => merge_any a0 a1 n0 n1 c0 c1 A B w hn hI hO AA.out)
  clear ho hY' B4 M1 N2 Y
  have lI : (A.filter (mem B)).length ≤ 65536 := by have := LC.out; omega
  have lO : (A.filter (fun x => !mem B x)).length ≤ 65536 := by have := LC.out; omega
  generalize hI : A.filter (mem B) = I at Y1 LC lI ⊢
  generalize hO : A.filter (fun x => !mem B x) = O at Y2 LC lO ⊢
  have HI := hid hI
  have HO := hid hO
  clear hI hO
  have hne : ((I.length : Int) + (O.length : Int) != (n0 : Int)) = false := by
    have := LC.out
    simp; omega
  go_wp2_with fail
  refine (MG.out w5 y y' I.length O.length c c' (by rw [M2.out.1]; exact h0) (by rw [HI.out]; exact Y1.out) (by rw [HO.out]; exact Y2.out)).mono ?_
  rintro e w6 ⟨v, rfl, ho⟩
  obtain ⟨z, d, rfl, hZ⟩ := ho.nums
  have Z2 := hid hZ
  have M3 := hid (M2.out.below ho.2)
  have B6 := hid (below3 B5.out ho.2)
  have LA : Hid (A.length = n0) := M2.out.1
  clear ho hZ B5 M2 MG Y1 Y2 LC
  go_wp2_with fail
  rw [LA.out]
  refine (same_yes z x0 n0 d n0 A _ h0 (by rw [← LA.out] at *; exact Z2.out) M3.out).mono ?_
  rintro e w7 ⟨rfl, q, rfl⟩
  go_wp2
  go_ret
  exact ⟨rfl, below3 B6.out (belowD _ _)⟩

end Go.Proofs.Qxb6606066a.Wk
