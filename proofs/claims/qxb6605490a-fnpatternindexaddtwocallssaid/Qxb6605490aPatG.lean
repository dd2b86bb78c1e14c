import Derived.Test.Qxb6605490aPatF
namespace Go.Proofs.Qxb6605490a.Pat
open Go.ChangeShapes Go.WideShapes Go.ChangeAt Go.RowKit
set_option linter.unusedVariables false
set_option maxRecDepth 100000
set_option maxHeartbeats 4000000

/-! ### the law: its ways out ahead of the work -/
theorem law_long (a0 a1 a3 a4 : Option Addr) (n0 n1 n3 n4 c0 c1 c3 c4 : Nat) (p1 p2 : Int) (ss ls : List ByteArray) (w : World) (h0 : n0 ≤ maxLen) (h1 : n1 ≤ maxLen) (h3 : n3 ≤ maxLen) (h4 : n4 ≤ maxLen) (hs : Strs w a1 n1 ss) (hl : Strs w a4 n4 ls)
    (h : 4096 < n0 ∨ 4096 < n1 ∨ 4096 < n3 ∨ 4096 < n4) :
    Calls Try.prog 3 #[.slice a0 n0 c0, .slice a1 n1 c1, .int .i64 p1, .slice a3 n3 c3, .slice a4 n4 c4, .int .i64 p2] w fun e w' => e = .returned (.bool true) ∧ Below w.heap.size w w' := by
  have HS := hid hs
  have HL := hid hl
  have HH := hid h
  clear hs hl h
  go_enter Try.func3, Try.ntmps3
  go_wp2_with fail
  refine (bytes_any a0 a1 a3 a4 n0 n1 n3 n4 c0 c1 c3 c4 p1 p2 ss ls _ h0 h1 h3 h4 HS.out HL.out).mono ?_
  rintro e w' ⟨⟨b, rfl⟩, rfl⟩
  clear HS HL h0 h1 h3 h4
  cases b
  · go_wp2
    go_ret
    exact ⟨rfl, Below.refl _ _⟩
  by_cases g0 : (4096 : Int) < (n0 : Int)
  · go_wp2
    go_ret
    exact ⟨rfl, Below.refl _ _⟩
  by_cases g1 : (4096 : Int) < (n1 : Int)
  · go_wp2
    go_ret
    exact ⟨rfl, Below.refl _ _⟩
  by_cases g3 : (4096 : Int) < (n3 : Int)
  · go_wp2
    go_ret
    exact ⟨rfl, Below.refl _ _⟩
  have g4 : (4096 : Int) < (n4 : Int) := by have := HH.out; omega
  go_wp2
  go_ret
  exact ⟨rfl, Below.refl _ _⟩

theorem law_diff (a0 a1 a3 a4 : Option Addr) (n0 n1 n3 n4 c0 c1 c3 c4 : Nat) (p1 p2 : Int) (ss ls : List ByteArray) (w : World) (h0 : n0 ≤ 4096) (h1 : n1 ≤ 4096) (h3 : n3 ≤ 4096) (h4 : n4 ≤ 4096) (hs : Strs w a1 n1 ss) (hl : Strs w a4 n4 ls)
    (h : ¬ (n1 = n0 ∧ n4 = n3)) :
    Calls Try.prog 3 #[.slice a0 n0 c0, .slice a1 n1 c1, .int .i64 p1, .slice a3 n3 c3, .slice a4 n4 c4, .int .i64 p2] w fun e w' => e = .returned (.bool true) ∧ Below w.heap.size w w' := by
  have HS := hid hs
  have HL := hid hl
  have HH := hid h
  clear hs hl h
  go_enter Try.func3, Try.ntmps3
  go_wp2_with fail
  refine (bytes_any a0 a1 a3 a4 n0 n1 n3 n4 c0 c1 c3 c4 p1 p2 ss ls _ (by unfold maxLen; omega) (by unfold maxLen; omega) (by unfold maxLen; omega) (by unfold maxLen; omega) HS.out HL.out).mono ?_
  rintro e w' ⟨⟨b, rfl⟩, rfl⟩
  cases b
  · go_wp2
    go_ret
    exact ⟨rfl, Below.refl _ _⟩
  go_wp2_with fail
  refine (sum_any _ a1 n1 c1 ss _ h1 HS.out).mono ?_
  rintro e w' ⟨⟨T, rfl⟩, rfl⟩
  by_cases hT : (1048576 : Int) < T
  · go_wp2
    go_ret
    exact ⟨rfl, Below.refl _ _⟩
  go_wp2_with fail
  refine (sum_any _ a4 n4 c4 ls _ h4 HL.out).mono ?_
  rintro e w' ⟨⟨U, rfl⟩, rfl⟩
  by_cases hU : (1048576 : Int) < U
  · go_wp2
    go_ret
    exact ⟨rfl, Below.refl _ _⟩
  by_cases e1 : (n1 : Int) = (n0 : Int)
  · have e2 : ¬ (n4 : Int) = (n3 : Int) := by have := HH.out; omega
    have e1' : ((n1 : Int) == (n0 : Int)) = true := by simp [e1]
    have e2' : ((n4 : Int) == (n3 : Int)) = false := by simp [e2]
    clear e1 e2
    go_wp2
    repeat (go_ret; exact ⟨rfl, Below.refl _ _⟩)
  · have e1' : ((n1 : Int) == (n0 : Int)) = false := by simp [e1]
    clear e1
    go_wp2
    go_ret
    exact ⟨rfl, Below.refl _ _⟩

theorem Tr.strs {w : World} {a : Option Addr} {n : Nat} {ks : List Key} (h : Tr w a n ks) : ∃ ss, Strs w a n ss := by
  refine ⟨(List.range n).map (fun i => bs (at0 ks i).2), fun h0 => ?_⟩
  obtain ⟨b, off, ha, hb, hc⟩ := h h0
  refine ⟨b, off, ha, hb, fun i hi => ?_⟩
  rw [hc i hi]
  simp [List.getD, hi]

/-! ### the plain law's joints -/
theorem adds_want {K1 K2 : List Key} {n m : Nat} (h1 : K1.length = n) (h2 : K2.length = m) (p1 p2 : Int) (x : Key) :
    addP (addP (fun _ => []) p1 K1 n) p2 K2 m x = want (inTo K1 n x) (inTo K2 m x) p1 p2 := by
  subst h1 h2
  rw [two_adds]
  simp [inTo]
theorem addQ_of {K1 : List Key} {n : Nat} {p1 : Int} (x : Key) (h : addP (fun _ => []) p1 K1 n x ≠ []) : addQ (fun _ => false) K1 n x = true := by
  by_cases e : x ∈ K1.take n
  · simp [addQ, e]
  · simp [addP, e] at h
theorem skip_eq (K1 : List Key) (n : Nat) (p1 p2 : Int) (hp : p1 = p2) (x : Key) : inTo K1 n x = ends (addP (fun _ => []) p1 K1 n x) p2 := by
  subst hp
  by_cases e : x ∈ K1.take n <;> simp [inTo, addP, e, ends]
theorem skip_ne (K1 : List Key) (n : Nat) (p1 p2 : Int) (hp : ¬ p1 = p2) (x : Key) : false = ends (addP (fun _ => []) p1 K1 n x) p2 := by
  by_cases e : x ∈ K1.take n <;> simp [addP, e, ends, hp]

theorem checkZ (u : World) (X : Nat) (a0 a1 : Option Addr) (n c0 c1 : Nat) (ks : List Key) (m1 m2 mc n1 n2 nc : Nat) (S1 S2 C0 : Key → Bool) (p1 p2 : Int) (P : Key → List Int) (Q : Key → Bool) (z : Nat) (A B : List Int) (N : Nat) (w : World)
    (hn : n ≤ 4096) (hnc : nc ≤ 4096) (hN : N ≤ 65536) (hl : ks.length = n) (hv : ∀ k ∈ ks, Valid k) (h0 : Kr u a0 n ks) (h1 : Tr u a1 n ks) (hS1 : SetAt u m1 n1 S1) (hS2 : SetAt u m2 n2 S2) (hR : Ready u X P Q z A B N)
    (hP : ∀ k ∈ ks, P k = want (S1 k) (S2 k) p1 p2) (hb : Below u.heap.size u w) (hmc : u.heap.size ≤ mc) (hC : SetAt w mc nc C0) (zz : Nat) (hz : zz = cn ks C0 n) :
    Calls Try.prog 12 #[.pointer (some ⟨X, 0, none⟩), .slice a0 n c0, .slice a1 n c1, .map (some m1), .map (some m2), .map (some mc), .int .i64 p1, .int .i64 p2] w fun e w' =>
      e = .returned (.tuple #[.int .i64 zz, .bool true]) ∧ SetAt w' mc (nc + n) (fun x => C0 x || inTo ks n x) ∧ Below u.heap.size u w' := by
  subst hz
  exact check u X a0 a1 n c0 c1 ks m1 m2 mc n1 n2 nc S1 S2 C0 p1 p2 P Q z A B N w hn hnc hN hl hv h0 h1 hS1 hS2 hR hP hb hmc hC
theorem countZ (X : Nat) (P : Key → List Int) (Q : Key → Bool) (z : Nat) (A B : List Int) (N : Nat) (w : World) (h : Ready w X P Q z A B N) (i : Int) (hi : i = (z : Int)) :
    Calls Try.prog 13 #[.pointer (some ⟨X, 0, none⟩)] w fun e w' => e = .returned (.int .i64 i) ∧ w' = w := by
  subst hi; exact count X P Q z A B N w h

theorem wantLZ (u : World) (a0 a1 : Option Addr) (n c0 c1 : Nat) (ks : List Key) (kind : Int) (sv v : Value) (skip : Key → Bool) (A : List Int) (w : World) (hn : n ≤ 4096) (hA : A.length ≤ 4096) (hl : ks.length = n) (hv : ∀ k ∈ ks, Valid k)
    (h0 : Kr u a0 n ks) (h1 : Tr u a1 n ks) (hs : ∀ W, Below u.heap.size u W → ∀ k, Valid k → (Instr.lookup 31 sv (kval k) false).run Try.prog W = .ok (.bool (skip k)) W) (hr : Row w u.heap.size v A) (hb : Below u.heap.size u w) (L : List Int) (hL : L = A ++ wl ks kind skip n) :
    Calls Try.prog 15 #[.slice a0 n c0, .slice a1 n c1, .int .i64 kind, sv, v] w fun e w' => ∃ v', e = .returned v' ∧ Row w' u.heap.size v' L ∧ Below u.heap.size u w' := by
  subst hL; exact wantL u a0 a1 n c0 c1 ks kind sv v skip A w hn hA hl hv h0 h1 hs hr hb
theorem two_len (K1 K2 : List Key) (kind : Int) (f g : Key → Bool) (n m : Nat) (hn : n ≤ 4096) (hm : m ≤ 4096) : (([] ++ wl K1 kind f n) ++ wl K2 kind g m).length ≤ 65536 := by
  have h1 := wl_len K1 kind f n
  have h2 := wl_len K2 kind g m
  rw [List.nil_append, List.length_append]
  omega
theorem row_new (w : World) (C : Nat) (hC : C ≤ w.heap.size) : Row (w.alloc (.cells #[] 3)) C (.slice (some ⟨w.heap.size, 0, none⟩) 0 0) [] :=
  World.ownsRow_lit w #[] 0 hC (Nat.zero_le _) rfl

/-- What the law's second half stands on: u, the world behind the two adds and the two sets. -/
structure Base (u : World) (X : Nat) (a0 a1 a3 a4 : Option Addr) (n m : Nat) (K1 K2 : List Key) (p1 p2 : Int) (m1 m2 : Nat) : Prop where
  k1 : Kr u a0 n K1
  t1 : Tr u a1 n K1
  k2 : Kr u a3 m K2
  t2 : Tr u a4 m K2
  s1 : SetAt u m1 n (inTo K1 n)
  s2 : SetAt u m2 m (inTo K2 m)
  r : Ready u X (addP (addP (fun _ => []) p1 K1 n) p2 K2 m) (addQ (addQ (fun _ => false) K1 n) K2 m) (0 + cn K1 (fun _ => false) n + cn K2 (addQ (fun _ => false) K1 n) m)
    (([] ++ wl K1 2 (fun x => ends ((fun _ => []) x) p1) n) ++ wl K2 2 (fun x => ends (addP (fun _ => []) p1 K1 n x) p2) m)
    (([] ++ wl K1 3 (fun x => ends ((fun _ => []) x) p1) n) ++ wl K2 3 (fun x => ends (addP (fun _ => []) p1 K1 n x) p2) m) (0 + n + m)

theorem Base.below {u u' : World} {X : Nat} {a0 a1 a3 a4 : Option Addr} {n m : Nat} {K1 K2 : List Key} {p1 p2 : Int} {m1 m2 : Nat} (h : Base u X a0 a1 a3 a4 n m K1 K2 p1 p2 m1 m2) (hb : Below u.heap.size u u') : Base u' X a0 a1 a3 a4 n m K1 K2 p1 p2 m1 m2 :=
  ⟨h.k1.below hb, h.t1.below hb, h.k2.below hb, h.t2.below hb, h.s1.below hb, h.s2.below hb, h.r.below hb⟩

end Go.Proofs.Qxb6605490a.Pat
