import Derived.Test.Qxb6605490aPatD
namespace Go.Proofs.Qxb6605490a.Pat
open Go.ChangeShapes Go.WideShapes Go.ChangeAt Go.RowKit
set_option linter.unusedVariables false

/-! ### the shims -/
theorem newIndex (w : World) :
    Calls Try.prog 9 #[] w fun e w' => e = .returned (.pointer (some ⟨w.heap.size, 0, none⟩)) ∧ Fresh w' w.heap.size ∧ Below w.heap.size w w' := by
  go_enter Try.func9, Try.ntmps9
  go_wp2
  go_ret
  refine ⟨rfl, ⟨by simp, by simp, by simp, fun j => by simp⟩, (Below.refl _ _).alloc (Nat.le_refl _) _⟩

theorem Idx.len {w : World} {X M : Nat} {pre suf : Value} {n : Nat} {D : DataW Unit} {A B : List Int} (h : Idx w X M pre suf n D A B) (ty : TypeId) : (Builtin.len_ #[46] ty #[.map (some M)]).run Try.prog w = .ok (.int .i64 (Maps.size D)) w := by
  obtain ⟨es, clock, hb, F, hs, hD, _⟩ := h.g
  exact World.ownsMap.len (R := rowElem w (M + 1) 3 .i64) ⟨es, clock, hb, F, hs, hD⟩ Try.underlying46 ty

theorem count (X : Nat) (P : Key → List Int) (Q : Key → Bool) (z : Nat) (A B : List Int) (N : Nat) (w : World) (h : Ready w X P Q z A B N) :
    Calls Try.prog 13 #[.pointer (some ⟨X, 0, none⟩)] w fun e w' => e = .returned (.int .i64 z) ∧ w' = w := by
  obtain ⟨M, pre, suf, D, hI, hR⟩ := h
  have c0 := hI.c0
  have hl := hI.len
  have E := hid hR.size
  clear hI hR
  go_enter Try.func13, Try.ntmps13
  go_wp2
  go_ret
  exact ⟨by rw [← E.out]; rfl, rfl⟩

theorem hasMap (X : Nat) (P : Key → List Int) (Q : Key → Bool) (z : Nat) (A B : List Int) (N : Nat) (w : World) (h : Ready w X P Q z A B N) :
    Calls Try.prog 14 #[.pointer (some ⟨X, 0, none⟩)] w fun e w' => e = .returned (.bool true) ∧ w' = w := by
  obtain ⟨M, pre, suf, D, hI, hR⟩ := h
  have c0 := hI.c0
  have q := fun (w : World) (r : Option Nat) => run_neq_map_nil (P := Try.prog) w 46 52 22 r Try.underlying46
  clear hI hR
  go_enter Try.func14, Try.ntmps14
  go_wp2
  go_ret
  exact ⟨rfl, rfl⟩

theorem prefixes (X : Nat) (P : Key → List Int) (Q : Key → Bool) (z : Nat) (A B : List Int) (N : Nat) (w : World) (h : Ready w X P Q z A B N) :
    Calls Try.prog 17 #[.pointer (some ⟨X, 0, none⟩)] w fun e w' => (∃ a c, e = .returned (.slice a A.length c) ∧ Nums w a A.length A) ∧ w' = w := by
  obtain ⟨M, pre, suf, D, hI, hR⟩ := h
  obtain ⟨a, c, rfl, hN⟩ := row_nums hI.p
  have c1 := hI.c1
  have H := hid hN
  clear hI hR hN
  go_enter Try.func17, Try.ntmps17
  go_wp2
  go_ret
  exact ⟨⟨_, _, rfl, H.out⟩, rfl⟩

theorem suffixes (X : Nat) (P : Key → List Int) (Q : Key → Bool) (z : Nat) (A B : List Int) (N : Nat) (w : World) (h : Ready w X P Q z A B N) :
    Calls Try.prog 18 #[.pointer (some ⟨X, 0, none⟩)] w fun e w' => (∃ a c, e = .returned (.slice a B.length c) ∧ Nums w a B.length B) ∧ w' = w := by
  obtain ⟨M, pre, suf, D, hI, hR⟩ := h
  obtain ⟨a, c, rfl, hN⟩ := row_nums hI.s
  have c1 := hI.c2
  have H := hid hN
  clear hI hR hN
  go_enter Try.func18, Try.ntmps18
  go_wp2
  go_ret
  exact ⟨⟨_, _, rfl, H.out⟩, rfl⟩

theorem places (X : Nat) (P : Key → List Int) (Q : Key → Bool) (z : Nat) (A B : List Int) (N : Nat) (k : Key) (w : World) (h : Ready w X P Q z A B N) (hN : N < maxLen) (hk : Valid k) :
    Calls Try.prog 24 #[.pointer (some ⟨X, 0, none⟩), .int .i64 k.1, .string (bs k.2)] w fun e w' => (∃ a c, e = .returned (.slice a (P k).length c) ∧ Nums w a (P k).length (P k)) ∧ w' = w := by
  obtain ⟨M, pre, suf, D, hI, hR⟩ := h
  have c0 := hI.c0
  obtain ⟨v, zs, hlook, hat, hoi, _⟩ := look_groups hI.g hN hk
  have e := hR.read hk hat hoi
  subst e
  obtain ⟨a, c, rfl, hNu⟩ := row_nums hoi.1
  have H := hid hNu
  simp only [kval] at hlook
  clear hI hR hNu hat hoi hk
  go_enter Try.func24, Try.ntmps24
  go_wp2
  go_ret
  exact ⟨⟨_, _, rfl, H.out⟩, rfl⟩

/-! ### ZZPatternIndexAdd -/
theorem info52 : (Try.prog.info? 52).map (fun i => (i.zero, i.size, i.bytes)) = some (some (.agg #[.int .i64 0, .string ByteArray.empty]), 2, 24) := by kernel_rfl

theorem Fresh.below {w w' : World} {X : Nat} (h : Fresh w X) (hb : Below w.heap.size w w') : Fresh w' X := by
  obtain ⟨c0, c1, c2, f⟩ := h
  have hX : X < w.heap.size := block_lt_of_cell c0
  exact ⟨(hb.cell (p := ⟨X, 0, none⟩) hX).trans c0, (hb.cell (p := ⟨X, 1, none⟩) hX).trans c1, (hb.cell (p := ⟨X, 2, none⟩) hX).trans c2, fun j => (hb.frozen (p := ⟨X, j, none⟩) hX).trans (f j)⟩
theorem Ready.below {w w' : World} {X : Nat} {P : Key → List Int} {Q : Key → Bool} {z : Nat} {A B : List Int} {N : Nat} (h : Ready w X P Q z A B N) (hb : Below w.heap.size w w') : Ready w' X P Q z A B N := by
  obtain ⟨M, pre, suf, D, hI, hR⟩ := h
  exact ⟨M, pre, suf, D, hI.below hb, hR⟩

/-- WHAT THE FILLING LOOP HOLDS behind k rounds. -/
def Filled (w wr : World) (n k : Nat) (ks : List Key) : Prop := (∃ xs, Ps wr w.heap.size n xs ∧ Pairs xs ks k) ∧ Below w.heap.size w wr

theorem Filled.zero {w wr : World} {n : Nat} {ks : List Key} {xs : List Value} (h : wr.ownsRow 0 52 2 (.slice (some ⟨w.heap.size, 0, none⟩) n n) n xs) (hg : w.grownBy wr none) : Filled w wr n 0 ks :=
  ⟨⟨xs, h, fun j hj => absurd hj (by omega)⟩, (Below.refl _ _).grown hg (Nat.le_refl _) (by simp)⟩
theorem Filled.next {w wr : World} {n k : Nat} {ks : List Key} (h : Filled w wr n k ks) (hk : k < n) :
    Filled w ((wr.setCell ⟨w.heap.size, k * 2, none⟩ (.int .i64 (at0 ks k).1)).setCell ⟨w.heap.size, k * 2 + 1, none⟩ (.string (bs (at0 ks k).2))) n (k + 1) ks := by
  obtain ⟨⟨xs, ho, hx⟩, hb⟩ := h
  refine ⟨⟨_, (World.ownsRow.stored (World.ownsRow.stored ho (k * 2) _).1 (k * 2 + 1) _).1, fun j hj => ?_⟩, (hb.setCell (Nat.le_refl _) _).setCell (Nat.le_refl _) _⟩
  have hl := ho.1
  by_cases e : j = k
  · subst e
    rw [List.getElem?_set_ne (by omega), List.getElem?_set_self (by omega), List.getElem?_set_self (by simp; omega)]
    exact ⟨rfl, rfl⟩
  · obtain ⟨h1, h2⟩ := hx j (by omega)
    rw [List.getElem?_set_ne (by omega), List.getElem?_set_ne (by omega), List.getElem?_set_ne (by omega), List.getElem?_set_ne (by omega)]
    exact ⟨h1, h2⟩
theorem Filled.frozen {w wr : World} {n k : Nat} {ks : List Key} (h : Filled w wr n k ks) (j : Nat) : wr.frozen? ⟨w.heap.size, j, none⟩ = false := by
  obtain ⟨⟨xs, ho, hx⟩, hb⟩ := h
  exact World.ownsRow.frozenAt ho j
theorem Filled.old {w wr : World} {n k : Nat} {ks : List Key} (h : Filled w wr n k ks) (j : Nat) (hj : j < n * 2) : ∃ v, wr.cell? ⟨w.heap.size, j, none⟩ = some v := by
  obtain ⟨⟨xs, ho, hx⟩, hb⟩ := h
  have hl := ho.1
  exact ⟨xs[j]'(by omega), by rw [World.ownsRow.cellAt ho j (by omega), List.getElem?_eq_getElem]⟩
theorem Filled.drew {w wr : World} {n k : Nat} {ks : List Key} (h : Filled w wr n k ks) : Filled w wr.drew n k ks := by
  obtain ⟨⟨xs, ho, hx⟩, hb⟩ := h
  exact ⟨⟨xs, World.ownsRow.drew ho, hx⟩, hb.drew⟩

theorem zadd (X : Nat) (a0 a1 : Option Addr) (n c0 c1 : Nat) (ks : List Key) (q : Int) (P0 : Key → List Int) (Q0 : Key → Bool) (z : Nat) (A B : List Int) (N : Nat) (w : World) (hn : n ≤ 4096) (hN : N ≤ 4096) (hA : A.length ≤ 4096) (hB : B.length ≤ 4096)
    (hl : ks.length = n) (hv : ∀ k ∈ ks, Valid k) (hq : (Lit.int .i64 q).wf = true) (hPQ : ∀ x, P0 x ≠ [] → Q0 x = true) (hX : X < w.heap.size) (h0 : Kr w a0 n ks) (h1 : Tr w a1 n ks)
    (hr : (Fresh w X ∧ P0 = (fun _ => []) ∧ Q0 = (fun _ => false) ∧ z = 0 ∧ A = [] ∧ B = [] ∧ N = 0) ∨ Ready w X P0 Q0 z A B N) :
    Calls Try.prog 10 #[.pointer (some ⟨X, 0, none⟩), .slice a0 n c0, .slice a1 n c1, .int .i64 q] w fun e w' => e = .returned (.tuple #[]) ∧
      Ready w' X (addP P0 q ks n) (addQ Q0 ks n) (z + cn ks Q0 n) (A ++ wl ks 2 (fun x => ends (P0 x) q) n) (B ++ wl ks 3 (fun x => ends (P0 x) q) n) (N + n) ∧ Below X w w' := by
  have H0 := hid h0
  have H1 := hid h1
  have HL := hid hl
  have ADD := hid (fun (xs : List Value) (W : World) => add_any X w.heap.size n ks xs q P0 Q0 z A B N W hn hN hA hB hl hv hq hPQ hX)
  have HR : Hid (∀ W, Below w.heap.size w W → (Fresh W X ∧ P0 = (fun _ => []) ∧ Q0 = (fun _ => false) ∧ z = 0 ∧ A = [] ∧ B = [] ∧ N = 0) ∨ Ready W X P0 Q0 z A B N) := fun W hb => hr.imp (fun h => ⟨h.1.below hb, h.2⟩) (fun h => h.below hb)
  clear h0 h1 hl hr hv hq hPQ hA hB
  obtain ⟨i0, hi, hz0, hz1, hz2⟩ := info_parts info52
  go_enter Try.func10, Try.ntmps10
  go_wp2_with (first | (at_make; refine wpList_make_full _ rfl _ _ 49 rfl 0 52 i0 (.agg #[.int .i64 0, .string ByteArray.empty]) 2 Try.underlying49 hi hz0 hz1 _ _ _ _ n rfl rfl rfl rfl (by rw [hz2]; omega) (by unfold maxLen; omega) (Nat.zero_le _) ?_; intro w1 ho hg; have D := hid (Filled.zero (ks := ks) ho hg); clear ho hg) | go_in)
  go_loopw [9] (fun i wr => ∃ k : Nat, k ≤ n ∧ i = .int .i64 k ∧ Filled w wr n k ks) (fun i _ => n - (intOf i).toNat)
  case atStart => exact ⟨0, Nat.zero_le _, rfl, D.out⟩
  case round =>
    clear D
    obtain ⟨k, hk, rfl, hD⟩ := hrel
    by_cases hlt : k < n
    · obtain ⟨b0, o0, e0, hb0, hc0⟩ := H0.out (by omega)
      obtain ⟨b1, o1, e1, hb1, hc1⟩ := H1.out (by omega)
      subst e0 e1
      have k0 := (hD.2.cell (p := ⟨b0, o0 + k, none⟩) hb0).trans (hc0 k hlt)
      have k1 := (hD.2.cell (p := ⟨b1, o1 + k, none⟩) hb1).trans (hc1 k hlt)
      clear hc0 hc1
      obtain ⟨v0, hv0⟩ := hD.old (k * 2) (by omega)
      obtain ⟨v1, hv1⟩ := hD.old (k * 2 + 1) (by omega)
      have f0 := hD.frozen (k * 2)
      have f1 := hD.frozen (k * 2 + 1)
      have D' := hid (hD.drew.next hlt)
      have hlt' : (k : Int) < (n : Int) := by omega
      generalize (at0 ks k).1 = x at k0 D'
      generalize bs (at0 ks k).2 = y at k1 D'
      clear hD
      go_wp2
      go_region
      go_wp2
      go_roundw
      case rel => exact ⟨k + 1, by omega, by go_num, D'.out⟩
      case measure => simp [intOf]; omega
    · obtain rfl : k = n := by omega
      obtain ⟨⟨xs, hps, hpr⟩, hbw⟩ := hD
      have CALL := hid (ADD.out xs wr hps hpr (HR.out wr hbw))
      have BW := hid (hbw.mono (Nat.le_of_lt hX))
      clear hps hpr hbw ADD HR
      go_wp2_with (go_at_call 23; refine CALL.out.mono ?_; rintro e w' ⟨rfl, hr', hb'⟩; have RR := hid hr'; have BB := hid hb'; clear hr' hb')
      go_end0
      exact ⟨rfl, RR.out, BW.out.trans BB.out⟩

end Go.Proofs.Qxb6605490a.Pat
