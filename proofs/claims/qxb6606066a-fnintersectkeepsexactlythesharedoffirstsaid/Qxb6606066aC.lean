import Derived.Test.Qxb6606066aB
namespace Go.Proofs.Qxb6606066a.Wk
open Go.ChangeShapes Go.WideShapes Go.ChangeAt Go.RowKit
open Pl (Asc AscTo mem Behind)
set_option linter.unusedVariables false

/-! ### subtract -/
theorem sub_any (a0 a1 : Option Addr) (n0 n1 c0 c1 : Nat) (A B : List Int) (w : World) (h0 : n0 ≤ 65536) (h1 : n1 ≤ 65536) (hA : Nums w a0 n0 A) (hB : Nums w a1 n1 B) (aA : Asc A) (aB : Asc B) :
    Calls Try.prog 20 #[.slice a0 n0 c0, .slice a1 n1 c1] w fun e w' => ∃ v, e = .returned v ∧ Own w w' v (A.filter (fun x => !mem B x)) := by
  have HA : Hid (Nums w a0 n0 A) := hA
  have HB : Hid (Nums w a1 n1 B) := hB
  have LA : Hid (A.length = n0) := hA.1
  have LB : Hid (B.length = n1) := hB.1
  have AA : Hid (Asc A) := aA
  have AB : Hid (Asc B) := aB
  clear hA hB aA aB
  obtain ⟨i0, hi, hz0, hz1, hz2⟩ := info_parts info28
  go_enter Try.func20, Try.ntmps20
  go_wp2_with (first | (at_make; refine wpList_make_own _ rfl _ _ 22 rfl w.heap.size 28 i0 (.int .u64 0) 1 Try.underlying22 hi hz0 hz1 _ _ _ n0 rfl rfl rfl (by rw [hz2]; omega) (by unfold maxLen; omega) (Nat.le_refl _) ?_; intro w1 ho hg; have O0 := hid (show Own w w1 _ [] from ⟨ho, (Below.refl _ _).grown hg (Nat.le_refl _) (by simp)⟩); clear ho hg) | go_in)
  go_loopw [5, 6, 14] (fun v j i wr => ∃ k l : Nat, k ≤ n0 ∧ l ≤ n1 ∧ i = .int .i64 k ∧ j = .int .i64 l ∧ Behind A B k l ∧ Own w wr v ((A.take k).filter (fun x => !mem B x))) (fun _ _ i _ => n0 - (intOf i).toNat)
  case atStart => exact ⟨0, 0, Nat.zero_le _, Nat.zero_le _, rfl, rfl, Pl.behind_zero _ _ _, O0.out⟩
  case round =>
    clear O0
    obtain ⟨k, l, hk, hl, rfl, rfl, hbe, ho⟩ := hrel
    have BE := hid hbe
    have OW := hid ho
    clear hbe ho
    by_cases hlt : k < n0
    · obtain ⟨b0, o0, e0, hb0, hc0⟩ := HA.out.2 (by omega)
      subst e0
      have ca := (OW.out.2.cell (p := ⟨b0, o0 + k, none⟩) hb0).trans (hc0 k hlt)
      clear hc0
      have hlt' : (k : Int) < (n0 : Int) := by omega
      have HL : Hid (k < A.length) := by show k < A.length; rw [LA.out]; exact hlt
      have S1 : Hid (∀ l', l' ≤ n1 → (∀ m, m < l' → B.getD m 0 < A.getD k 0) → Behind A B k l') := fun l' h1 h2 m i h3 h4 h5 => Int.lt_of_lt_of_le (h2 m h3) (Pl.asc_le AA.out h4 h5)
      have S2 : Hid (mem B (A.getD k 0) = false → (A.take (k + 1)).filter (fun x => !mem B x) = (A.take k).filter (fun x => !mem B x) ++ [A.getD k 0]) := fun h => Pl.filter_hit A _ k HL.out (by rw [h]; rfl)
      have S3 : Hid (mem B (A.getD k 0) = true → (A.take (k + 1)).filter (fun x => !mem B x) = (A.take k).filter (fun x => !mem B x)) := fun h => Pl.filter_miss A _ k HL.out (by rw [h]; rfl)
      have S4 : Hid (∀ l', Behind A B k l' → (l' < n1 → A.getD k 0 < B.getD l' 0) → mem B (A.getD k 0) = false) := fun l' h1 h2 => Pl.not_held AB.out h1 HL.out (by rw [LB.out]; exact h2)
      have S5 : Hid (∀ l', l' < n1 → A.getD k 0 = B.getD l' 0 → mem B (A.getD k 0) = true) := fun l' h1 h2 => Pl.held (by rw [LB.out]; exact h1) h2
      have S6 : Hid (∀ m, m < l → B.getD m 0 < A.getD k 0) := fun m hm => BE.out m k hm (Nat.le_refl _) HL.out
      have hlen := Pl.filter_len A (fun x => !mem B x) k
      generalize (A.take k).filter (fun x => !mem B x) = xs at OW S2 S3 hlen
      generalize A.getD k 0 = x at ca S1 S2 S3 S4 S5 S6
      go_wp2
      go_loop [6] (fun j => ∃ l' : Nat, l ≤ l' ∧ l' ≤ n1 ∧ j = .int .i64 l' ∧ ∀ m, m < l' → B.getD m 0 < x) (fun j => n1 - (intOf j).toNat)
      case atStart => exact ⟨l, Nat.le_refl _, hl, rfl, S6.out⟩
      case round =>
        obtain ⟨l', hll, hl', rfl, hm⟩ := hrel
        have HM := hid hm
        clear hm
        by_cases hln : l' < n1
        · obtain ⟨b1, o1, e1, hb1, hc1⟩ := HB.out.2 (by omega)
          subst e1
          have cb := (OW.out.2.cell (p := ⟨b1, o1 + l', none⟩) hb1).trans (hc1 l' hln)
          clear hc1
          have hln' : (l' : Int) < (n1 : Int) := by omega
          have T1 : Hid (B.getD l' 0 < x → ∀ m, m < l' + 1 → B.getD m 0 < x) := fun h m hm => by
            by_cases e : m = l'
            · subst e; exact h
            · exact HM.out m (by omega)
          have T2 : Hid (x < B.getD l' 0 → mem B x = false) := fun h => S4.out l' (S1.out l' hl' HM.out) (fun _ => h)
          have T3 : Hid (x = B.getD l' 0 → mem B x = true) := fun h => S5.out l' hln h
          have T4 : Hid (Behind A B (k + 1) l') := (S1.out l' hl' HM.out).up _ (by omega)
          generalize B.getD l' 0 = y at cb T1 T2 T3
          by_cases hyx : y < x
          · have RR := hid (T1.out hyx)
            clear T1 T2 T3 T4
            go_wp2
            go_round
            case rel => exact ⟨l' + 1, by omega, by omega, by go_num, RR.out⟩
            case measure => simp [intOf]; omega
          · have hne : ((l' : Int) == (n1 : Int)) = false := by simp; omega
            by_cases hxy : x = y
            · subst hxy
              have RE := hid (S3.out (T3.out rfl))
              clear T1 T2 T3 S1 S2 S3 S4 S5 S6
              go_wp2
              go_roundw
              case rel => exact ⟨k + 1, l', by omega, by omega, by go_num, rfl, T4.out, by rw [RE.out]; exact OW.out⟩
              case measure => simp [intOf]; omega
            · have hxy' : (y != x) = true := by simp; omega
              have RE := hid (S2.out (T2.out (by omega)))
              clear T1 T2 T3 S1 S2 S3 S4 S5 S6 hxy
              go_wp2_with (first | (at_builtin; refine wpList_append_own _ rfl _ _ 22 rfl w.heap.size 28 i0 (.int .u64 0) 1 8 Try.underlying22 hi hz0 hz1 hz2 rfl (by decide) _ _ _ rfl (OW.out.app1 _ 0) ⟨wr.heap.size, 0, none⟩ 1 1 [.int .u64 x] rfl rfl (app2 _ _ _ 0) (ints_oneCell .u64 [x]) (by unfold maxLen; omega) (by omega) (OW.out.app3 _ 0) ?_; intro v' w1 ho1 hg1 _; have ON := hid (OW.out.snocN (q := 0) ho1 hg1); clear ho1 hg1) | go_in)
              go_roundw
              case rel => exact ⟨k + 1, l', by omega, by omega, by go_num, rfl, T4.out, by rw [RE.out]; exact ON.out⟩
              case measure => simp [intOf]; omega
        · obtain rfl : l' = n1 := by omega
          have T2 : Hid (mem B x = false) := S4.out l' (S1.out l' hl' HM.out) (fun h => absurd h hln)
          have T4 : Hid (Behind A B (k + 1) l') := (S1.out l' hl' HM.out).up _ (by omega)
          have RE := hid (S2.out T2.out)
          have hln' : decide ((l' : Int) < (l' : Int)) = false := decide_eq_false (by omega)
          clear S1 S2 S3 S4 S5 S6 T2
          go_wp2_with (first | (at_builtin; refine wpList_append_own _ rfl _ _ 22 rfl w.heap.size 28 i0 (.int .u64 0) 1 8 Try.underlying22 hi hz0 hz1 hz2 rfl (by decide) _ _ _ rfl (OW.out.app1 _ 0) ⟨wr.heap.size, 0, none⟩ 1 1 [.int .u64 x] rfl rfl (app2 _ _ _ 0) (ints_oneCell .u64 [x]) (by unfold maxLen; omega) (by omega) (OW.out.app3 _ 0) ?_; intro v' w1 ho1 hg1 _; have ON := hid (OW.out.snocN (q := 0) ho1 hg1); clear ho1 hg1) | go_in)
          go_roundw
          case rel => exact ⟨k + 1, l', by omega, by omega, by go_num, rfl, T4.out, by rw [RE.out]; exact ON.out⟩
          case measure => simp [intOf]; omega
    · obtain rfl : k = n0 := by omega
      have FIN : Hid ((A.take k).filter (fun x => !mem B x) = A.filter (fun x => !mem B x)) := Pl.take_full _ (by rw [LA.out]; exact Nat.le_refl _)
      go_wp2
      go_ret
      exact ⟨_, rfl, by rw [← FIN.out]; exact OW.out⟩

/-! ### zzMergeAll, at the two parts of an ascending list -/
theorem merge_any (a0 a1 : Option Addr) (n0 n1 c0 c1 : Nat) (A : List Int) (B : List Int) (w : World) (hn : A.length ≤ 65536) (hI : Nums w a0 n0 (A.filter (mem B))) (hO : Nums w a1 n1 (A.filter (fun x => !mem B x))) (aA : Asc A) :
    Calls Try.prog 17 #[.slice a0 n0 c0, .slice a1 n1 c1] w fun e w' => ∃ v, e = .returned v ∧ Own w w' v A := by
  have HI := hid hI
  have HO := hid hO
  have AA := hid aA
  have LI := hid hI.1
  have LO := hid hO.1
  have LC : Hid (n0 + n1 = A.length) := by
    have := Pl.count_two A B A.length (Nat.le_refl _)
    rw [List.take_length] at this
    show n0 + n1 = A.length
    rw [← hI.1, ← hO.1]; exact this
  have hle : n0 + n1 ≤ A.length := Nat.le_of_eq LC.out
  clear hI hO aA
  obtain ⟨i0, hi, hz0, hz1, hz2⟩ := info_parts info28
  go_enter Try.func17, Try.ntmps17
  go_wp2_with (first | (at_make; refine wpList_make_own _ rfl _ _ 22 rfl w.heap.size 28 i0 (.int .u64 0) 1 Try.underlying22 hi hz0 hz1 _ _ _ (n0 + n1) rfl rfl (by omega) (by rw [hz2]; omega) (by unfold maxLen; omega) (Nat.le_refl _) ?_; intro w1 ho hg; have O0 := hid (show Own w w1 _ [] from ⟨ho, (Below.refl _ _).grown hg (Nat.le_refl _) (by simp)⟩); clear ho hg) | go_in)
  go_loopw [5, 6, 7] (fun v i j wr => ∃ t k l : Nat, t ≤ A.length ∧ k ≤ n0 ∧ l ≤ n1 ∧ k = ((A.take t).filter (mem B)).length ∧ l = ((A.take t).filter (fun x => !mem B x)).length ∧ i = .int .i64 k ∧ j = .int .i64 l ∧ Own w wr v (A.take t)) (fun _ i j _ => n0 + n1 - ((intOf i).toNat + (intOf j).toNat))
  case atStart => exact ⟨0, 0, 0, Nat.zero_le _, Nat.zero_le _, Nat.zero_le _, rfl, rfl, rfl, rfl, O0.out⟩
  case round =>
    clear O0
    obtain ⟨t, k, l, ht, hk, hl, ek, el, rfl, rfl, ho⟩ := hrel
    have OW := hid ho
    have EK := hid ek
    have EL := hid el
    have ET : Hid (k + l = t) := by
      have := Pl.count_two A B t ht
      show k + l = t
      rw [ek, el]; exact this
    clear ho ek el
    by_cases hlt : t < A.length
    · have hlen : (A.take t).length ≤ t := List.length_take_le _ _
      have SN : Hid (A.take (t + 1) = A.take t ++ [A.getD t 0]) := Pl.take_snoc A t hlt
      by_cases hm : mem B (A.getD t 0) = true
      · obtain ⟨q1, q2⟩ := Pl.at_hit A (mem B) t hlt hm
        have hmiss := Pl.at_miss A AA.out (fun x => !mem B x) t hlt (by rw [hm]; rfl)
        have R1 : Hid (((A.take (t + 1)).filter (mem B)).length = k + 1) := by show _ = _; rw [Pl.filter_hit A _ t hlt hm, EK.out]; simp
        have R2 : Hid (((A.take (t + 1)).filter (fun x => !mem B x)).length = l) := by show _ = _; rw [Pl.filter_miss A _ t hlt (by rw [hm]; rfl), EL.out]
        rw [← EK.out] at q1 q2
        rw [← EL.out] at hmiss
        rw [LI.out] at q1
        rw [LO.out] at hmiss
        have SM := hid hmiss
        obtain ⟨b0, o0, e0, hb0, hc0⟩ := HI.out.2 (by omega)
        subst e0
        have ca := (OW.out.2.cell (p := ⟨b0, o0 + k, none⟩) hb0).trans (hc0 k q1)
        rw [q2] at ca
        clear hc0 q2 hm hmiss
        generalize A.getD t 0 = x at ca SN SM
        have hki : (k : Int) < (n0 : Int) := by omega
        by_cases hl' : l < n1
        · have hlt2 := SM.out hl'
          obtain ⟨b1, o1, e1, hb1, hc1⟩ := HO.out.2 (by omega)
          subst e1
          have cb := (OW.out.2.cell (p := ⟨b1, o1 + l, none⟩) hb1).trans (hc1 l hl')
          clear hc1 SM
          generalize (A.filter (fun x => !mem B x)).getD l 0 = y at cb hlt2
          have hli : ((l : Int) == (n1 : Int)) = false := by simp; omega
          have hli' : (l : Int) < (n1 : Int) := by omega
          have hxy : x ≤ y := by omega
          go_wp2
          go_quiet (fail)
          go_wp2_with (first | (at_builtin; refine wpList_append_own _ rfl _ _ 22 rfl w.heap.size 28 i0 (.int .u64 0) 1 8 Try.underlying22 hi hz0 hz1 hz2 rfl (by decide) _ _ _ rfl (OW.out.app1 _ _) ⟨wr.heap.size, 0, none⟩ 1 1 [.int .u64 x] rfl rfl (app2 _ _ _ _) (ints_oneCell .u64 [x]) (by unfold maxLen; omega) (by omega) (OW.out.app3 _ _) ?_; intro v' w1 ho1 hg1 _; have ON := hid (OW.out.snocN ho1 hg1); clear ho1 hg1) | go_in)
          go_roundw
          case rel => exact ⟨t + 1, k + 1, l, by omega, by omega, by omega, R1.out.symm, R2.out.symm, by go_num, rfl, by rw [SN.out]; exact ON.out⟩
          case measure => simp [intOf]; omega
        · obtain rfl : l = n1 := by omega
          have hli : ((l : Int) == (l : Int)) = true := by simp
          clear SM
          go_wp2
          go_quiet (fail)
          go_wp2_with (first | (at_builtin; refine wpList_append_own _ rfl _ _ 22 rfl w.heap.size 28 i0 (.int .u64 0) 1 8 Try.underlying22 hi hz0 hz1 hz2 rfl (by decide) _ _ _ rfl (OW.out.app1 _ _) ⟨wr.heap.size, 0, none⟩ 1 1 [.int .u64 x] rfl rfl (app2 _ _ _ _) (ints_oneCell .u64 [x]) (by unfold maxLen; omega) (by omega) (OW.out.app3 _ _) ?_; intro v' w1 ho1 hg1 _; have ON := hid (OW.out.snocN ho1 hg1); clear ho1 hg1) | go_in)
          go_roundw
          case rel => exact ⟨t + 1, k + 1, l, by omega, by omega, by omega, R1.out.symm, R2.out.symm, by go_num, rfl, by rw [SN.out]; exact ON.out⟩
          case measure => simp [intOf]; omega
      · have hm' : mem B (A.getD t 0) = false := by simpa using hm
        obtain ⟨q1, q2⟩ := Pl.at_hit A (fun x => !mem B x) t hlt (by rw [hm']; rfl)
        have hmiss := Pl.at_miss A AA.out (mem B) t hlt hm'
        have R1 : Hid (((A.take (t + 1)).filter (mem B)).length = k) := by show _ = _; rw [Pl.filter_miss A _ t hlt hm', EK.out]
        have R2 : Hid (((A.take (t + 1)).filter (fun x => !mem B x)).length = l + 1) := by show _ = _; rw [Pl.filter_hit A _ t hlt (by rw [hm']; rfl), EL.out]; simp
        rw [← EL.out] at q1 q2
        rw [← EK.out] at hmiss
        rw [LO.out] at q1
        rw [LI.out] at hmiss
        have SM := hid hmiss
        obtain ⟨b1, o1, e1, hb1, hc1⟩ := HO.out.2 (by omega)
        subst e1
        have cb := (OW.out.2.cell (p := ⟨b1, o1 + l, none⟩) hb1).trans (hc1 l q1)
        rw [q2] at cb
        clear hc1 q2 hm hm' hmiss
        generalize A.getD t 0 = x at cb SN SM
        have hli : ((l : Int) == (n1 : Int)) = false := by simp; omega
        have hli' : (l : Int) < (n1 : Int) := by omega
        by_cases hk' : k < n0
        · have hlt2 := SM.out hk'
          obtain ⟨b0, o0, e0, hb0, hc0⟩ := HI.out.2 (by omega)
          subst e0
          have ca := (OW.out.2.cell (p := ⟨b0, o0 + k, none⟩) hb0).trans (hc0 k hk')
          clear hc0 SM
          generalize (A.filter (mem B)).getD k 0 = y at ca hlt2
          have hki : (k : Int) < (n0 : Int) := by omega
          have hxy : ¬ y ≤ x := by omega
          go_wp2
          go_quiet (fail)
          go_wp2_with (first | (at_builtin; refine wpList_append_own _ rfl _ _ 22 rfl w.heap.size 28 i0 (.int .u64 0) 1 8 Try.underlying22 hi hz0 hz1 hz2 rfl (by decide) _ _ _ rfl (OW.out.app1 _ _) ⟨wr.heap.size, 0, none⟩ 1 1 [.int .u64 x] rfl rfl (app2 _ _ _ _) (ints_oneCell .u64 [x]) (by unfold maxLen; omega) (by omega) (OW.out.app3 _ _) ?_; intro v' w1 ho1 hg1 _; have ON := hid (OW.out.snocN ho1 hg1); clear ho1 hg1) | go_in)
          go_roundw
          case rel => exact ⟨t + 1, k, l + 1, by omega, by omega, by omega, R1.out.symm, R2.out.symm, rfl, by go_num, by rw [SN.out]; exact ON.out⟩
          case measure => simp [intOf]; omega
        · have hki : decide ((k : Int) < (n0 : Int)) = false := decide_eq_false (by omega)
          clear SM
          go_wp2
          go_quiet (fail)
          go_wp2_with (first | (at_builtin; refine wpList_append_own _ rfl _ _ 22 rfl w.heap.size 28 i0 (.int .u64 0) 1 8 Try.underlying22 hi hz0 hz1 hz2 rfl (by decide) _ _ _ rfl (OW.out.app1 _ _) ⟨wr.heap.size, 0, none⟩ 1 1 [.int .u64 x] rfl rfl (app2 _ _ _ _) (ints_oneCell .u64 [x]) (by unfold maxLen; omega) (by omega) (OW.out.app3 _ _) ?_; intro v' w1 ho1 hg1 _; have ON := hid (OW.out.snocN ho1 hg1); clear ho1 hg1) | go_in)
          go_roundw
          case rel => exact ⟨t + 1, k, l + 1, by omega, by omega, by omega, R1.out.symm, R2.out.symm, rfl, by go_num, by rw [SN.out]; exact ON.out⟩
          case measure => simp [intOf]; omega
    · have htA : t = A.length := by omega
      have FIN : Hid (A.take t = A) := by show _ = _; rw [htA, List.take_length]
      have hke : k = n0 ∧ l = n1 := by have := ET.out; have := LC.out; omega
      obtain ⟨rfl, rfl⟩ := hke
      have d1 : decide ((k : Int) < (k : Int)) = false := decide_eq_false (by omega)
      have d2 : decide ((l : Int) < (l : Int)) = false := decide_eq_false (by omega)
      clear htA
      go_wp2
      go_ret
      exact ⟨_, rfl, by have := OW.out; rw [FIN.out] at this; exact this⟩

/-! ### the two thin callers -/
theorem zzInter (a0 a1 : Option Addr) (n0 n1 c0 c1 : Nat) (A B : List Int) (w : World) (h0 : n0 ≤ 65536) (h1 : n1 ≤ 65536) (hA : Nums w a0 n0 A) (hB : Nums w a1 n1 B) (aA : Asc A) (aB : Asc B) :
    Calls Try.prog 10 #[.slice a0 n0 c0, .slice a1 n1 c1] w fun e w' => ∃ v, e = .returned v ∧ Own w w' v (A.filter (mem B)) := by
  have HA := hid hA
  have HB := hid hB
  have AA := hid aA
  have AB := hid aB
  clear hA hB aA aB
  go_enter Try.func10, Try.ntmps10
  go_wp2_with fail
  refine (inter_any a0 a1 n0 n1 c0 c1 A B _ h0 h1 HA.out HB.out AA.out AB.out).mono ?_
  rintro e w' ⟨v, rfl, ho⟩
  have OW := hid ho
  clear ho
  go_wp2
  go_ret
  exact ⟨_, rfl, OW.out⟩

theorem zzSub (a0 a1 : Option Addr) (n0 n1 c0 c1 : Nat) (A B : List Int) (w : World) (h0 : n0 ≤ 65536) (h1 : n1 ≤ 65536) (hA : Nums w a0 n0 A) (hB : Nums w a1 n1 B) (aA : Asc A) (aB : Asc B) :
    Calls Try.prog 15 #[.slice a0 n0 c0, .slice a1 n1 c1] w fun e w' => ∃ v, e = .returned v ∧ Own w w' v (A.filter (fun x => !mem B x)) := by
  have HA := hid hA
  have HB := hid hB
  have AA := hid aA
  have AB := hid aB
  clear hA hB aA aB
  go_enter Try.func15, Try.ntmps15
  go_wp2_with fail
  refine (sub_any a0 a1 n0 n1 c0 c1 A B _ h0 h1 HA.out HB.out AA.out AB.out).mono ?_
  rintro e w' ⟨v, rfl, ho⟩
  have OW := hid ho
  clear ho
  go_wp2
  go_ret
  exact ⟨_, rfl, OW.out⟩

end Go.Proofs.Qxb6606066a.Wk
