import Derived.Test.Qxb6606124aB
namespace Go.Proofs.Qxb6606124a.Wk
open Go.ChangeShapes Go.WideShapes Go.ChangeAt Go.RowKit
open Pl
set_option linter.unusedVariables false

/-- Between two statements: the position is k; nothing old has turned. -/
structure St (w wr : World) (s : ByteArray) (k : Nat) : Prop where
  le : k ≤ s.size
  v : Vars wr (w.heap.size + 1) w.heap.size s k
  b : Below w.heap.size w wr

theorem St.start (w : World) (s : ByteArray) (j : Int) (k : Nat) (e : j = k) (hk : k ≤ s.size) : St w ((w.alloc (.cells #[.string s] 9)).alloc (.cells #[.int .i64 j] 3)) s k where
  le := hk
  v := ⟨by subst e; simp [go_sem], by simp [go_sem], by simp [go_sem]⟩
  b := ((Below.refl _ _).alloc (Nat.le_refl _) _).alloc (by simp) _

theorem St.up {w wr : World} {s : ByteArray} {k : Nat} (h : St w wr s k) (hk : k < s.size) (j : Int) (e : j = (k : Int) + 1) : St w (wr.setCell ⟨w.heap.size + 1, 0, none⟩ (.int .i64 j)) s (k + 1) :=
  ⟨hk, h.v.set (by omega) j (k + 1) (by omega), h.b.setCell (by simp) _⟩

theorem St.moved {w wr w1 : World} {s : ByteArray} {k j : Nat} (h : St w wr s k) (hj : j ≤ s.size) (hv : Vars w1 (w.heap.size + 1) w.heap.size s j) (hb : Below (w.heap.size + 1) wr w1) : St w w1 s j :=
  ⟨hj, hv, h.b.trans (hb.mono (by omega))⟩

/-! what each function of the plain reader comes to, at a position -/
theorem num_end {s : ByteArray} {k : Nat} (h : s.size ≤ k) : num ((L s).drop k) = body ((L s).drop k) := by rw [L_end s k h]; rfl
theorem num_hit {s : ByteArray} {k : Nat} (h : k < s.size) (e : ((s[k]'h).toNat : Int) = 45) : num ((L s).drop k) = body ((L s).drop (k + 1)) := by rw [L_drop s k h]; simp [num, e]
theorem num_miss {s : ByteArray} {k : Nat} (h : k < s.size) (e : ((s[k]'h).toNat : Int) ≠ 45) : num ((L s).drop k) = body ((L s).drop k) := by rw [L_drop s k h]; simp [num, e]

theorem body_hit {s : ByteArray} {k : Nat} (h : k < s.size) (e : ((s[k]'h).toNat : Int) = 48) : body ((L s).drop k) = tail0 ((L s).drop (k + 1)) := by rw [L_drop s k h]; simp [body, e]
theorem body_miss {s : ByteArray} {k : Nat} (h : ∀ h : k < s.size, ((s[k]'h).toNat : Int) ≠ 48) : body ((L s).drop k) = (some1 ((L s).drop k) && tail0 (rest ((L s).drop k))) := by
  by_cases hk : k < s.size
  · have e := h hk
    rw [L_drop s k hk]; simp [body, e]
  · rw [L_end s k (by omega)]; rfl

theorem tail0_hit {s : ByteArray} {k : Nat} (h : k < s.size) (e : ((s[k]'h).toNat : Int) = 46) : tail0 ((L s).drop k) = (some1 ((L s).drop (k + 1)) && tail1 (rest ((L s).drop (k + 1)))) := by rw [L_drop s k h]; simp [tail0, e]
theorem tail0_miss {s : ByteArray} {k : Nat} (h : ∀ h : k < s.size, ((s[k]'h).toNat : Int) ≠ 46) : tail0 ((L s).drop k) = tail1 ((L s).drop k) := by
  by_cases hk : k < s.size
  · have e := h hk
    rw [L_drop s k hk]; simp [tail0, e]
  · rw [L_end s k (by omega)]; rfl

theorem tail1_end {s : ByteArray} : tail1 ((L s).drop s.size) = true := by rw [L_end s _ (Nat.le_refl _)]; rfl
theorem tail1_hit {s : ByteArray} {k : Nat} (h : k < s.size) (e : isE ((s[k]'h).toNat : Int) = true) : tail1 ((L s).drop k) = tail2 ((L s).drop (k + 1)) := by rw [L_drop s k h]; simp [tail1, e]
theorem tail1_miss {s : ByteArray} {k : Nat} (h : k < s.size) (e : isE ((s[k]'h).toNat : Int) = false) : tail1 ((L s).drop k) = false := by rw [L_drop s k h]; simp [tail1, e]

theorem tail2_hit {s : ByteArray} {k : Nat} (h : k < s.size) (e : isSg ((s[k]'h).toNat : Int) = true) : tail2 ((L s).drop k) = tail3 ((L s).drop (k + 1)) := by rw [L_drop s k h]; simp [tail2, e]
theorem tail2_miss {s : ByteArray} {k : Nat} (h : ∀ h : k < s.size, isSg ((s[k]'h).toNat : Int) = false) : tail2 ((L s).drop k) = tail3 ((L s).drop k) := by
  by_cases hk : k < s.size
  · have e := h hk
    rw [L_drop s k hk]; simp [tail2, e]
  · rw [L_end s k (by omega)]; rfl

theorem drop_empty {s : ByteArray} {j : Nat} (h : j ≤ s.size) : ((L s).drop j).isEmpty = ((j : Int) == (s.size : Int)) := by
  by_cases e : j = s.size
  · subst e; rw [L_end s _ (Nat.le_refl _)]; simp
  · rw [L_drop s j (by omega)]
    have : ((j : Int) == (s.size : Int)) = false := by simp; omega
    rw [this]; rfl

set_option maxRecDepth 100000 in
set_option maxHeartbeats 2000000 in
theorem num_any (s : ByteArray) (w : World) (hs : s.size ≤ 1048576) :
    Calls Try.prog 11 #[.string s] w fun e w' => e = .returned (.bool (num (L s))) ∧ Below w.heap.size w w' := by
  generalize hR : num (L s) = R
  have HR := hid hR
  clear hR
  go_enter Try.func11, Try.ntmps11
  go_upto_region 2 with fail
  iterate 11 (first | go_values | go_skip | go_guarded | go_step | go_upon | go_back)
  go_cut [] from 5 (fun wr => ∃ k, St w wr s k ∧ body ((L s).drop k) = R)
  case first =>
    by_cases h0 : 0 < s.size
    · have h0' : (0 : Int) < (s.size : Int) := by omega
      by_cases hc : ((s[0]'h0).toNat : Int) = 45
      · have hc' : (((s[0]'h0).toNat : Int) == 45) = true := by simp [hc]
        have E : Hid (body ((L s).drop (0 + 1)) = R) := by show _ = _; rw [← num_hit h0 hc]; exact HR.out
        clear hc
        go_wp2
        go_meet
        case rel => exact ⟨1, St.start w s _ _ rfl h0, E.out⟩
      · have hc' : (((s[0]'h0).toNat : Int) == 45) = false := by simp [hc]
        have E : Hid (body ((L s).drop 0) = R) := by show _ = _; rw [← num_miss h0 hc]; exact HR.out
        clear hc
        go_wp2
        go_meet
        case rel => exact ⟨0, St.start w s _ _ rfl (Nat.zero_le _), E.out⟩
    · have h0' : decide ((0 : Int) < (s.size : Int)) = false := decide_eq_false (by omega)
      have E : Hid (body ((L s).drop 0) = R) := by show _ = _; rw [← num_end (by omega)]; exact HR.out
      go_wp2
      go_meet
      case rel => exact ⟨0, St.start w s _ _ rfl (Nat.zero_le _), E.out⟩
  case rest =>
    obtain ⟨k, hS, hb⟩ := hcut
    have S := hid hS
    have HB := hid hb
    clear hb
    obtain ⟨hk, ⟨v1, v2, v3⟩, _⟩ := hS
    go_step
    go_step
    go_cut [] from 5 (fun wr => ∃ k, St w wr s k ∧ tail0 ((L s).drop k) = R)
    case first =>
      by_cases hhit : ∃ h : k < s.size, ((s[k]'h).toNat : Int) = 48
      · obtain ⟨h, e⟩ := hhit
        have hl : (k : Int) < (s.size : Int) := by omega
        have hc' : (((s[k]'h).toNat : Int) == 48) = true := by simp [e]
        have E : Hid (tail0 ((L s).drop (k + 1)) = R) := by show _ = _; rw [← body_hit h e]; exact HB.out
        clear e
        go_wp2
        go_meet
        case rel => exact ⟨k + 1, S.out.up h _ rfl, E.out⟩
      · have E : Hid ((some1 ((L s).drop k) && tail0 (rest ((L s).drop k))) = R) := by
          show _ = _
          rw [← body_miss (fun h e => hhit ⟨h, e⟩)]; exact HB.out
        have HH := hid hhit
        clear hhit
        have D := hid (digits_any (w.heap.size + 1) w.heap.size s k wc hs hk (by omega) S.out.v)
        by_cases h : k < s.size
        · have hl : (k : Int) < (s.size : Int) := by omega
          have hc' : (((s[k]'h).toNat : Int) == 48) = false := by
            have := fun e => HH.out ⟨h, e⟩
            simpa using this
          go_wp2_with fail
          refine D.out.mono ?_
          rintro e w1 ⟨rfl, ⟨j, hj, hrest, hv⟩, hb1⟩
          have SJ := hid (S.out.moved hj hv hb1)
          have HRE := hid hrest
          clear hrest hb1
          obtain ⟨v1', v2', v3'⟩ := hv
          cases hsome : some1 ((L s).drop k)
          · have E2 : Hid (false = R) := by show _ = _; rw [← E.out, hsome]; rfl
            clear hsome
            go_wp2
            go_ret
            exact ⟨ret_bool E2.out, SJ.out.b⟩
          · have E2 : Hid (tail0 ((L s).drop j) = R) := by show _ = _; rw [← E.out, hsome, HRE.out]; rfl
            clear hsome
            go_wp2
            go_meet
            case rel => exact ⟨j, SJ.out, E2.out⟩
        · have hl : decide ((k : Int) < (s.size : Int)) = false := decide_eq_false (by omega)
          have E2 : Hid (false = R) := by show _ = _; rw [← E.out, L_end s k (by omega)]; rfl
          have SN : Hid (some1 ((L s).drop k) = false) := by show _ = _; rw [L_end s k (by omega)]; rfl
          go_wp2_with fail
          refine D.out.mono ?_
          rintro e w1 ⟨rfl, ⟨j, hj, hrest, hv⟩, hb1⟩
          have SJ := hid (S.out.moved hj hv hb1)
          clear hrest hb1
          rw [SN.out]
          go_wp2
          go_ret
          exact ⟨ret_bool E2.out, SJ.out.b⟩
    case rest =>
      clear S HB v1 v2 v3 hk
      obtain ⟨k, hS, hb⟩ := hcut
      have S := hid hS
      have HB := hid hb
      clear hb
      obtain ⟨hk, ⟨v1, v2, v3⟩, _⟩ := hS
      go_step
      go_step
      go_cut [] from 5 (fun wr => ∃ k, St w wr s k ∧ tail1 ((L s).drop k) = R)
      case first =>
        by_cases hhit : ∃ h : k < s.size, ((s[k]'h).toNat : Int) = 46
        · obtain ⟨h, e⟩ := hhit
          have hl : (k : Int) < (s.size : Int) := by omega
          have hc' : (((s[k]'h).toNat : Int) == 46) = true := by simp [e]
          have E : Hid ((some1 ((L s).drop (k + 1)) && tail1 (rest ((L s).drop (k + 1)))) = R) := by show _ = _; rw [← tail0_hit h e]; exact HB.out
          have SU := hid (S.out.up h _ rfl)
          have D := hid (digits_any (w.heap.size + 1) w.heap.size s (k + 1) _ hs h (by omega) SU.out.v)
          clear e
          go_wp2_with fail
          refine D.out.mono ?_
          rintro e w1 ⟨rfl, ⟨j, hj, hrest, hv⟩, hb1⟩
          have SJ := hid (SU.out.moved hj hv hb1)
          have HRE := hid hrest
          clear hrest hb1
          obtain ⟨v1', v2', v3'⟩ := hv
          cases hsome : some1 ((L s).drop (k + 1))
          · have E2 : Hid (false = R) := by show _ = _; rw [← E.out, hsome]; rfl
            clear hsome
            go_wp2
            go_ret
            exact ⟨ret_bool E2.out, SJ.out.b⟩
          · have E2 : Hid (tail1 ((L s).drop j) = R) := by show _ = _; rw [← E.out, hsome, HRE.out]; rfl
            clear hsome
            go_wp2
            go_meet
            case rel => exact ⟨j, SJ.out, E2.out⟩
        · have E : Hid (tail1 ((L s).drop k) = R) := by
            show _ = _
            rw [← tail0_miss (fun h e => hhit ⟨h, e⟩)]; exact HB.out
          have HH := hid hhit
          clear hhit
          by_cases h : k < s.size
          · have hl : (k : Int) < (s.size : Int) := by omega
            have hc' : (((s[k]'h).toNat : Int) == 46) = false := by
              have := fun e => HH.out ⟨h, e⟩
              simpa using this
            go_wp2
            go_meet
            case rel => exact ⟨k, S.out, E.out⟩
          · have hl : decide ((k : Int) < (s.size : Int)) = false := decide_eq_false (by omega)
            go_wp2
            go_meet
            case rel => exact ⟨k, S.out, E.out⟩
      case rest =>
        clear S HB v1 v2 v3 hk
        obtain ⟨k, hS, hb⟩ := hcut
        have S := hid hS
        have HB := hid hb
        clear hb
        obtain ⟨hk, ⟨v1, v2, v3⟩, _⟩ := hS
        go_step
        go_step
        go_cut [] from 5 (fun wr => ∃ k, St w wr s k ∧ ((L s).drop k).isEmpty = R)
        case first =>
          by_cases h : k < s.size
          · have hl : (k : Int) < (s.size : Int) := by omega
            by_cases hE : isE ((s[k]'h).toNat : Int) = true
            · have E : Hid (tail2 ((L s).drop (k + 1)) = R) := by show _ = _; rw [← tail1_hit h hE]; exact HB.out
              have SU := hid (S.out.up h _ rfl)
              have hE' : (((s[k]'h).toNat : Int) == 101) = true ∨ ((((s[k]'h).toNat : Int) == 101) = false ∧ (((s[k]'h).toNat : Int) == 69) = true) := by
                simp only [isE, Bool.or_eq_true] at hE
                cases hx : (((s[k]'h).toNat : Int) == 101)
                · rw [hx] at hE; exact .inr ⟨rfl, by simpa using hE⟩
                · exact .inl rfl
              clear hE HB
              rcases hE' with hE1 | ⟨hE1, hE2⟩
              all_goals
                by_cases h2 : k + 1 < s.size
                · have hl2 : (k : Int) + 1 < (s.size : Int) := by omega
                  by_cases hp : (((s[k + 1]'h2).toNat : Int) == 43) = true
                  · have E3 : Hid (tail3 ((L s).drop (k + 1 + 1)) = R) := by show _ = _; rw [← tail2_hit h2 (by simp [isSg, hp])]; exact E.out
                    go_wp2_with fail
                    refine (digits_any (w.heap.size + 1) w.heap.size s (k + 1 + 1) _ hs h2 (by omega) (SU.out.up h2 _ rfl).v).mono ?_
                    rintro e w1 ⟨rfl, ⟨j, hj, hrest, hv⟩, hb1⟩
                    have SJ := hid ((SU.out.up h2 _ rfl).moved hj hv hb1)
                    have HRE := hid hrest
                    clear hrest hb1
                    obtain ⟨v1', v2', v3'⟩ := hv
                    cases hsome : some1 ((L s).drop ((k + 1 + 1)))
                    · have F2 : Hid (false = R) := by show _ = _; rw [← E3.out, tail3, hsome]; rfl
                      clear hsome
                      go_wp2
                      go_ret
                      exact ⟨ret_bool F2.out, SJ.out.b⟩
                    · have F2 : Hid (((L s).drop j).isEmpty = R) := by show _ = _; rw [← E3.out, tail3, hsome, HRE.out]; rfl
                      clear hsome
                      go_wp2
                      go_meet
                      case rel => exact ⟨j, SJ.out, F2.out⟩
                  · have hp' : (((s[k + 1]'h2).toNat : Int) == 43) = false := by simpa using hp
                    clear hp
                    by_cases hm : (((s[k + 1]'h2).toNat : Int) == 45) = true
                    · have E3 : Hid (tail3 ((L s).drop (k + 1 + 1)) = R) := by show _ = _; rw [← tail2_hit h2 (by simp [isSg, hm])]; exact E.out
                      go_wp2_with fail
                      refine (digits_any (w.heap.size + 1) w.heap.size s (k + 1 + 1) _ hs h2 (by omega) (SU.out.up h2 _ rfl).v).mono ?_
                      rintro e w1 ⟨rfl, ⟨j, hj, hrest, hv⟩, hb1⟩
                      have SJ := hid ((SU.out.up h2 _ rfl).moved hj hv hb1)
                      have HRE := hid hrest
                      clear hrest hb1
                      obtain ⟨v1', v2', v3'⟩ := hv
                      cases hsome : some1 ((L s).drop ((k + 1 + 1)))
                      · have F2 : Hid (false = R) := by show _ = _; rw [← E3.out, tail3, hsome]; rfl
                        clear hsome
                        go_wp2
                        go_ret
                        exact ⟨ret_bool F2.out, SJ.out.b⟩
                      · have F2 : Hid (((L s).drop j).isEmpty = R) := by show _ = _; rw [← E3.out, tail3, hsome, HRE.out]; rfl
                        clear hsome
                        go_wp2
                        go_meet
                        case rel => exact ⟨j, SJ.out, F2.out⟩
                    · have hm' : (((s[k + 1]'h2).toNat : Int) == 45) = false := by simpa using hm
                      clear hm
                      have E3 : Hid (tail3 ((L s).drop (k + 1)) = R) := by show _ = _; rw [← tail2_miss (fun _ => by simp [isSg, hp', hm'])]; exact E.out
                      go_wp2_with fail
                      refine (digits_any (w.heap.size + 1) w.heap.size s (k + 1) _ hs h (by omega) (SU.out).v).mono ?_
                      rintro e w1 ⟨rfl, ⟨j, hj, hrest, hv⟩, hb1⟩
                      have SJ := hid ((SU.out).moved hj hv hb1)
                      have HRE := hid hrest
                      clear hrest hb1
                      obtain ⟨v1', v2', v3'⟩ := hv
                      cases hsome : some1 ((L s).drop ((k + 1)))
                      · have F2 : Hid (false = R) := by show _ = _; rw [← E3.out, tail3, hsome]; rfl
                        clear hsome
                        go_wp2
                        go_ret
                        exact ⟨ret_bool F2.out, SJ.out.b⟩
                      · have F2 : Hid (((L s).drop j).isEmpty = R) := by show _ = _; rw [← E3.out, tail3, hsome, HRE.out]; rfl
                        clear hsome
                        go_wp2
                        go_meet
                        case rel => exact ⟨j, SJ.out, F2.out⟩
                · have hl2 : decide ((k : Int) + 1 < (s.size : Int)) = false := decide_eq_false (by omega)
                  have E3 : Hid (tail3 ((L s).drop (k + 1)) = R) := by show _ = _; rw [← tail2_miss (fun h => absurd h h2)]; exact E.out
                  go_wp2_with fail
                  refine (digits_any (w.heap.size + 1) w.heap.size s (k + 1) _ hs h (by omega) (SU.out).v).mono ?_
                  rintro e w1 ⟨rfl, ⟨j, hj, hrest, hv⟩, hb1⟩
                  have SJ := hid ((SU.out).moved hj hv hb1)
                  have HRE := hid hrest
                  clear hrest hb1
                  obtain ⟨v1', v2', v3'⟩ := hv
                  cases hsome : some1 ((L s).drop ((k + 1)))
                  · have F2 : Hid (false = R) := by show _ = _; rw [← E3.out, tail3, hsome]; rfl
                    clear hsome
                    go_wp2
                    go_ret
                    exact ⟨ret_bool F2.out, SJ.out.b⟩
                  · have F2 : Hid (((L s).drop j).isEmpty = R) := by show _ = _; rw [← E3.out, tail3, hsome, HRE.out]; rfl
                    clear hsome
                    go_wp2
                    go_meet
                    case rel => exact ⟨j, SJ.out, F2.out⟩
            · have E : Hid (((L s).drop k).isEmpty = R) := by
                show _ = _
                rw [← HB.out, tail1_miss h (by simpa using hE), L_drop s k h]; rfl
              have hE1 : (((s[k]'h).toNat : Int) == 101) = false := by
                cases hx : (((s[k]'h).toNat : Int) == 101)
                · rfl
                · exact absurd (by simp [isE, hx]) hE
              have hE2 : (((s[k]'h).toNat : Int) == 69) = false := by
                cases hx : (((s[k]'h).toNat : Int) == 69)
                · rfl
                · exact absurd (by simp [isE, hx]) hE
              clear hE
              go_wp2
              go_meet
              case rel => exact ⟨k, S.out, E.out⟩
          · have hl : decide ((k : Int) < (s.size : Int)) = false := decide_eq_false (by omega)
            have E : Hid (((L s).drop k).isEmpty = R) := by
              show _ = _
              rw [← HB.out, L_end s k (by omega)]; rfl
            go_wp2
            go_meet
            case rel => exact ⟨k, S.out, E.out⟩
        case rest =>
          clear S HB v1 v2 v3 hk
          obtain ⟨k, hS, hb⟩ := hcut
          have S := hid hS
          have HB : Hid (((k : Int) == (s.size : Int)) = R) := by show _ = _; rw [← drop_empty hS.le]; exact hb
          clear hb
          obtain ⟨hk, ⟨v1, v2, v3⟩, _⟩ := hS
          go_wp2
          go_ret
          exact ⟨ret_bool HB.out, S.out.b⟩

end Go.Proofs.Qxb6606124a.Wk
