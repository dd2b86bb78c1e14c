import Derived.Test.Qxb6606124aA
namespace Go.Proofs.Qxb6606124a.Wk
open Go.ChangeShapes Go.WideShapes Go.ChangeAt Go.RowKit
open Pl
set_option linter.unusedVariables false

/-- The string's bytes, as numbers. -/
def L (s : ByteArray) : List Int := s.data.toList.map (fun b => (b.toNat : Int))

theorem L_len (s : ByteArray) : (L s).length = s.size := by simp [L]
theorem L_drop (s : ByteArray) (k : Nat) (h : k < s.size) : (L s).drop k = ((s[k]'h).toNat : Int) :: (L s).drop (k + 1) := by
  rw [List.drop_eq_getElem_cons (by rw [L_len]; exact h)]
  congr 1
  simp [L]
  rfl
theorem L_end (s : ByteArray) (k : Nat) (h : s.size ≤ k) : (L s).drop k = [] := List.drop_eq_nil_of_le (by rw [L_len]; exact h)
theorem L_snoc (s : ByteArray) (k : Nat) (h : k < s.size) : (L s).take (k + 1) = (L s).take k ++ [((s[k]'h).toNat : Int)] := by
  rw [List.take_succ_eq_append_getElem (by rw [L_len]; exact h)]
  congr 2
  simp [L]
  rfl

theorem step_range (st c : Int) : -1 ≤ stepF st c ∧ stepF st c ≤ 8 := by
  simp only [stepF]
  (repeat' split) <;> omega

theorem run_snoc (st : Int) (l : List Int) (c : Int) : runF st (l ++ [c]) = stepF (runF st l) c := by simp [runF, List.foldl_append]
theorem run_app (st : Int) (l r : List Int) : runF st (l ++ r) = runF (runF st l) r := by simp [runF, List.foldl_append]

/-! ### jsonNumberAutomaton -/
set_option maxHeartbeats 1000000 in
theorem auto_any (s : ByteArray) (w : World) (hs : s.size ≤ 1048576) :
    Calls Try.prog 8 #[.string s] w fun e w' => e = .returned (.bool (accB (runF 0 (L s)))) ∧ w' = w := by
  generalize hR : accB (runF 0 (L s)) = R
  have HR := hid hR
  clear hR
  go_enter Try.func8, Try.ntmps8
  go_wp2
  go_loop [2, 3, 4] (fun _ t i => ∃ (k : Nat) (st : Int), k ≤ s.size ∧ i = .int .i64 k ∧ t = .int .i64 st ∧ 0 ≤ st ∧ st ≤ 8 ∧ st = runF 0 ((L s).take k)) (fun _ _ i => s.size - (intOf i).toNat)
  case atStart => exact ⟨0, 0, Nat.zero_le _, rfl, rfl, by omega, by omega, rfl⟩
  case round =>
    obtain ⟨k, st, hk, rfl, rfl, h0, h8, hst⟩ := hrel
    have ST := hid hst
    clear hst
    by_cases hlt : k < s.size
    · have SN : Hid (stepF st ((s[k]'hlt).toNat : Int) = runF 0 ((L s).take (k + 1))) := by show _ = _; rw [L_snoc s k hlt, run_snoc, ← ST.out]
      have DD : Hid (stepF st ((s[k]'hlt).toNat : Int) < 0 → R = false) := fun h => by
        have e : stepF st ((s[k]'hlt).toNat : Int) = -1 := by have := step_range st ((s[k]'hlt).toNat : Int); omega
        rw [← HR.out, ← List.take_append_drop (k + 1) (L s), run_app, ← SN.out, e, dead]; rfl
      have hr := step_range st ((s[k]'hlt).toNat : Int)
      go_wp2_with (go_at_call 12; refine (step_any _ _ _ h0 h8).mono ?_; rintro e w' ⟨rfl, rfl⟩)
      · have hn : stepF st ((s[k]'hlt).toNat : Int) < 0 := by assumption
        go_ret
        exact ⟨ret_bool (DD.out hn).symm, rfl⟩
      · have hn : 0 ≤ stepF st ((s[k]'hlt).toNat : Int) := by assumption
        go_round
        case rel => exact ⟨k + 1, _, by omega, by go_num, rfl, hn, hr.2, SN.out⟩
        case measure => simp [intOf]; omega
    · have FIN : Hid (accB st = R) := by show _ = _; rw [← HR.out, ST.out, List.take_of_length_le (by rw [L_len]; omega)]
      go_wp2
      all_goals
        go_ret
        exact ⟨ret_bool (by rw [← FIN.out]; simp [accB, *]), rfl⟩

/-! ### zzBytes -/
theorem bytes_yes (s : ByteArray) (w : World) (h : s.size ≤ 1048576) :
    Calls Try.prog 6 #[.string s] w fun e w' => e = .returned (.bool true) ∧ w' = w := by
  go_enter Try.func6, Try.ntmps6
  go_wp2
  go_ret
  exact ⟨rfl, rfl⟩
theorem bytes_no (s : ByteArray) (w : World) (h : 1048576 < s.size) :
    Calls Try.prog 6 #[.string s] w fun e w' => e = .returned (.bool false) ∧ w' = w := by
  go_enter Try.func6, Try.ntmps6
  go_wp2
  go_ret
  exact ⟨rfl, rfl⟩

/-! ### digits() -/
theorem rest_hit {l r : List Int} {c : Int} (h : l = c :: r) (hd : dig c = true) : rest l = rest r ∧ some1 l = true := by
  subst h; exact ⟨by simp [rest, hd], hd⟩
theorem rest_miss {l r : List Int} {c : Int} (h : l = c :: r) (hd : dig c = false) : rest l = l ∧ some1 l = false := by
  subst h; exact ⟨by simp [rest, hd], hd⟩

/-- The two captured variables: the position k at block bi, the string at block bs. -/
structure Vars (w : World) (bi bs : Nat) (s : ByteArray) (k : Nat) : Prop where
  i : w.cell? ⟨bi, 0, none⟩ = some (.int .i64 k)
  s : w.cell? ⟨bs, 0, none⟩ = some (.string s)
  f : w.frozen? ⟨bi, 0, none⟩ = false

theorem Vars.set {w : World} {bi bs : Nat} {s : ByteArray} {k : Nat} (h : Vars w bi bs s k) (hne : bs < bi) (j : Int) (j' : Nat) (e : j = j') : Vars (w.setCell ⟨bi, 0, none⟩ (.int .i64 j)) bi bs s j' := by
  subst e
  exact ⟨World.cell?_setCell_same _ _ _ h.i, by rw [World.cell?_setCell_other _ _ _ _ (fun e => absurd (congrArg Addr.block e) (Nat.ne_of_gt hne))]; exact h.s, by rw [World.frozen?_setCell]; exact h.f⟩

theorem digits_any (bi bs : Nat) (s : ByteArray) (k : Nat) (w : World) (hs : s.size ≤ 1048576) (hk : k ≤ s.size) (hne : bs < bi) (h : Vars w bi bs s k) :
    Calls Try.prog 13 #[.pointer (some ⟨bi, 0, none⟩), .pointer (some ⟨bs, 0, none⟩)] w fun e w' => e = .returned (.bool (some1 ((L s).drop k))) ∧
      (∃ j : Nat, j ≤ s.size ∧ (L s).drop j = rest ((L s).drop k) ∧ Vars w' bi bs s j) ∧ Below bi w w' := by
  have VW := hid h
  generalize hR : some1 ((L s).drop k) = R
  have HR := hid hR
  clear hR
  obtain ⟨v1, v2, v3⟩ := h
  go_enter Try.func13, Try.ntmps13
  go_wp2
  go_loopg [] (s.size - k) (fun g wr => ∃ j : Nat, k ≤ j ∧ j ≤ s.size ∧ g = s.size - j ∧ rest ((L s).drop j) = rest ((L s).drop k) ∧ (k < j → R = true) ∧ Vars wr bi bs s j ∧ Below bi w wr)
  case atStart => exact ⟨k, Nat.le_refl _, hk, rfl, rfl, fun h => absurd h (by omega), VW.out, Below.refl _ _⟩
  case round =>
    clear v1 v2 v3
    obtain ⟨j, hkj, hj, hg, hr1, hr2, hv, hb⟩ := hrel
    have HG := hid hg
    have R1 := hid hr1
    have R2 := hid hr2
    have V := hid hv
    have B := hid hb
    obtain ⟨v1, v2, v3⟩ := hv
    clear hg hr1 hr2 hb
    by_cases hlt : j < s.size
    · have hlt' : (j : Int) < (s.size : Int) := by omega
      have DR := hid (L_drop s j hlt)
      by_cases hd : dig ((s[j]'hlt).toNat : Int) = true
      · have hd' := hd
        simp [dig] at hd'
        obtain ⟨d1, d2⟩ := hd'
        have N1 : Hid (rest ((L s).drop (j + 1)) = rest ((L s).drop k)) := by
          show _ = _
          rw [← R1.out]; exact (rest_hit DR.out hd).1.symm
        have N2 : Hid (R = true) := by
          show _ = _
          by_cases e : k < j
          · exact R2.out e
          · obtain rfl : k = j := by omega
            rw [← HR.out]; exact (rest_hit DR.out hd).2
        clear hd DR
        go_wp2
        go_roundg (gk - 1)
        case measure => have := HG.out; omega
        case rel =>
          have := HG.out
          exact ⟨j + 1, by omega, by omega, by omega, N1.out, fun _ => N2.out, V.out.set hne _ _ (by omega), B.out.setCell (Nat.le_refl _) _⟩
      · have hd' : dig ((s[j]'hlt).toNat : Int) = false := by simpa using hd
        have N1 : Hid ((L s).drop j = rest ((L s).drop k)) := by
          show _ = _
          rw [← R1.out]; exact (rest_miss DR.out hd').1.symm
        have N2 : Hid (decide (k < j) = R) := by
          show _ = _
          by_cases e : k < j
          · rw [R2.out e]; exact decide_eq_true (by omega)
          · obtain rfl : k = j := by omega
            rw [← HR.out, (rest_miss DR.out hd').2]; exact decide_eq_false (by omega)
        by_cases d1 : 48 ≤ ((s[j]'hlt).toNat : Int)
        · have d2 : ¬ ((s[j]'hlt).toNat : Int) ≤ 57 := by
            intro h2
            exact hd (by simp [dig]; omega)
          clear hd hd' DR
          go_wp2
          go_ret
          exact ⟨ret_bool N2.out, ⟨j, hj, N1.out, V.out⟩, B.out⟩
        · clear hd hd' DR
          have d1' : decide ((48 : Int) ≤ ((s[j]'hlt).toNat : Int)) = false := decide_eq_false d1
          go_wp2
          go_ret
          exact ⟨ret_bool N2.out, ⟨j, hj, N1.out, V.out⟩, B.out⟩
    · have hlt' : decide ((j : Int) < (s.size : Int)) = false := decide_eq_false (by omega)
      have N1 : Hid ((L s).drop j = rest ((L s).drop k)) := by
        show _ = _
        rw [← R1.out, L_end s j (by omega)]; rfl
      have N2 : Hid (decide (k < j) = R) := by
        show _ = _
        by_cases e : k < j
        · rw [R2.out e]; exact decide_eq_true (by omega)
        · obtain rfl : k = j := by omega
          rw [← HR.out, L_end s k (by omega)]; exact decide_eq_false (by omega)
      go_wp2
      go_ret
      exact ⟨ret_bool N2.out, ⟨j, hj, N1.out, V.out⟩, B.out⟩

end Go.Proofs.Qxb6606124a.Wk
