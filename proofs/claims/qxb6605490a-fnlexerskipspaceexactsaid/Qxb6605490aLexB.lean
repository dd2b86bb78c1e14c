import Derived.Test.Qxb6605490aLexA
namespace Go.Proofs.Qxb6605490a.Lex
open Go.ChangeShapes Go.WideShapes Go.ChangeAt Go.RowKit

/-! ### the plain facts -/
theorem nl_le (zs : List Int) (off m : Nat) : nl zs off m ≤ m := by
  induction m with
  | zero => simp [nl]
  | succ m ih => simp only [nl]; split <;> omega

theorem nl_succ_hit (zs : List Int) (off m : Nat) (h : zs.getD (off + m) 0 = 10) : nl zs off (m + 1) = nl zs off m + 1 := by
  simp only [nl]; rw [if_pos h]

theorem nl_succ_miss (zs : List Int) (off m : Nat) (h : zs.getD (off + m) 0 ≠ 10) : nl zs off (m + 1) = nl zs off m := by
  simp only [nl]; rw [if_neg h]; rfl

theorem start_none (zs : List Int) (off m : Nat) (st : Int) (h : nl zs off m = 0) : startB zs off st m = st := by
  induction m with
  | zero => rfl
  | succ m ih =>
    by_cases hz : zs.getD (off + m) 0 = 10
    · rw [nl_succ_hit _ _ _ hz] at h; omega
    · rw [nl_succ_miss _ _ _ hz] at h
      simp only [startB]; rw [if_neg hz]; exact ih h

theorem start_some (zs : List Int) (off m : Nat) (st : Int) (h : nl zs off m ≠ 0) :
    ∃ s : Nat, startB zs off st m = s ∧ off < s ∧ s ≤ off + m ∧ zs.getD (s - 1) 0 = 10 ∧ ∀ j, s ≤ j → j < off + m → zs.getD j 0 ≠ 10 := by
  induction m with
  | zero => simp [nl] at h
  | succ m ih =>
    by_cases hz : zs.getD (off + m) 0 = 10
    · refine ⟨off + m + 1, ?_, by omega, by omega, ?_, fun j h1 h2 => by omega⟩
      · simp only [startB]; rw [if_pos hz]
      · simpa using hz
    · rw [nl_succ_miss _ _ _ hz] at h
      obtain ⟨s, h1, h2, h3, h4, h5⟩ := ih h
      refine ⟨s, ?_, h2, by omega, h4, fun j hj1 hj2 => ?_⟩
      · simp only [startB]; rw [if_neg hz]; exact h1
      · by_cases e : j = off + m
        · subst e; exact hz
        · exact h5 j hj1 (by omega)

theorem line_back (line : Int) (k : Nat) (h : k ≤ 1048576) : wrap64 (wrap64 (line + k) - line) = k := by
  unfold wrap64; omega

/-! ### the clone of a row that came in -/
/-- WHAT THE WALK IS TOLD OF A SLICE OF INTEGERS THAT CAME IN (the shell's words). -/
def IsRow (k : IntKind) (w : World) (a : Option Addr) (len cap : Nat) (zs : List Int) : Prop :=
  (a = none ∧ len = 0 ∧ cap = 0 ∧ zs = []) ∨
  ∃ x, a = some x ∧ len ≤ cap ∧ cap ≤ maxLen ∧ zs.length = cap ∧ (∀ i, i < zs.length → w.cell? (x.add i) = some (.int k (zs.getD i 0))) ∧ ∀ n ∈ zs, (Lit.int k n).wf = true

theorem clone_zero (x : Addr) (c : Nat) (w : World) :
    Calls Try.prog 20 #[.slice (some x) 0 c] w fun e w' => e = .returned (.slice (some ⟨w.heap.size, 0, none⟩) 0 0) ∧ Below w.heap.size w w' := by
  have q := fun (w : World) (a : Option Addr) (n c n' c' : Nat) => Lib.run_eql_slice_nil (P := Try.prog) w 40 5 a n c n' c' Try.underlying40
  obtain ⟨i0, hi, hz0, hz1, hz2⟩ := info_parts info5
  go_enter Try.func20, Try.ntmps20
  go_wp2_with (first | (at_make; refine wpList_make_full _ rfl _ _ 40 rfl w.heap.size 5 i0 (.int .u8 0) 1 Try.underlying40 hi hz0 hz1 _ _ _ _ 0 rfl rfl rfl rfl (by omega) (by unfold maxLen; omega) (Nat.le_refl _) ?_; intro w1 ho hg; have D := Done.zero (zs := []) ho hg; clear ho hg) | go_in)
  go_loopw [4] (fun i wr => i = .int .i64 0 ∧ wr = w1) (fun i _ => 0)
  case atStart => exact ⟨rfl, rfl⟩
  case round =>
    obtain ⟨rfl, rfl⟩ := hrel
    go_wp2
    go_ret
    exact ⟨rfl, D.2⟩

theorem clone_any (a : Option Addr) (n c : Nat) (zs : List Int) (w : World) (hn : n ≤ 1048576) (h : IsRow .u8 w a n c zs) :
    Calls Try.prog 20 #[.slice a n c] w fun e w' => ∃ a', e = .returned (.slice a' n n) ∧ (0 < n → ∃ b, a' = some ⟨b, 0, none⟩ ∧ b < w'.heap.size ∧ Cells w' b 0 n zs) ∧ Below w.heap.size w w' := by
  rcases h with ⟨rfl, rfl, rfl, rfl⟩ | ⟨x, rfl, hl, hm, hz, hcell, hwz⟩
  · refine (clone_nil w).mono ?_
    rintro e w' ⟨rfl, rfl⟩
    exact ⟨none, rfl, fun h => absurd h (by omega), Below.refl _ _⟩
  · by_cases h0 : n = 0
    · subst h0
      refine (clone_zero x c w).mono ?_
      rintro e w' ⟨rfl, hb⟩
      exact ⟨_, rfl, fun h => absurd h (by omega), hb⟩
    · obtain ⟨b, off, spot⟩ := x
      have h1 := hcell 0 (by omega)
      have hspot : spot = none := by simpa [Addr.add] using World.cell?_spot h1
      subst hspot
      have hb : b < w.heap.size := by simpa [Addr.add] using block_lt_of_cell h1
      refine (clone_some b off n c zs w hn hb (fun i hi => by rw [← add_plain]; exact hcell i (by omega))).mono ?_
      rintro e w' ⟨rfl, h2, h3, h4⟩
      exact ⟨_, rfl, fun _ => ⟨_, rfl, h3, h2⟩, h4⟩

/-! ### the law -/
theorem law_long (a : Option Addr) (n c : Nat) (off line st : Int) (w : World) (h : 1048576 < n) :
    Calls Try.prog 4 #[.slice a n c, .int .i64 off, .int .i64 line, .int .i64 st] w fun e w' => e = .returned (.bool true) ∧ Below w.heap.size w w' := by
  go_enter Try.func4, Try.ntmps4
  go_wp2_with fail
  refine (bytes_no a n c off line st _ h).mono ?_
  rintro e w' ⟨rfl, rfl⟩
  go_wp2
  go_ret
  exact ⟨rfl, Below.refl _ _⟩

theorem law_neg (a : Option Addr) (n c : Nat) (off line st : Int) (w : World) (h : n ≤ 1048576) (h0 : off < 0) :
    Calls Try.prog 4 #[.slice a n c, .int .i64 off, .int .i64 line, .int .i64 st] w fun e w' => e = .returned (.bool true) ∧ Below w.heap.size w w' := by
  go_enter Try.func4, Try.ntmps4
  go_wp2_with fail
  refine (bytes_yes a n c off line st _ h).mono ?_
  rintro e w' ⟨rfl, rfl⟩
  go_wp2
  go_ret
  exact ⟨rfl, Below.refl _ _⟩

theorem law_end (a : Option Addr) (n c : Nat) (zs : List Int) (off line st : Int) (w : World) (h : n ≤ 1048576) (h0 : 0 ≤ off) (h1 : n ≤ off) (hr : IsRow .u8 w a n c zs) :
    Calls Try.prog 4 #[.slice a n c, .int .i64 off, .int .i64 line, .int .i64 st] w fun e w' => e = .returned (.bool true) ∧ Below w.heap.size w w' := by
  have HR : Hid (IsRow .u8 w a n c zs) := hr
  clear hr
  go_enter Try.func4, Try.ntmps4
  go_wp2_with fail
  refine (bytes_yes a n c off line st _ h).mono ?_
  rintro e w' ⟨rfl, rfl⟩
  go_wp2_with fail
  refine (clone_any a n c zs _ h HR.out).mono ?_
  rintro e w1 ⟨a', rfl, _, hb1⟩
  go_wp2_with fail
  refine (zz_end a' n n off line st _ h h1).mono ?_
  rintro e w2 ⟨rfl, hb2⟩
  go_wp2
  go_ret
  exact ⟨rfl, hb1.trans (hb2.mono hb1.size)⟩

theorem law_in (a : Option Addr) (n c off : Nat) (zs : List Int) (line st : Int) (w : World) (h : n ≤ 1048576) (h1 : off < n) (hr : IsRow .u8 w a n c zs) (hl : (Lit.int .i64 line).wf = true) :
    Calls Try.prog 4 #[.slice a n c, .int .i64 off, .int .i64 line, .int .i64 st] w fun e w' => e = .returned (.bool true) ∧ Below w.heap.size w w' := by
  have HR : Hid (IsRow .u8 w a n c zs) := hr
  have HL : Hid ((Lit.int .i64 line).wf = true) := hl
  clear hr hl
  have h0 : (0 : Int) ≤ (off : Int) := by omega
  go_enter Try.func4, Try.ntmps4
  go_wp2_with fail
  refine (bytes_yes a n c off line st _ h).mono ?_
  rintro e w' ⟨rfl, rfl⟩
  go_wp2_with fail
  refine (clone_any a n c zs _ h HR.out).mono ?_
  rintro e w1 ⟨a', rfl, hq, hb1⟩
  obtain ⟨b, rfl, hbw, hcells⟩ := hq (by omega)
  clear hq
  have HC : Hid (Cells w1 b 0 n zs) := hcells
  clear hcells
  go_wp2_with fail
  refine (zz_in b n n off line st zs _ h h1 hbw HC.out HL.out).mono ?_
  rintro e w2 ⟨m, rfl, hm, hs1, hs2, hb2⟩
  have HS1 : Hid (∀ j, j < m → spB (zs.getD (off + j) 0) = true) := hs1
  have HS2 : Hid (off + m < n → spB (zs.getD (off + m) 0) = false) := hs2
  have hcell2 : ∀ i, i < n → w2.cell? ⟨b, i, none⟩ = some (.int .u8 (zs.getD i 0)) := fun i hi => by
    have := (hb2.cell (p := ⟨b, 0 + i, none⟩) hbw).trans (HC.out i hi)
    simpa using this
  have HC2 : Hid (∀ i, i < n → w2.cell? ⟨b, i, none⟩ = some (.int .u8 (zs.getD i 0))) := hcell2
  have HB : Hid (Below w'.heap.size w' w2) := hb1.trans (hb2.mono hb1.size)
  have HLB : Hid (wrap64 (wrap64 (line + nl zs off m) - line) = nl zs off m) := line_back line _ (by have := nl_le zs off m; omega)
  clear hs1 hs2 hcell2 hb1 hb2 hbw
  have hnle := nl_le zs off m
  generalize wrap64 (line + nl zs off m) = x at HLB ⊢
  have HY : Hid ((nl zs off m = 0 ∧ startB zs off st m = st) ∨ (nl zs off m ≠ 0 ∧ ∃ s : Nat, startB zs off st m = s ∧ off < s ∧ s ≤ off + m ∧ zs.getD (s - 1) 0 = 10 ∧ ∀ j, s ≤ j → j < off + m → zs.getD j 0 ≠ 10)) := by
    by_cases h : nl zs off m = 0
    · exact .inl ⟨h, start_none _ _ _ _ h⟩
    · exact .inr ⟨h, start_some _ _ _ _ h⟩
  generalize startB zs off st m = y at HY ⊢
  go_wp2_with fail
  go_loop [13, 14] (fun t i => ∃ k : Nat, k ≤ m ∧ i = .int .i64 (off + k : Nat) ∧ t = .int .i64 (nl zs off k)) (fun _ i => off + m - (intOf i).toNat)
  case atStart => exact ⟨0, Nat.zero_le _, rfl, rfl⟩
  case round =>
    obtain ⟨k, hk, rfl, rfl⟩ := hrel
    have hnk := nl_le zs off k
    by_cases hlt : k < m
    · have hck := HC2.out (off + k) (by omega)
      have hsk := HS1.out k hlt
      have hh := nl_succ_hit zs off k
      have hmi := nl_succ_miss zs off k
      generalize zs.getD (off + k) 0 = z at hck hsk hh hmi
      have HH : Hid (z = 10 → nl zs off (k + 1) = nl zs off k + 1) := hh
      have HM : Hid (z ≠ 10 → nl zs off (k + 1) = nl zs off k) := hmi
      clear hh hmi
      generalize nl zs off k = t at HH HM hnk
      go_wp2_with (go_at_call 22; refine (space_any _ _).mono ?_; rintro e w' ⟨rfl, rfl⟩)
      · have hz : (z == 10) = true := by assumption
        go_round
        case rel => exact ⟨k + 1, by omega, by go_num, by rw [HH.out (by simpa using hz)]; go_num⟩
        case measure => simp [intOf]; omega
      · have hz : (z == 10) = false := by assumption
        go_round
        case rel => exact ⟨k + 1, by omega, by go_num, by rw [HM.out (by simpa using hz)]⟩
        case measure => simp [intOf]; omega
    · have hkm : k = m := by omega
      subst hkm
      have HE : Hid (off + k < n → (w2.cell? ⟨b, off + k, none⟩ = some (.int .u8 (zs.getD (off + k) 0)) ∧ spB (zs.getD (off + k) 0) = false)) := fun h => ⟨HC2.out _ h, HS2.out h⟩
      generalize zs.getD (off + k) 0 = z at HE
      rcases HY.out with ⟨ht, rfl⟩ | ⟨ht, s, rfl, hs1, hs2, hs3, hs4⟩
      · have hlb : wrap64 (x - line) = 0 := by rw [HLB.out, ht]; rfl
        generalize nl zs off k = t at ht hnk
        subst ht
        by_cases he : off + k < n
        · obtain ⟨hcz, hsz⟩ := HE.out he
          have he' : (off : Int) + (k : Int) < (n : Int) := by omega
          go_wp2_with (go_at_call 22; refine (space_any _ _).mono ?_; rintro e w' ⟨rfl, rfl⟩)
          go_ret
          exact ⟨rfl, HB.out⟩
        · have he' : decide ((off : Int) + (k : Int) < (n : Int)) = false := decide_eq_false (by omega)
          go_wp2
          go_ret
          exact ⟨rfl, HB.out⟩
      · have hlb : wrap64 (x - line) = (nl zs off k : Int) := HLB.out
        have ht' : ((nl zs off k : Int) == 0) = false := by simpa using ht
        have hcs := HC2.out (s - 1) (by omega)
        rw [hs3] at hcs
        have HS4 : Hid (∀ j, s ≤ j → j < off + k → zs.getD j 0 ≠ 10) := hs4
        clear hs3 hs4 ht
        generalize nl zs off k = t at hlb hnk ht'
        have hs1' : (off : Int) < (s : Int) := by omega
        have hs2' : (s : Int) ≤ (off : Int) + (k : Int) := by omega
        by_cases he : off + k < n
        · obtain ⟨hcz, hsz⟩ := HE.out he
          have he' : (off : Int) + (k : Int) < (n : Int) := by omega
          go_wp2_with (go_at_call 22; refine (space_any _ _).mono ?_; rintro e w' ⟨rfl, rfl⟩)
          go_loop [15] (fun i => ∃ j : Nat, s ≤ j ∧ j ≤ off + k ∧ i = .int .i64 j) (fun i => off + k - (intOf i).toNat)
          case atStart => exact ⟨s, Nat.le_refl _, hs2, rfl⟩
          case round =>
            obtain ⟨j, hj1, hj2, rfl⟩ := hrel
            by_cases hj : j < off + k
            · have hcj := HC2.out j (by omega)
              have hnj : (zs.getD j 0 == 10) = false := by simpa using HS4.out j hj1 hj
              generalize zs.getD j 0 = zj at hcj hnj
              go_wp2
              go_round
              case rel => exact ⟨j + 1, by omega, by omega, by go_num⟩
              case measure => simp [intOf]; omega
            · go_wp2
              go_ret
              exact ⟨rfl, HB.out⟩
        · have he' : decide ((off : Int) + (k : Int) < (n : Int)) = false := decide_eq_false (by omega)
          go_wp2
          go_loop [15] (fun i => ∃ j : Nat, s ≤ j ∧ j ≤ off + k ∧ i = .int .i64 j) (fun i => off + k - (intOf i).toNat)
          case atStart => exact ⟨s, Nat.le_refl _, hs2, rfl⟩
          case round =>
            obtain ⟨j, hj1, hj2, rfl⟩ := hrel
            by_cases hj : j < off + k
            · have hcj := HC2.out j (by omega)
              have hnj : (zs.getD j 0 == 10) = false := by simpa using HS4.out j hj1 hj
              generalize zs.getD j 0 = zj at hcj hnj
              go_wp2
              go_round
              case rel => exact ⟨j + 1, by omega, by omega, by go_num⟩
              case measure => simp [intOf]; omega
            · go_wp2
              go_ret
              exact ⟨rfl, HB.out⟩

theorem law_any (a : Option Addr) (n c : Nat) (zs : List Int) (off line st : Int) (w : World) (hr : IsRow .u8 w a n c zs) (hl : (Lit.int .i64 line).wf = true) :
    Calls Try.prog 4 #[.slice a n c, .int .i64 off, .int .i64 line, .int .i64 st] w fun e w' => e = .returned (.bool true) ∧ Below w.heap.size w w' := by
  by_cases h : n ≤ 1048576
  · by_cases h0 : off < 0
    · exact law_neg a n c off line st w h h0
    · by_cases h1 : n ≤ off
      · exact law_end a n c zs off line st w h (by omega) h1 hr
      · obtain ⟨o, rfl⟩ := Int.eq_ofNat_of_zero_le (show 0 ≤ off by omega)
        exact law_in a n c o zs line st w h (by omega) hr hl
  · exact law_long a n c off line st w (by omega)

end Go.Proofs.Qxb6605490a.Lex
