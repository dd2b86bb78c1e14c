import Derived.Test.Qxb6605515aC
import Derived.LaidEql
namespace Go.Proofs.Qxb6605515a.Sh
open Go.ChangeShapes Go.WideShapes Go.ChangeAt Go.RowKit
set_option linter.unusedVariables false

theorem eqPtr (d : Nat) (p : Option Addr) (w : World) : (Op.equalIn (d + 1) 33 (.pointer p) (.pointer p)).run Try.prog w = .ok true w := by
  obtain ⟨i1, hi1, hz10, hz11, hz12⟩ := info_parts info9
  cases p with
  | none => simp [Op.equalIn, run_underlying Try.underlying33]
  | some a => simp [Op.equalIn, run_underlying Try.underlying33, sizeOf, typeInfo, hi1, run_sameAddr_same]

theorem neq35 (s : ByteArray) (i : Int) (p : Option Addr) (w : World) : (binOp .neq 35 (.agg #[.string s, .int .i64 i, .pointer p]) (.agg #[.string s, .int .i64 i, .pointer p])).run Try.prog w = .ok (.bool false) w := by
  have hp := fun d w => eqPtr d p w
  rw [run_neq_struct, show (10000 : Nat) = 9999 + 1 from rfl, run_equalIn_agg w 9999 35 _ _ (by kernel_rfl) (by kernel_rfl)]
  simp only [Program.fieldsOf, Try.underlying35]
  go_simp

theorem neq39 (s : ByteArray) (i : Int) (p : Option Addr) (w : World) : (binOp .neq 39 (.agg #[.string s, .int .i64 i, .pointer p]) (.agg #[.string s, .int .i64 i, .pointer p])).run Try.prog w = .ok (.bool false) w := by
  have hp := fun d w => eqPtr d p w
  rw [run_neq_struct, show (10000 : Nat) = 9999 + 1 from rfl, run_equalIn_agg w 9999 39 _ _ (by kernel_rfl) (by kernel_rfl)]
  simp only [Program.fieldsOf, Try.underlying39]
  go_simp

/-! ### the two thin callers -/
theorem zzTo_some (b n : Nat) (xs : List Value) (w : World) (hn : n ≤ 65536) (ho : w.ownsRow 0 35 3 (.slice (some ⟨b, 0, none⟩) n n) n xs) (ht : Triples xs n) :
    Calls Try.prog 9 #[.slice (some ⟨b, 0, none⟩) n n] w fun e w' => ∃ b', e = .returned (.slice (some ⟨b', 0, none⟩) n n) ∧ w'.ownsRow 0 39 3 (.slice (some ⟨b', 0, none⟩) n n) n xs ∧ Below w.heap.size w w' := by
  go_enter Try.func9, Try.ntmps9
  go_wp2_with fail
  refine (to_some b n xs _ hn ho (row_lt ho) ht).mono ?_
  rintro e w' ⟨rfl, h1, h2, h3⟩
  clear ho ht
  go_wp2
  go_ret
  exact ⟨_, rfl, h1, h3⟩

theorem zzTo_nil (w : World) :
    Calls Try.prog 9 #[.slice none 0 0] w fun e w' => ∃ b', e = .returned (.slice (some ⟨b', 0, none⟩) 0 0) ∧ w'.ownsRow 0 39 3 (.slice (some ⟨b', 0, none⟩) 0 0) 0 [] ∧ Below w.heap.size w w' := by
  go_enter Try.func9, Try.ntmps9
  go_wp2_with fail
  refine (to_nil _).mono ?_
  rintro e w' ⟨rfl, h1, h2, h3⟩
  go_wp2
  go_ret
  exact ⟨_, rfl, h1, h3⟩

theorem zzFrom_some (b n : Nat) (xs : List Value) (w : World) (hn : n ≤ 65536) (ho : w.ownsRow 0 39 3 (.slice (some ⟨b, 0, none⟩) n n) n xs) (ht : Triples xs n) :
    Calls Try.prog 8 #[.slice (some ⟨b, 0, none⟩) n n] w fun e w' => ∃ b', e = .returned (.slice (some ⟨b', 0, none⟩) n n) ∧ w'.ownsRow 0 35 3 (.slice (some ⟨b', 0, none⟩) n n) n xs ∧ Below w.heap.size w w' := by
  go_enter Try.func8, Try.ntmps8
  go_wp2_with fail
  refine (from_some b n xs _ hn ho (row_lt ho) ht).mono ?_
  rintro e w' ⟨rfl, h1, h2, h3⟩
  clear ho ht
  go_wp2
  go_ret
  exact ⟨_, rfl, h1, h3⟩

theorem zzFrom_nil (w : World) :
    Calls Try.prog 8 #[.slice none 0 0] w fun e w' => ∃ b', e = .returned (.slice (some ⟨b', 0, none⟩) 0 0) ∧ w'.ownsRow 0 35 3 (.slice (some ⟨b', 0, none⟩) 0 0) 0 [] ∧ Below w.heap.size w w' := by
  go_enter Try.func8, Try.ntmps8
  go_wp2_with fail
  refine (from_nil _).mono ?_
  rintro e w' ⟨rfl, h1, h2, h3⟩
  go_wp2
  go_ret
  exact ⟨_, rfl, h1, h3⟩

/-- Below B what is owned above stays where the world turns from the heap's size on. -/
theorem row_below {w w' : World} {B : Nat} {t : TypeId} {s n g c : Nat} {xs : List Value} (ho : w.ownsRow B t s (.slice (some ⟨g, 0, none⟩) n c) n xs) (hb : Below w.heap.size w w') : w'.ownsRow B t s (.slice (some ⟨g, 0, none⟩) n c) n xs := by
  have hlt := row_lt ho
  obtain ⟨h1, h2⟩ := ho
  refine ⟨h1, ?_⟩
  rcases h2 with h2 | ⟨g', cap, cur, hv, hg, hh, r⟩
  · exact .inl h2
  · have e : g' = g := by simp at hv; exact hv.1.symm
    subst e
    exact .inr ⟨g', cap, cur, hv, hg, by rw [hb.block g' hlt]; exact hh, r⟩

theorem strs_below {w w' : World} {a : Option Addr} {n : Nat} {ss : List ByteArray} (h : Strs w a n ss) (hb : Below w.heap.size w w') : Strs w' a n ss := by
  intro h0
  obtain ⟨b, off, ha, hlt, hc⟩ := h h0
  exact ⟨b, off, ha, Nat.lt_of_lt_of_le hlt hb.size, fun i hi => (hb.cell (p := ⟨b, off + i, none⟩) hlt).trans (hc i hi)⟩
theorem ints_below {w w' : World} {a : Option Addr} {n : Nat} {ss : List Int} (h : Ints w a n ss) (hb : Below w.heap.size w w') : Ints w' a n ss := by
  intro h0
  obtain ⟨b, off, ha, hlt, hc⟩ := h h0
  exact ⟨b, off, ha, Nat.lt_of_lt_of_le hlt hb.size, fun i hi => (hb.cell (p := ⟨b, off + i, none⟩) hlt).trans (hc i hi)⟩
theorem bools_below {w w' : World} {a : Option Addr} {n : Nat} {ss : List Bool} (h : Bools w a n ss) (hb : Below w.heap.size w w') : Bools w' a n ss := by
  intro h0
  obtain ⟨b, off, ha, hlt, hc⟩ := h h0
  exact ⟨b, off, ha, Nat.lt_of_lt_of_le hlt hb.size, fun i hi => (hb.cell (p := ⟨b, off + i, none⟩) hlt).trans (hc i hi)⟩

/-! ### the law -/
theorem law_long (a0 a1 a2 a3 : Option Addr) (n0 n1 n2 n3 c0 c1 c2 c3 : Nat) (ss ls : List ByteArray) (w : World) (h0 : n0 ≤ maxLen) (h1 : n1 ≤ maxLen) (h2 : n2 ≤ maxLen) (h3 : n3 ≤ maxLen) (hs : Strs w a0 n0 ss) (hl : Strs w a3 n3 ls)
    (h : 65536 < n0 ∨ 65536 < n1 ∨ 65536 < n2 ∨ 65536 < n3) :
    Calls Try.prog 3 #[.slice a0 n0 c0, .slice a1 n1 c1, .slice a2 n2 c2, .slice a3 n3 c3] w fun e w' => e = .returned (.bool true) ∧ Below w.heap.size w w' := by
  have HS : Hid (Strs w a0 n0 ss) := hs
  have HL : Hid (Strs w a3 n3 ls) := hl
  have HH : Hid (65536 < n0 ∨ 65536 < n1 ∨ 65536 < n2 ∨ 65536 < n3) := h
  clear hs hl h
  go_enter Try.func3, Try.ntmps3
  go_wp2_with fail
  refine (bytes_any a0 a1 a2 a3 n0 n1 n2 n3 c0 c1 c2 c3 ss ls _ h0 h1 h2 h3 HS.out HL.out).mono ?_
  rintro e w' ⟨⟨b, rfl⟩, rfl⟩
  cases b
  · go_wp2
    go_ret
    exact ⟨rfl, Below.refl _ _⟩
  · go_wp2_with fail
    refine (size_long a0 a1 a2 a3 n0 n1 n2 n3 c0 c1 c2 c3 _ HH.out).mono ?_
    rintro e w' ⟨rfl, rfl⟩
    go_wp2
    go_ret
    exact ⟨rfl, Below.refl _ _⟩

theorem law_diff (a0 a1 a2 a3 : Option Addr) (n0 n1 n2 n3 c0 c1 c2 c3 : Nat) (ss ls : List ByteArray) (w : World) (h0 : n0 ≤ 65536) (h1 : n1 ≤ 65536) (h2 : n2 ≤ 65536) (h3 : n3 ≤ 65536) (hs : Strs w a0 n0 ss) (hl : Strs w a3 n3 ls)
    (h : ¬ (n1 = n0 ∧ n2 = n0 ∧ n3 = n0)) :
    Calls Try.prog 3 #[.slice a0 n0 c0, .slice a1 n1 c1, .slice a2 n2 c2, .slice a3 n3 c3] w fun e w' => e = .returned (.bool true) ∧ Below w.heap.size w w' := by
  have HS : Hid (Strs w a0 n0 ss) := hs
  have HL : Hid (Strs w a3 n3 ls) := hl
  have HH : Hid (¬ (n1 = n0 ∧ n2 = n0 ∧ n3 = n0)) := h
  clear hs hl h
  go_enter Try.func3, Try.ntmps3
  go_wp2_with fail
  refine (bytes_any a0 a1 a2 a3 n0 n1 n2 n3 c0 c1 c2 c3 ss ls _ (by unfold maxLen; omega) (by unfold maxLen; omega) (by unfold maxLen; omega) (by unfold maxLen; omega) HS.out HL.out).mono ?_
  rintro e w' ⟨⟨b, rfl⟩, rfl⟩
  cases b
  · go_wp2
    go_ret
    exact ⟨rfl, Below.refl _ _⟩
  · go_wp2_with fail
    refine (size_any a0 a1 a2 a3 n0 n1 n2 n3 c0 c1 c2 c3 ss ls _ h0 h1 h2 h3 HS.out HL.out).mono ?_
    rintro e w' ⟨⟨b, rfl⟩, rfl⟩
    cases b
    · go_wp2
      go_ret
      exact ⟨rfl, Below.refl _ _⟩
    · go_wp2_with fail
      refine (same_no a0 a1 a2 a3 n0 n1 n2 n3 c0 c1 c2 c3 _ h0 h1 h2 h3 HH.out).mono ?_
      rintro e w' ⟨rfl, rfl⟩
      go_wp2
      go_ret
      exact ⟨rfl, Below.refl _ _⟩

theorem law_some (x : Addr) (a1 a2 a3 : Option Addr) (n c0 c1 c2 c3 : Nat) (ss ls : List ByteArray) (zs : List Int) (bs : List Bool) (w : World) (hn : n ≤ 65536)
    (hs : Strs w (some x) n ss) (hz : Ints w a1 n zs) (hb : Bools w a2 n bs) (hl : Strs w a3 n ls) :
    Calls Try.prog 3 #[.slice (some x) n c0, .slice a1 n c1, .slice a2 n c2, .slice a3 n c3] w fun e w' => e = .returned (.bool true) ∧ Below w.heap.size w w' := by
  have HS : Hid (Strs w (some x) n ss) := hs
  have HZ : Hid (Ints w a1 n zs) := hz
  have HB : Hid (Bools w a2 n bs) := hb
  have HL : Hid (Strs w a3 n ls) := hl
  clear hs hz hb hl
  have qn := fun (w : World) (a : Option Addr) (n c n' c' : Nat) => Lib.run_eql_slice_nil (P := Try.prog) w 31 39 a n c n' c' Try.underlying31
  have q35 := neq35
  have q39 := neq39
  go_enter Try.func3, Try.ntmps3
  go_wp2_with fail
  refine (bytes_any (some x) a1 a2 a3 n n n n c0 c1 c2 c3 ss ls _ (by unfold maxLen; omega) (by unfold maxLen; omega) (by unfold maxLen; omega) (by unfold maxLen; omega) HS.out HL.out).mono ?_
  rintro e w' ⟨⟨b, rfl⟩, rfl⟩
  cases b
  · go_wp2
    go_ret
    exact ⟨rfl, Below.refl _ _⟩
  go_wp2_with fail
  refine (size_any (some x) a1 a2 a3 n n n n c0 c1 c2 c3 ss ls _ hn hn hn hn HS.out HL.out).mono ?_
  rintro e w' ⟨⟨b, rfl⟩, rfl⟩
  cases b
  · go_wp2
    go_ret
    exact ⟨rfl, Below.refl _ _⟩
  go_wp2_with fail
  refine (same_yes (some x) a1 a2 a3 n c0 c1 c2 c3 _ hn).mono ?_
  rintro e w' ⟨rfl, rfl⟩
  go_wp2_with fail
  refine (shares_some x a1 a2 a3 n c0 c1 c2 c3 ss ls zs bs _ hn HS.out HZ.out HB.out HL.out).mono ?_
  rintro e w1 ⟨b1, v1, xs, rfl, o1, t1, g1⟩
  have O1 : Hid (w1.ownsRow 0 35 3 (.slice (some ⟨b1, 0, none⟩) n n) n xs) := o1
  have T1 : Hid (Triples xs n) := t1
  clear o1 t1
  go_wp2_with fail
  refine (zzTo_some b1 n xs _ hn O1.out T1.out).mono ?_
  rintro e w2 ⟨b2, rfl, o2, g2⟩
  have O2 : Hid (w2.ownsRow 0 39 3 (.slice (some ⟨b2, 0, none⟩) n n) n xs) := o2
  clear o2
  go_wp2_with fail
  refine (zzFrom_some b2 n xs _ hn O2.out T1.out).mono ?_
  rintro e w3 ⟨b3, rfl, o3, g3⟩
  have R1 : Hid (w3.ownsRow 0 35 3 (.slice (some ⟨b1, 0, none⟩) n n) n xs) := row_below (row_below O1.out g2) g3
  have R3 : Hid (w3.ownsRow 0 35 3 (.slice (some ⟨b3, 0, none⟩) n n) n xs) := o3
  have G3 : Hid (Below w'.heap.size w' w3) := (g1.trans (g2.mono g1.size)).trans (g3.mono (Nat.le_trans g1.size g2.size))
  clear o3 g1 g2 g3 O1 O2
  go_wp2_with fail
  go_loopw [13] (fun i wr => ∃ k q : Nat, k ≤ n ∧ i = .int .i64 k ∧ wr = w3.drewN q) (fun i _ => n - (intOf i).toNat)
  case atStart => exact ⟨0, 0, Nat.zero_le _, rfl, rfl⟩
  case round =>
    obtain ⟨k, q, hk, rfl, rfl⟩ := hrel
    by_cases hlt : k < n
    · have hlt' : (k : Int) < (n : Int) := by omega
      obtain ⟨s, i, p, t0, t1, t2⟩ := T1.out k hlt
      have c10 : w3.cell? ⟨b1, k * 3, none⟩ = some (.string s) := by rw [R1.out.cellAt _ (by omega)]; exact t0
      have c11 : w3.cell? ⟨b1, k * 3 + 1, none⟩ = some (.int .i64 i) := by rw [R1.out.cellAt _ (by omega)]; exact t1
      have c12 : w3.cell? ⟨b1, k * 3 + 2, none⟩ = some (.pointer p) := by rw [R1.out.cellAt _ (by omega)]; exact t2
      have c30 : w3.cell? ⟨b3, k * 3, none⟩ = some (.string s) := by rw [R3.out.cellAt _ (by omega)]; exact t0
      have c31 : w3.cell? ⟨b3, k * 3 + 1, none⟩ = some (.int .i64 i) := by rw [R3.out.cellAt _ (by omega)]; exact t1
      have c32 : w3.cell? ⟨b3, k * 3 + 2, none⟩ = some (.pointer p) := by rw [R3.out.cellAt _ (by omega)]; exact t2
      clear t0 t1 t2
      go_wp2
      go_quiet (fail)
      go_wp2
      go_roundw
      case rel => exact ⟨k + 1, _, by omega, by go_num, rfl⟩
      case measure => simp [intOf]; omega
    · obtain rfl : k = n := by omega
      go_wp2_with fail
      refine (audit_some x a1 a2 a3 k c0 c1 c2 c3 ss ls zs bs _ hn (strs_below HS.out (below_drewN G3.out _)) (ints_below HZ.out (below_drewN G3.out _)) (bools_below HB.out (below_drewN G3.out _)) (strs_below HL.out (below_drewN G3.out _))).mono ?_
      rintro e w4 ⟨b4, v4, ys, rfl, o4, t4, g4⟩
      have O4 : Hid (w4.ownsRow 0 39 3 (.slice (some ⟨b4, 0, none⟩) k k) k ys) := o4
      have T4 : Hid (Triples ys k) := t4
      clear o4 t4
      go_wp2_with fail
      refine (zzFrom_some b4 k ys _ hn O4.out T4.out).mono ?_
      rintro e w5 ⟨b5, rfl, o5, g5⟩
      have O5 : Hid (w5.ownsRow 0 35 3 (.slice (some ⟨b5, 0, none⟩) k k) k ys) := o5
      clear o5
      go_wp2_with fail
      refine (zzTo_some b5 k ys _ hn O5.out T4.out).mono ?_
      rintro e w6 ⟨b6, rfl, o6, g6⟩
      have R4 : Hid (w6.ownsRow 0 39 3 (.slice (some ⟨b4, 0, none⟩) k k) k ys) := row_below (row_below O4.out g5) g6
      have R6 : Hid (w6.ownsRow 0 39 3 (.slice (some ⟨b6, 0, none⟩) k k) k ys) := o6
      have G6 : Hid (Below w'.heap.size w' w6) := by
        have G := below_drewN G3.out q
        exact ((G.trans (g4.mono G.size)).trans (g5.mono (Nat.le_trans G.size g4.size))).trans (g6.mono (Nat.le_trans (Nat.le_trans G.size g4.size) g5.size))
      clear o6 g4 g5 g6 O4 O5 R1 R3 T1
      go_wp2_with fail
      go_loopw [17] (fun i wr => ∃ j q : Nat, j ≤ k ∧ i = .int .i64 j ∧ wr = w6.drewN q) (fun i _ => k - (intOf i).toNat)
      case atStart => exact ⟨0, 0, Nat.zero_le _, rfl, rfl⟩
      case round =>
        obtain ⟨j, q, hj, rfl, rfl⟩ := hrel
        by_cases hlt : j < k
        · have hlt' : (j : Int) < (k : Int) := by omega
          obtain ⟨s, i, p, t0, t1, t2⟩ := T4.out j hlt
          have c10 : w6.cell? ⟨b4, j * 3, none⟩ = some (.string s) := by rw [R4.out.cellAt _ (by omega)]; exact t0
          have c11 : w6.cell? ⟨b4, j * 3 + 1, none⟩ = some (.int .i64 i) := by rw [R4.out.cellAt _ (by omega)]; exact t1
          have c12 : w6.cell? ⟨b4, j * 3 + 2, none⟩ = some (.pointer p) := by rw [R4.out.cellAt _ (by omega)]; exact t2
          have c30 : w6.cell? ⟨b6, j * 3, none⟩ = some (.string s) := by rw [R6.out.cellAt _ (by omega)]; exact t0
          have c31 : w6.cell? ⟨b6, j * 3 + 1, none⟩ = some (.int .i64 i) := by rw [R6.out.cellAt _ (by omega)]; exact t1
          have c32 : w6.cell? ⟨b6, j * 3 + 2, none⟩ = some (.pointer p) := by rw [R6.out.cellAt _ (by omega)]; exact t2
          clear t0 t1 t2
          go_wp2
          go_quiet (fail)
          go_wp2
          go_roundw
          case rel => exact ⟨j + 1, _, by omega, by go_num, rfl⟩
          case measure => simp [intOf]; omega
        · go_wp2
          go_ret
          exact ⟨rfl, below_drewN G6.out _⟩

theorem law_nil (a1 a2 a3 : Option Addr) (c0 c1 c2 c3 : Nat) (w : World) :
    Calls Try.prog 3 #[.slice none 0 c0, .slice a1 0 c1, .slice a2 0 c2, .slice a3 0 c3] w fun e w' => e = .returned (.bool true) ∧ Below w.heap.size w w' := by
  have qn := fun (w : World) (a : Option Addr) (n c n' c' : Nat) => Lib.run_eql_slice_nil (P := Try.prog) w 31 39 a n c n' c' Try.underlying31
  go_enter Try.func3, Try.ntmps3
  go_wp2_with fail
  refine (bytes_any none a1 a2 a3 0 0 0 0 c0 c1 c2 c3 [] [] _ (by unfold maxLen; omega) (by unfold maxLen; omega) (by unfold maxLen; omega) (by unfold maxLen; omega) (fun h => absurd h (by omega)) (fun h => absurd h (by omega))).mono ?_
  rintro e w' ⟨⟨b, rfl⟩, rfl⟩
  cases b
  · go_wp2
    go_ret
    exact ⟨rfl, Below.refl _ _⟩
  go_wp2_with fail
  refine (size_any none a1 a2 a3 0 0 0 0 c0 c1 c2 c3 [] [] _ (by omega) (by omega) (by omega) (by omega) (fun h => absurd h (by omega)) (fun h => absurd h (by omega))).mono ?_
  rintro e w' ⟨⟨b, rfl⟩, rfl⟩
  cases b
  · go_wp2
    go_ret
    exact ⟨rfl, Below.refl _ _⟩
  go_wp2_with fail
  refine (same_yes none a1 a2 a3 0 c0 c1 c2 c3 _ (by omega)).mono ?_
  rintro e w' ⟨rfl, rfl⟩
  go_wp2_with fail
  refine (shares_nil a1 a2 a3 0 c0 c1 c2 c3 _).mono ?_
  rintro e w1 ⟨rfl, rfl⟩
  go_wp2_with fail
  refine (zzTo_nil _).mono ?_
  rintro e w2 ⟨b2, rfl, o2, g2⟩
  have O2 : Hid (w2.ownsRow 0 39 3 (.slice (some ⟨b2, 0, none⟩) 0 0) 0 []) := o2
  clear o2
  go_wp2_with fail
  refine (zzFrom_some b2 0 [] _ (by omega) O2.out (fun j hj => absurd hj (by omega))).mono ?_
  rintro e w3 ⟨b3, rfl, o3, g3⟩
  clear o3 O2
  go_wp2_with fail
  go_loopw [13] (fun i wr => i = .int .i64 0 ∧ wr = w3) (fun i _ => 0)
  case atStart => exact ⟨rfl, rfl⟩
  case round =>
    obtain ⟨rfl, rfl⟩ := hrel
    go_wp2_with fail
    refine (audit_nil a1 a2 a3 0 c0 c1 c2 c3 _).mono ?_
    rintro e w4 ⟨rfl, rfl⟩
    go_wp2_with fail
    refine (zzFrom_nil _).mono ?_
    rintro e w5 ⟨b5, rfl, o5, g5⟩
    have O5 : Hid (w5.ownsRow 0 35 3 (.slice (some ⟨b5, 0, none⟩) 0 0) 0 []) := o5
    clear o5
    go_wp2_with fail
    refine (zzTo_some b5 0 [] _ (by omega) O5.out (fun j hj => absurd hj (by omega))).mono ?_
    rintro e w6 ⟨b6, rfl, o6, g6⟩
    clear o6 O5
    go_wp2_with fail
    go_loopw [17] (fun i wr => i = .int .i64 0 ∧ wr = w6) (fun i _ => 0)
    case atStart => exact ⟨rfl, rfl⟩
    case round =>
      obtain ⟨rfl, rfl⟩ := hrel
      go_wp2
      go_ret
      exact ⟨rfl, ((g2.trans (g3.mono g2.size)).trans (g5.mono (Nat.le_trans g2.size g3.size))).trans (g6.mono (Nat.le_trans (Nat.le_trans g2.size g3.size) g5.size))⟩

end Go.Proofs.Qxb6605515a.Sh
