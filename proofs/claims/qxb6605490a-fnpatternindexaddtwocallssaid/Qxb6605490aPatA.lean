import Derived.Test.Qxb6605490aPatP
import Derived.Deep.QuietTactic
import Derived.BigQuiet
namespace Go.Proofs.Qxb6605490a.Pat
open Go.ChangeShapes Go.WideShapes Go.ChangeAt Go.RowKit
set_option linter.unusedVariables false

theorem info3 : (Try.prog.info? 3).map (fun i => (i.zero, i.size, i.bytes)) = some (some (.int .i64 0), 1, 8) := by kernel_rfl
theorem info9 : (Try.prog.info? 9).map (fun i => (i.zero, i.size, i.bytes)) = some (some (.string ByteArray.empty), 1, 16) := by kernel_rfl

/-- n strings lie from 'a' on. -/
def Strs (w : World) (a : Option Addr) (n : Nat) (ss : List ByteArray) : Prop :=
  0 < n → ∃ b off, a = some ⟨b, off, none⟩ ∧ b < w.heap.size ∧ ∀ i, i < n → w.cell? ⟨b, off + i, none⟩ = some (.string (ss.getD i ByteArray.empty))

def SomeBool (e : Ending) : Prop := ∃ b, e = .returned (.bool b)
theorem someBool (b : Bool) : SomeBool (.returned (.bool b)) := ⟨b, rfl⟩
def SomeInt (e : Ending) : Prop := ∃ b, e = .returned (.int .i64 b)
theorem someInt (b : Int) : SomeInt (.returned (.int .i64 b)) := ⟨b, rfl⟩

/-! ### zzBytes: it returns a bool and turns nothing -/
theorem bytes_any (a0 a1 a3 a4 : Option Addr) (n0 n1 n3 n4 c0 c1 c3 c4 : Nat) (p2 p5 : Int) (ss ls : List ByteArray) (w : World) (h0 : n0 ≤ maxLen) (h1 : n1 ≤ maxLen) (h3 : n3 ≤ maxLen) (h4 : n4 ≤ maxLen) (hs : Strs w a1 n1 ss) (hl : Strs w a4 n4 ls) :
    Calls Try.prog 5 #[.slice a0 n0 c0, .slice a1 n1 c1, .int .i64 p2, .slice a3 n3 c3, .slice a4 n4 c4, .int .i64 p5] w fun e w' => SomeBool e ∧ w' = w := by
  unfold maxLen at h0 h1 h3 h4
  have HS := hid hs
  have HL := hid hl
  clear hs hl
  go_enter Try.func5, Try.ntmps5
  go_wp2
  repeat (go_ret; exact ⟨someBool _, rfl⟩)
  go_loop [12, 13, 14] (fun r t i => ∃ (k : Nat) (T : Int), k ≤ n1 ∧ i = .int .i64 k ∧ t = .int .i64 T) (fun _ _ i => n1 - (intOf i).toNat)
  case atStart => exact ⟨0, _, Nat.zero_le _, rfl, rfl⟩
  case round =>
    obtain ⟨k, T, hk, rfl, rfl⟩ := hrel
    by_cases hlt : k < n1
    · obtain ⟨b, off, ha, hb, hc⟩ := HS.out (by omega)
      subst ha
      have hck := hc k hlt
      go_wp2
      · go_ret
        exact ⟨someBool _, rfl⟩
      · go_ret
        exact ⟨someBool _, rfl⟩
      · go_round
        case rel => exact ⟨k + 1, _, by omega, by go_num, rfl⟩
        case measure => simp [intOf]; omega
    · go_wp2
      repeat (go_ret; exact ⟨someBool _, rfl⟩)
      go_loop [12, 13, 15] (fun r t i => ∃ (k : Nat) (T : Int), k ≤ n4 ∧ i = .int .i64 k ∧ t = .int .i64 T) (fun _ _ i => n4 - (intOf i).toNat)
      case atStart => exact ⟨0, _, Nat.zero_le _, rfl, rfl⟩
      case round =>
        obtain ⟨k, T, hk, rfl, rfl⟩ := hrel
        by_cases hlt : k < n4
        · obtain ⟨b, off, ha, hb, hc⟩ := HL.out (by omega)
          subst ha
          have hck := hc k hlt
          go_wp2
          · go_ret
            exact ⟨someBool _, rfl⟩
          · go_ret
            exact ⟨someBool _, rfl⟩
          · go_round
            case rel => exact ⟨k + 1, _, by omega, by go_num, rfl⟩
            case measure => simp [intOf]; omega
        · go_wp2
          go_ret
          exact ⟨someBool _, rfl⟩

/-! ### zzAddStringBytes: it returns an int and turns nothing -/
theorem sum_any (t : Int) (a : Option Addr) (n c : Nat) (ss : List ByteArray) (w : World) (hn : n ≤ 4096) (hs : Strs w a n ss) :
    Calls Try.prog 6 #[.int .i64 t, .slice a n c] w fun e w' => SomeInt e ∧ w' = w := by
  have HS := hid hs
  clear hs
  go_enter Try.func6, Try.ntmps6
  go_wp2
  go_loop [0, 4, 5] (fun t r i => ∃ (k : Nat) (T : Int), k ≤ n ∧ i = .int .i64 k ∧ t = .int .i64 T) (fun _ _ i => n - (intOf i).toNat)
  case atStart => exact ⟨0, _, Nat.zero_le _, rfl, rfl⟩
  case round =>
    obtain ⟨k, T, hk, rfl, rfl⟩ := hrel
    by_cases hlt : k < n
    · obtain ⟨b, off, ha, hb, hc⟩ := HS.out (by omega)
      subst ha
      have hck := hc k hlt
      go_wp2
      · go_ret
        exact ⟨someInt _, rfl⟩
      · go_round
        case rel => exact ⟨k + 1, _, by omega, by go_num, rfl⟩
        case measure => simp [intOf]; omega
      · go_ret
        exact ⟨someInt _, rfl⟩
    · go_wp2
      go_ret
      exact ⟨someInt _, rfl⟩

/-! ### rows of ints and of strings, by the keys that they make -/
def Kr (w : World) (a : Option Addr) (n : Nat) (ks : List Key) : Prop :=
  0 < n → ∃ b off, a = some ⟨b, off, none⟩ ∧ b < w.heap.size ∧ ∀ i, i < n → w.cell? ⟨b, off + i, none⟩ = some (.int .i64 (at0 ks i).1)
def Tr (w : World) (a : Option Addr) (n : Nat) (ks : List Key) : Prop :=
  0 < n → ∃ b off, a = some ⟨b, off, none⟩ ∧ b < w.heap.size ∧ ∀ i, i < n → w.cell? ⟨b, off + i, none⟩ = some (.string (bs (at0 ks i).2))

theorem Kr.below {w w' : World} {a : Option Addr} {n : Nat} {ks : List Key} (h : Kr w a n ks) (hb : Below w.heap.size w w') : Kr w' a n ks := by
  intro h0
  obtain ⟨b, off, ha, hlt, hc⟩ := h h0
  exact ⟨b, off, ha, Nat.lt_of_lt_of_le hlt hb.size, fun i hi => (hb.cell (p := ⟨b, off + i, none⟩) hlt).trans (hc i hi)⟩
theorem Tr.below {w w' : World} {a : Option Addr} {n : Nat} {ks : List Key} (h : Tr w a n ks) (hb : Below w.heap.size w w') : Tr w' a n ks := by
  intro h0
  obtain ⟨b, off, ha, hlt, hc⟩ := h h0
  exact ⟨b, off, ha, Nat.lt_of_lt_of_le hlt hb.size, fun i hi => (hb.cell (p := ⟨b, off + i, none⟩) hlt).trans (hc i hi)⟩

theorem row_lt {w : World} {B : Nat} {t : TypeId} {s n g c : Nat} {xs : List Value} (ho : w.ownsRow B t s (.slice (some ⟨g, 0, none⟩) n c) n xs) : g < w.heap.size := by
  rcases ho.2 with ⟨h', _⟩ | ⟨g', cap', cur, h', _, hg, _⟩
  · simp at h'
  · simp only [Value.slice.injEq, Option.some.injEq, Addr.mk.injEq, and_true, true_and] at h'
    obtain ⟨rfl, rfl⟩ := h'
    obtain ⟨h1, _⟩ := Array.getElem?_eq_some_iff.1 hg
    exact h1

/-- WHAT A CLONE's LOOP HOLDS behind k rounds (t: the element's type; f: what the cells hold). -/
def Done (w wr : World) (t : TypeId) (n k : Nat) (f : Nat → Value) : Prop :=
  (∃ xs, wr.ownsRow w.heap.size t 1 (.slice (some ⟨w.heap.size, 0, none⟩) n n) n xs ∧ ∀ j, j < k → xs[j]? = some (f j)) ∧ Below w.heap.size w wr

theorem Done.zero {w wr : World} {t : TypeId} {n : Nat} {f : Nat → Value} {xs : List Value} (h : wr.ownsRow w.heap.size t 1 (.slice (some ⟨w.heap.size, 0, none⟩) n n) n xs) (hg : w.grownBy wr none) : Done w wr t n 0 f :=
  ⟨⟨xs, h, fun j hj => absurd hj (by omega)⟩, (Below.refl _ _).grown hg (Nat.le_refl _) (by simp)⟩
theorem Done.next {w wr : World} {t : TypeId} {n k : Nat} {f : Nat → Value} (h : Done w wr t n k f) (hk : k < n) : Done w (wr.setCell ⟨w.heap.size, k, none⟩ (f k)) t n (k + 1) f := by
  obtain ⟨⟨xs, ho, hx⟩, hb⟩ := h
  refine ⟨⟨_, (ho.stored k _).1, fun j hj => ?_⟩, hb.setCell (Nat.le_refl _) _⟩
  have hl := ho.1
  by_cases e : j = k
  · subst e; rw [List.getElem?_set_self (by omega)]
  · rw [List.getElem?_set_ne (by omega)]; exact hx j (by omega)
theorem Done.frozen {w wr : World} {t : TypeId} {n k : Nat} {f : Nat → Value} (h : Done w wr t n k f) (j : Nat) : wr.frozen? ⟨w.heap.size, j, none⟩ = false := by
  obtain ⟨⟨xs, ho, hx⟩, hb⟩ := h
  exact ho.frozenAt j
theorem Done.old {w wr : World} {t : TypeId} {n k : Nat} {f : Nat → Value} (h : Done w wr t n k f) (hk : k < n) : ∃ v, wr.cell? ⟨w.heap.size, k, none⟩ = some v := by
  obtain ⟨⟨xs, ho, hx⟩, hb⟩ := h
  have hl := ho.1
  exact ⟨xs[k]'(by omega), by rw [ho.cellAt k (by omega), List.getElem?_eq_getElem]⟩
theorem Done.full {w wr : World} {t : TypeId} {n : Nat} {f : Nat → Value} (h : Done w wr t n n f) : (∀ i, i < n → wr.cell? ⟨w.heap.size, 0 + i, none⟩ = some (f i)) ∧ w.heap.size < wr.heap.size ∧ Below w.heap.size w wr := by
  obtain ⟨⟨xs, ho, hx⟩, hb⟩ := h
  refine ⟨fun i hi => ?_, row_lt ho, hb⟩
  rw [Nat.zero_add, ho.cellAt i (by omega)]; exact hx i hi

theorem cloneK (a : Option Addr) (n c : Nat) (ks : List Key) (w : World) (hn : n ≤ 4096) (h : Kr w a n ks) (hnil : a = none → n = 0) :
    Calls Try.prog 7 #[.slice a n c] w fun e w' => ∃ a', e = .returned (.slice a' n n) ∧ Kr w' a' n ks ∧ Below w.heap.size w w' := by
  have q := fun (w : World) (a : Option Addr) (n c n' c' : Nat) => Lib.run_eql_slice_nil (P := Try.prog) w 22 3 a n c n' c' Try.underlying22
  obtain ⟨i0, hi, hz0, hz1, hz2⟩ := info_parts info3
  cases a with
  | none =>
    obtain rfl := hnil rfl
    clear h
    go_enter Try.func7, Try.ntmps7
    go_wp2
    go_ret
    exact ⟨none, rfl, fun h => absurd h (by omega), Below.refl _ _⟩
  | some x =>
    have H := hid h
    clear h hnil
    go_enter Try.func7, Try.ntmps7
    go_wp2_with (first | (at_make; refine wpList_make_full _ rfl _ _ 22 rfl w.heap.size 3 i0 (.int .i64 0) 1 Try.underlying22 hi hz0 hz1 _ _ _ _ n rfl rfl rfl rfl (by rw [hz2]; omega) (by unfold maxLen; omega) (Nat.le_refl _) ?_; intro w1 ho hg; have D := Done.zero (f := fun i => .int .i64 (at0 ks i).1) ho hg; clear ho hg) | go_in)
    go_loopw [4] (fun i wr => ∃ k : Nat, k ≤ n ∧ i = .int .i64 k ∧ Done w wr 3 n k (fun i => .int .i64 (at0 ks i).1)) (fun i _ => n - (intOf i).toNat)
    case atStart => exact ⟨0, Nat.zero_le _, rfl, D⟩
    case round =>
      clear D
      obtain ⟨k, hk, rfl, D⟩ := hrel
      by_cases hlt : k < n
      · obtain ⟨b, off, ha, hb, hc⟩ := H.out (by omega)
        simp only [Option.some.injEq] at ha
        subst ha
        have hcx := (D.2.cell (p := ⟨b, off + k, none⟩) hb).trans (hc k hlt)
        obtain ⟨v, hv⟩ := D.old hlt
        have hf := D.frozen k
        have D' := hid (D.next hlt)
        generalize (at0 ks k).1 = z at hcx D'
        clear hc D
        go_wp2
        go_roundw
        case rel => exact ⟨k + 1, by omega, by go_num, D'.out⟩
        case measure => simp [intOf]; omega
      · obtain rfl : k = n := by omega
        have F := hid D.full
        clear D
        go_wp2
        go_ret
        exact ⟨_, rfl, fun _ => ⟨_, _, rfl, F.out.2.1, F.out.1⟩, F.out.2.2⟩

theorem cloneT (a : Option Addr) (n c : Nat) (ks : List Key) (w : World) (hn : n ≤ 4096) (h : Tr w a n ks) (hnil : a = none → n = 0) :
    Calls Try.prog 8 #[.slice a n c] w fun e w' => ∃ a', e = .returned (.slice a' n n) ∧ Tr w' a' n ks ∧ Below w.heap.size w w' := by
  have q := fun (w : World) (a : Option Addr) (n c n' c' : Nat) => Lib.run_eql_slice_nil (P := Try.prog) w 23 9 a n c n' c' Try.underlying23
  obtain ⟨i0, hi, hz0, hz1, hz2⟩ := info_parts info9
  cases a with
  | none =>
    obtain rfl := hnil rfl
    clear h
    go_enter Try.func8, Try.ntmps8
    go_wp2
    go_ret
    exact ⟨none, rfl, fun h => absurd h (by omega), Below.refl _ _⟩
  | some x =>
    have H := hid h
    clear h hnil
    go_enter Try.func8, Try.ntmps8
    go_wp2_with (first | (at_make; refine wpList_make_full _ rfl _ _ 23 rfl w.heap.size 9 i0 (.string ByteArray.empty) 1 Try.underlying23 hi hz0 hz1 _ _ _ _ n rfl rfl rfl rfl (by rw [hz2]; omega) (by unfold maxLen; omega) (Nat.le_refl _) ?_; intro w1 ho hg; have D := Done.zero (f := fun i => .string (bs (at0 ks i).2)) ho hg; clear ho hg) | go_in)
    go_loopw [4] (fun i wr => ∃ k : Nat, k ≤ n ∧ i = .int .i64 k ∧ Done w wr 9 n k (fun i => .string (bs (at0 ks i).2))) (fun i _ => n - (intOf i).toNat)
    case atStart => exact ⟨0, Nat.zero_le _, rfl, D⟩
    case round =>
      clear D
      obtain ⟨k, hk, rfl, D⟩ := hrel
      by_cases hlt : k < n
      · obtain ⟨b, off, ha, hb, hc⟩ := H.out (by omega)
        simp only [Option.some.injEq] at ha
        subst ha
        have hcx := (D.2.cell (p := ⟨b, off + k, none⟩) hb).trans (hc k hlt)
        obtain ⟨v, hv⟩ := D.old hlt
        have hf := D.frozen k
        have D' := hid (D.next hlt)
        generalize bs (at0 ks k).2 = z at hcx D'
        clear hc D
        go_wp2
        go_roundw
        case rel => exact ⟨k + 1, by omega, by go_num, D'.out⟩
        case measure => simp [intOf]; omega
      · obtain rfl : k = n := by omega
        have F := hid D.full
        clear D
        go_wp2
        go_ret
        exact ⟨_, rfl, fun _ => ⟨_, _, rfl, F.out.2.1, F.out.1⟩, F.out.2.2⟩

/-! ### slices of ints: zzEqualInts -/
def Nums (w : World) (a : Option Addr) (n : Nat) (zs : List Int) : Prop :=
  zs.length = n ∧ (0 < n → ∃ b off, a = some ⟨b, off, none⟩ ∧ b < w.heap.size ∧ ∀ i, i < n → w.cell? ⟨b, off + i, none⟩ = some (.int .i64 (zs.getD i 0)))

theorem Nums.below {w w' : World} {a : Option Addr} {n : Nat} {zs : List Int} (h : Nums w a n zs) (hb : Below w.heap.size w w') : Nums w' a n zs := by
  refine ⟨h.1, fun h0 => ?_⟩
  obtain ⟨b, off, ha, hlt, hc⟩ := h.2 h0
  exact ⟨b, off, ha, Nat.lt_of_lt_of_le hlt hb.size, fun i hi => (hb.cell (p := ⟨b, off + i, none⟩) hlt).trans (hc i hi)⟩

theorem equal_yes (a0 a1 : Option Addr) (n c0 c1 : Nat) (zs : List Int) (w : World) (hn : n ≤ 65536) (h0 : Nums w a0 n zs) (h1 : Nums w a1 n zs) :
    Calls Try.prog 16 #[.slice a0 n c0, .slice a1 n c1] w fun e w' => e = .returned (.bool true) ∧ ∃ q, w' = w.drewN q := by
  have H0 := hid h0
  have H1 := hid h1
  clear h0 h1
  go_enter Try.func16, Try.ntmps16
  go_wp2
  go_loopw [4, 5] (fun r i wr => ∃ k q : Nat, k ≤ n ∧ i = .int .i64 k ∧ wr = w.drewN q) (fun _ i _ => n - (intOf i).toNat)
  case atStart => exact ⟨0, 0, Nat.zero_le _, rfl, rfl⟩
  case round =>
    obtain ⟨k, q, hk, rfl, rfl⟩ := hrel
    by_cases hlt : k < n
    · obtain ⟨b0, o0, e0, hb0, hc0⟩ := H0.out.2 (by omega)
      obtain ⟨b1, o1, e1, hb1, hc1⟩ := H1.out.2 (by omega)
      subst e0 e1
      have k0 := hc0 k hlt
      have k1 := hc1 k hlt
      clear hc0 hc1
      generalize zs.getD k 0 = z at k0 k1
      have hlt' : (k : Int) < (n : Int) := by omega
      go_wp2
      go_quiet (fail)
      go_wp2
      go_roundw
      case rel => exact ⟨k + 1, _, by omega, by go_num, rfl⟩
      case measure => simp [intOf]; omega
    · go_wp2
      go_ret
      exact ⟨rfl, q, rfl⟩

/-! ### a slice of ints of the call's own -/
def Own (w wr : World) (v : Value) (xs : List Int) : Prop :=
  wr.ownsRow w.heap.size 3 1 v xs.length (xs.map (Value.int .i64)) ∧ Below w.heap.size w wr

theorem Own.snoc {w wr w1 : World} {v v' : Value} {xs : List Int} {z : Int} {o : Obj} (h : Own w wr v xs) (ho : w1.ownsRow w.heap.size 3 1 v' (xs.length + 1) (xs.map (Value.int .i64) ++ [.int .i64 z])) (hg : (wr.alloc o).grownBy w1 v.ownBlock) : Own w w1 v' (xs ++ [z]) := by
  refine ⟨by simpa using ho, (h.2.alloc h.2.size o).grown hg (by have := h.2.size; simp; omega) (fun k hk => (h.1.lt k hk).1)⟩

theorem row_nums {w : World} {B : Nat} {v : Value} {xs : List Int} (h : w.ownsRow B 3 1 v xs.length (xs.map (Value.int .i64))) : ∃ a c, v = .slice a xs.length c ∧ Nums w a xs.length xs := by
  rcases h.2 with ⟨h', h0⟩ | ⟨g', cap', cur, h', _, hg, _⟩
  · exact ⟨none, 0, by rw [h', h0], rfl, fun hp => absurd hp (by omega)⟩
  · refine ⟨_, _, h', rfl, fun hp => ⟨g', 0, rfl, (Array.getElem?_eq_some_iff.1 hg).1, fun i hi => ?_⟩⟩
    have ho := h
    rw [h'] at ho
    rw [Nat.zero_add, ho.cellAt i (by omega)]
    simp [List.getElem?_map, List.getElem?_eq_getElem hi, List.getD]

theorem Own.app3 {w wr : World} {v : Value} {xs : List Int} (h : Own w wr v xs) (o : Obj) : w.heap.size ≤ (wr.alloc o).heap.size := by
  have := h.2.size
  simp; omega

end Go.Proofs.Qxb6605490a.Pat
