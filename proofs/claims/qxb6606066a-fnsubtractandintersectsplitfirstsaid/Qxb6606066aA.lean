import Derived.Test.Qxb6606066aRows
import Derived.Test.Qxb6606066aPlain
import Derived.WalkKit
import Derived.ProofKit
import Derived.Below
import Derived.OpenShut
import Derived.WalkSpells
import Derived.WalkLawsBesides
import Derived.Deep.QuietTactic
import Derived.BigQuiet
namespace Go.Proofs.Qxb6606066a.Wk
open Go.ChangeShapes Go.WideShapes Go.ChangeAt Go.RowKit
open Pl (Asc AscTo mem Behind)
set_option linter.unusedVariables false

theorem info28 : (Try.prog.info? 28).map (fun i => (i.zero, i.size, i.bytes)) = some (some (.int .u64 0), 1, 8) := by kernel_rfl

/-- THE SLICE's n ELEMENTS ARE THE NUMBERS zs (where n is 0 nothing is said of the address). -/
def Nums (w : World) (a : Option Addr) (n : Nat) (zs : List Int) : Prop :=
  zs.length = n ∧ (0 < n → ∃ b off, a = some ⟨b, off, none⟩ ∧ b < w.heap.size ∧ ∀ i, i < n → w.cell? ⟨b, off + i, none⟩ = some (.int .u64 (zs.getD i 0)))

theorem Nums.below {w w' : World} {a : Option Addr} {n : Nat} {zs : List Int} (h : Nums w a n zs) (hb : Below w.heap.size w w') : Nums w' a n zs := by
  refine ⟨h.1, fun h0 => ?_⟩
  obtain ⟨b, off, ha, hlt, hc⟩ := h.2 h0
  exact ⟨b, off, ha, Nat.lt_of_lt_of_le hlt hb.size, fun i hi => (hb.cell (p := ⟨b, off + i, none⟩) hlt).trans (hc i hi)⟩

theorem Nums.drewN {w : World} {a : Option Addr} {n : Nat} {zs : List Int} (h : Nums w a n zs) (q : Nat) : Nums (w.drewN q) a n zs := h

/-! ### the bounds on lengths -/
theorem bytes7 (a0 a1 : Option Addr) (n0 n1 c0 c1 : Nat) (w : World) (h0 : n0 ≤ 65536) (h1 : n1 ≤ 65536) :
    Calls Try.prog 7 #[.slice a0 n0 c0, .slice a1 n1 c1] w fun e w' => e = .returned (.bool true) ∧ w' = w := by
  go_enter Try.func7, Try.ntmps7
  go_wp2
  go_ret
  exact ⟨rfl, rfl⟩
theorem bytes14 (a0 a1 : Option Addr) (n0 n1 c0 c1 : Nat) (w : World) (h0 : n0 ≤ 65536) (h1 : n1 ≤ 65536) :
    Calls Try.prog 14 #[.slice a0 n0 c0, .slice a1 n1 c1] w fun e w' => e = .returned (.bool true) ∧ w' = w := by
  go_enter Try.func14, Try.ntmps14
  go_wp2
  go_ret
  exact ⟨rfl, rfl⟩
theorem bytes16 (a0 a1 : Option Addr) (n0 n1 c0 c1 : Nat) (w : World) (h0 : n0 ≤ 65536) (h1 : n1 ≤ 65536) :
    Calls Try.prog 16 #[.slice a0 n0 c0, .slice a1 n1 c1] w fun e w' => e = .returned (.bool true) ∧ w' = w := by
  go_enter Try.func16, Try.ntmps16
  go_wp2
  go_ret
  exact ⟨rfl, rfl⟩

/-- It returns a bool. -/
def SomeBool (e : Ending) : Prop := ∃ b, e = .returned (.bool b)
theorem someBool (b : Bool) : SomeBool (.returned (.bool b)) := ⟨b, rfl⟩

theorem some7 (a0 a1 : Option Addr) (n0 n1 c0 c1 : Nat) (w : World) (h0 : n0 ≤ maxLen) (h1 : n1 ≤ maxLen) :
    Calls Try.prog 7 #[.slice a0 n0 c0, .slice a1 n1 c1] w fun e w' => SomeBool e ∧ w' = w := by
  unfold maxLen at h0 h1
  go_enter Try.func7, Try.ntmps7
  go_wp2
  all_goals (go_ret; exact ⟨someBool _, rfl⟩)
theorem some14 (a0 a1 : Option Addr) (n0 n1 c0 c1 : Nat) (w : World) (h0 : n0 ≤ maxLen) (h1 : n1 ≤ maxLen) :
    Calls Try.prog 14 #[.slice a0 n0 c0, .slice a1 n1 c1] w fun e w' => SomeBool e ∧ w' = w := by
  unfold maxLen at h0 h1
  go_enter Try.func14, Try.ntmps14
  go_wp2
  all_goals (go_ret; exact ⟨someBool _, rfl⟩)
theorem some16 (a0 a1 : Option Addr) (n0 n1 c0 c1 : Nat) (w : World) (h0 : n0 ≤ maxLen) (h1 : n1 ≤ maxLen) :
    Calls Try.prog 16 #[.slice a0 n0 c0, .slice a1 n1 c1] w fun e w' => SomeBool e ∧ w' = w := by
  unfold maxLen at h0 h1
  go_enter Try.func16, Try.ntmps16
  go_wp2
  all_goals (go_ret; exact ⟨someBool _, rfl⟩)

/-! ### zzAscending -/
def AscOr (e : Ending) (zs : List Int) : Prop := ∃ b, e = .returned (.bool b) ∧ (b = true → Asc zs)

theorem asc_any (a : Option Addr) (n c : Nat) (zs : List Int) (w : World) (hn : n ≤ 65536) (h : Nums w a n zs) :
    Calls Try.prog 8 #[.slice a n c] w fun e w' => AscOr e zs ∧ ∃ q, w' = w.drewN q := by
  have H : Hid (Nums w a n zs) := h
  clear h
  go_enter Try.func8, Try.ntmps8
  go_wp2
  go_loopw [2, 3] (fun r i wr => ∃ k q : Nat, 1 ≤ k ∧ k ≤ 65537 ∧ i = .int .i64 k ∧ wr = w.drewN q ∧ AscTo zs k) (fun _ i _ => n - (intOf i).toNat)
  case atStart => exact ⟨1, 0, by omega, by omega, rfl, rfl, fun i hi => absurd hi (by omega)⟩
  case round =>
    obtain ⟨k, q, hk1, hk, rfl, rfl, hA⟩ := hrel
    have HA : Hid (AscTo zs k) := hA
    clear hA
    by_cases hlt : k < n
    · obtain ⟨b, off, ha, hb, hc⟩ := H.out.2 (by omega)
      subst ha
      have e1 : ((k : Int) - 1).toNat = k - 1 := by omega
      have c0 := hc (k - 1) (by omega)
      have c1 := hc k hlt
      have HC0 : Hid (∀ x y, zs.getD (k - 1) 0 = x → zs.getD k 0 = y → x < y → AscTo zs (k + 1)) := fun x y h1 h2 h3 i hi => by
        by_cases e : i + 1 = k
        · subst e; rw [Nat.add_sub_cancel] at h1; rw [h1, h2]; exact h3
        · exact HA.out i (by omega)
      clear hc
      generalize hx : zs.getD (k - 1) 0 = x at c0
      generalize hy : zs.getD k 0 = y at c1
      have HX : Hid (x < y → AscTo zs (k + 1)) := HC0.out x y hx hy
      clear HC0 hx hy
      have hlt' : (k : Int) < (n : Int) := by omega
      go_wp2
      go_quiet (fail)
      go_wp2
      · go_ret
        exact ⟨⟨false, rfl, fun h => by cases h⟩, _, World.drewN_drewN _ _ _⟩
      · have hxy : x < y := by assumption
        go_roundw
        case rel => exact ⟨k + 1, _, by omega, by omega, by go_num, rfl, HX.out hxy⟩
        case measure => simp [intOf]; omega
    · go_wp2
      go_ret
      exact ⟨⟨true, rfl, fun _ => Pl.asc_of_to (fun i hi => HA.out i (by have := H.out.1; omega))⟩, q, rfl⟩

/-! ### zzClone -/
/-- WHAT THE CLONE's LOOP HOLDS behind k rounds. -/
def Done (w wr : World) (n k : Nat) (zs : List Int) : Prop :=
  (∃ xs, wr.ownsRow w.heap.size 28 1 (.slice (some ⟨w.heap.size, 0, none⟩) n n) n xs ∧ ∀ j, j < k → xs[j]? = some (.int .u64 (zs.getD j 0))) ∧ Below w.heap.size w wr

theorem Done.zero {w wr : World} {n : Nat} {zs : List Int} {xs : List Value} (h : wr.ownsRow w.heap.size 28 1 (.slice (some ⟨w.heap.size, 0, none⟩) n n) n xs) (hg : w.grownBy wr none) : Done w wr n 0 zs :=
  ⟨⟨xs, h, fun j hj => absurd hj (by omega)⟩, (Below.refl _ _).grown hg (Nat.le_refl _) (by simp)⟩

theorem Done.next {w wr : World} {n k : Nat} {zs : List Int} (h : Done w wr n k zs) (hk : k < n) : Done w (wr.setCell ⟨w.heap.size, k, none⟩ (.int .u64 (zs.getD k 0))) n (k + 1) zs := by
  obtain ⟨⟨xs, ho, hx⟩, hb⟩ := h
  refine ⟨⟨_, (ho.stored k _).1, fun j hj => ?_⟩, hb.setCell (Nat.le_refl _) _⟩
  have hl := ho.1
  by_cases e : j = k
  · subst e; rw [List.getElem?_set_self (by omega)]
  · rw [List.getElem?_set_ne (by omega)]; exact hx j (by omega)

theorem Done.frozen {w wr : World} {n k : Nat} {zs : List Int} (h : Done w wr n k zs) (j : Nat) : wr.frozen? ⟨w.heap.size, j, none⟩ = false := by
  obtain ⟨⟨xs, ho, hx⟩, hb⟩ := h
  exact ho.frozenAt j

theorem Done.old {w wr : World} {n k : Nat} {zs : List Int} (h : Done w wr n k zs) (hk : k < n) : ∃ v, wr.cell? ⟨w.heap.size, k, none⟩ = some v := by
  obtain ⟨⟨xs, ho, hx⟩, hb⟩ := h
  have hl := ho.1
  exact ⟨xs[k]'(by omega), by rw [ho.cellAt k (by omega), List.getElem?_eq_getElem]⟩

theorem row_lt {w : World} {B : Nat} {t : TypeId} {s n g c : Nat} {xs : List Value} (ho : w.ownsRow B t s (.slice (some ⟨g, 0, none⟩) n c) n xs) : g < w.heap.size := by
  rcases ho.2 with ⟨h', _⟩ | ⟨g', cap', cur, h', _, hg, _⟩
  · simp at h'
  · simp only [Value.slice.injEq, Option.some.injEq, Addr.mk.injEq, and_true, true_and] at h'
    obtain ⟨rfl, rfl⟩ := h'
    obtain ⟨h1, _⟩ := Array.getElem?_eq_some_iff.1 hg
    exact h1

theorem Done.full {w wr : World} {n : Nat} {zs : List Int} (h : Done w wr n n zs) (hl : zs.length = n) : Nums wr (some ⟨w.heap.size, 0, none⟩) n zs ∧ Below w.heap.size w wr := by
  obtain ⟨⟨xs, ho, hx⟩, hb⟩ := h
  refine ⟨⟨hl, fun h0 => ⟨w.heap.size, 0, rfl, row_lt ho, fun i hi => ?_⟩⟩, hb⟩
  rw [Nat.zero_add, ho.cellAt i (by omega)]; exact hx i hi

theorem clone_any (a : Option Addr) (n c : Nat) (zs : List Int) (w : World) (hn : n ≤ 65536) (h : Nums w a n zs) (hnil : a = none → n = 0) :
    Calls Try.prog 9 #[.slice a n c] w fun e w' => ∃ a', e = .returned (.slice a' n n) ∧ Nums w' a' n zs ∧ Below w.heap.size w w' := by
  have q := fun (w : World) (a : Option Addr) (n c n' c' : Nat) => Lib.run_eql_slice_nil (P := Try.prog) w 22 28 a n c n' c' Try.underlying22
  obtain ⟨i0, hi, hz0, hz1, hz2⟩ := info_parts info28
  cases a with
  | none =>
    obtain rfl := hnil rfl
    have H : Hid (Nums w none 0 zs) := h
    clear h
    go_enter Try.func9, Try.ntmps9
    go_wp2
    go_ret
    exact ⟨none, rfl, H.out, Below.refl _ _⟩
  | some x =>
    have H : Hid (Nums w (some x) n zs) := h
    clear h hnil
    go_enter Try.func9, Try.ntmps9
    go_wp2_with (first | (at_make; refine wpList_make_full _ rfl _ _ 22 rfl w.heap.size 28 i0 (.int .u64 0) 1 Try.underlying22 hi hz0 hz1 _ _ _ _ n rfl rfl rfl rfl (by rw [hz2]; omega) (by unfold maxLen; omega) (Nat.le_refl _) ?_; intro w1 ho hg; have D := Done.zero (zs := zs) ho hg; clear ho hg) | go_in)
    go_loopw [4] (fun i wr => ∃ k : Nat, k ≤ n ∧ i = .int .i64 k ∧ Done w wr n k zs) (fun i _ => n - (intOf i).toNat)
    case atStart => exact ⟨0, Nat.zero_le _, rfl, D⟩
    case round =>
      clear D
      obtain ⟨k, hk, rfl, D⟩ := hrel
      by_cases hlt : k < n
      · obtain ⟨b, off, ha, hb, hc⟩ := H.out.2 (by omega)
        simp only [Option.some.injEq] at ha
        subst ha
        have hcx : wr.cell? ⟨b, off + k, none⟩ = some (.int .u64 (zs.getD k 0)) := (D.2.cell (by exact hb)).trans (hc k hlt)
        obtain ⟨v, hv⟩ := D.old hlt
        have hf := D.frozen k
        have D' : Hid (Done w (wr.setCell ⟨w.heap.size, k, none⟩ (.int .u64 (zs.getD k 0))) n (k + 1) zs) := D.next hlt
        generalize zs.getD k 0 = z at hcx D'
        clear hc D
        go_wp2
        go_roundw
        case rel => exact ⟨k + 1, by omega, by go_num, D'.out⟩
        case measure => simp [intOf]; omega
      · obtain rfl : k = n := by omega
        have F : Hid (Nums wr (some ⟨w.heap.size, 0, none⟩) k zs ∧ Below w.heap.size w wr) := D.full H.out.1
        clear D
        go_wp2
        go_ret
        exact ⟨_, rfl, F.out⟩

/-! ### zzSame: at two slices of the same numbers -/
theorem same_yes (a0 a1 : Option Addr) (n c0 c1 : Nat) (zs : List Int) (w : World) (hn : n ≤ 65536) (h0 : Nums w a0 n zs) (h1 : Nums w a1 n zs) :
    Calls Try.prog 11 #[.slice a0 n c0, .slice a1 n c1] w fun e w' => e = .returned (.bool true) ∧ ∃ q, w' = w.drewN q := by
  have H0 : Hid (Nums w a0 n zs) := h0
  have H1 : Hid (Nums w a1 n zs) := h1
  clear h0 h1
  go_enter Try.func11, Try.ntmps11
  go_wp2
  go_loopw [4, 5] (fun r i wr => ∃ k q : Nat, k ≤ n ∧ i = .int .i64 k ∧ wr = w.drewN q) (fun _ i _ => n - (intOf i).toNat)
  case atStart => exact ⟨0, 0, Nat.zero_le _, rfl, rfl⟩
  case round =>
    obtain ⟨k, q, hk, rfl, rfl⟩ := hrel
    by_cases hlt : k < n
    · obtain ⟨b0, o0, e0, hb0, hc0⟩ := H0.out.2 (by omega)
      obtain ⟨b1, o1, e1, hb1, hc1⟩ := H1.out.2 (by omega)
      subst e0 e1
      have k0 := hc0 k hlt
      have k1 := hc1 k hlt
      clear hc0 hc1
      generalize zs.getD k 0 = z at k0 k1
      have hlt' : (k : Int) < (n : Int) := by omega
      go_wp2
      go_quiet (fail)
      go_wp2
      go_roundw
      case rel => exact ⟨k + 1, _, by omega, by go_num, rfl⟩
      case measure => simp [intOf]; omega
    · go_wp2
      go_ret
      exact ⟨rfl, q, rfl⟩

/-! ### zzFind -/
def FindOr (e : Ending) (zs : List Int) (x : Int) : Prop := ∃ r : Int, e = .returned (.int .i64 r) ∧ decide (0 ≤ r) = mem zs x

theorem find_any (a : Option Addr) (n c : Nat) (zs : List Int) (x : Int) (w : World) (hn : n ≤ 65536) (h : Nums w a n zs) (hA : Asc zs) :
    Calls Try.prog 19 #[.slice a n c, .int .u64 x] w fun e w' => FindOr e zs x ∧ w' = w := by
  have H : Hid (Nums w a n zs) := h
  have HA : Hid (Asc zs) := hA
  clear h hA
  go_enter Try.func19, Try.ntmps19
  go_wp2
  go_loop [5, 6, 7] (fun lo hi _ => ∃ l u : Nat, l ≤ u ∧ u ≤ n ∧ lo = .int .i64 l ∧ hi = .int .i64 u ∧ (∀ m, m < l → zs.getD m 0 < x) ∧ (∀ m, u ≤ m → m < n → x ≤ zs.getD m 0)) (fun lo hi _ => (intOf hi - intOf lo).toNat)
  case atStart => exact ⟨0, n, by omega, by omega, rfl, rfl, fun m hm => absurd hm (by omega), fun m h1 h2 => by omega⟩
  case round =>
    obtain ⟨l, u, hlu, hun, rfl, rfl, h1, h2⟩ := hrel
    have H1 : Hid (∀ m, m < l → zs.getD m 0 < x) := h1
    have H2 : Hid (∀ m, u ≤ m → m < n → x ≤ zs.getD m 0) := h2
    clear h1 h2
    by_cases hlt : l < u
    · obtain ⟨b, off, ha, hb, hc⟩ := H.out.2 (by omega)
      subst ha
      have hcm := hc (l + (u - l) / 2) (by omega)
      have HX : Hid (zs.getD (l + (u - l) / 2) 0 < x → ∀ m, m < l + (u - l) / 2 + 1 → zs.getD m 0 < x) := fun h m hm => by
        have := Pl.asc_le HA.out (i := m) (l := l + (u - l) / 2) (by omega) (by rw [H.out.1]; omega)
        omega
      have HY : Hid (x ≤ zs.getD (l + (u - l) / 2) 0 → ∀ m, l + (u - l) / 2 ≤ m → m < n → x ≤ zs.getD m 0) := fun h m hm hmn => by
        have := Pl.asc_le HA.out (i := l + (u - l) / 2) (l := m) (by omega) (by rw [H.out.1]; omega)
        omega
      generalize zs.getD (l + (u - l) / 2) 0 = z at hcm HX HY
      clear hc
      go_wp2
      · have hz : z < x := by assumption
        go_round
        case rel => exact ⟨l + (u - l) / 2 + 1, u, by omega, by omega, by go_num, rfl, HX.out hz, H2.out⟩
        case measure => simp [intOf]; omega
      · have hz : x ≤ z := by assumption
        go_round
        case rel => exact ⟨l, l + (u - l) / 2, by omega, by omega, rfl, by go_num, H1.out, HY.out hz⟩
        case measure => simp [intOf]; omega
    · obtain rfl : l = u := by omega
      by_cases hln : l < n
      · obtain ⟨b, off, ha, hb, hc⟩ := H.out.2 (by omega)
        subst ha
        have hcm := hc l hln
        have HX : Hid (zs.getD l 0 = x → mem zs x = true) := fun e => Pl.mem_iff.2 ⟨l, by rw [H.out.1]; exact hln, e⟩
        have HY : Hid (zs.getD l 0 ≠ x → mem zs x = false) := fun hne => Pl.mem_false fun m hm e => by
          rw [H.out.1] at hm
          by_cases h1 : m < l
          · have := H1.out m h1; omega
          · by_cases h2 : m = l
            · subst h2; exact hne e
            · have := HA.out l m (by omega) (by rw [H.out.1]; exact hm)
              have := H2.out l (Nat.le_refl _) hln
              omega
        generalize zs.getD l 0 = z at hcm HX HY
        clear hc
        have hln' : (l : Int) < (n : Int) := by omega
        by_cases hz : z = x
        · have hz' : (z == x) = true := by simp [hz]
          have hm := HX.out hz
          have HM : Hid (mem zs x = true) := hm
          clear hz hm
          go_wp2
          go_ret
          exact ⟨⟨_, rfl, by rw [HM.out]; simp⟩, rfl⟩
        · have hz' : (z == x) = false := by simp [hz]
          have hm := HY.out hz
          have HM : Hid (mem zs x = false) := hm
          clear hz hm
          go_wp2
          go_ret
          exact ⟨⟨_, rfl, by rw [HM.out]; simp⟩, rfl⟩
      · have hln' : decide ((l : Int) < (n : Int)) = false := decide_eq_false (by omega)
        have HM : Hid (mem zs x = false) := Pl.mem_false fun m hm e => by
          rw [H.out.1] at hm
          have := H1.out m (by omega)
          omega
        go_wp2
        go_ret
        exact ⟨⟨_, rfl, by rw [HM.out]; simp⟩, rfl⟩

end Go.Proofs.Qxb6606066a.Wk
