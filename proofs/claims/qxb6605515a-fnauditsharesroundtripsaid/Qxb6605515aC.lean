import Derived.Test.Qxb6605515aB
import Derived.BigRegion
namespace Go.Proofs.Qxb6605515a.Sh
open Go.ChangeShapes Go.WideShapes Go.ChangeAt Go.RowKit
set_option linter.unusedVariables false

def Ints (w : World) (a : Option Addr) (n : Nat) (zs : List Int) : Prop :=
  0 < n → ∃ b off, a = some ⟨b, off, none⟩ ∧ b < w.heap.size ∧ ∀ i, i < n → w.cell? ⟨b, off + i, none⟩ = some (.int .i64 (zs.getD i 0))
def Bools (w : World) (a : Option Addr) (n : Nat) (bs : List Bool) : Prop :=
  0 < n → ∃ b off, a = some ⟨b, off, none⟩ ∧ b < w.heap.size ∧ ∀ i, i < n → w.cell? ⟨b, off + i, none⟩ = some (.bool (bs.getD i false))

/-- WHAT THE BUILDING LOOP HOLDS behind k rounds. -/
structure St (w wr : World) (t : TypeId) (n k B1 B2 : Nat) : Prop where
  lt1 : w.heap.size < B1
  lt2 : B1 < B2
  cells : ∃ cs, wr.ownsRow 0 9 1 (.slice (some ⟨w.heap.size, 0, none⟩) n n) n cs
  ptrs : ∃ ps, wr.ownsRow 0 33 1 (.slice (some ⟨B1, 0, none⟩) n n) n ps ∧ ∀ j, j < n → ∃ p, ps[j]? = some (.pointer p)
  out : ∃ xs, wr.ownsRow 0 t 3 (.slice (some ⟨B2, 0, none⟩) n n) n xs ∧ Triples xs k
  below : Below w.heap.size w wr

theorem row_lt {w : World} {B : Nat} {t : TypeId} {s n g c : Nat} {xs : List Value} (ho : w.ownsRow B t s (.slice (some ⟨g, 0, none⟩) n c) n xs) : g < w.heap.size := by
  rcases ho.2 with ⟨h', _⟩ | ⟨g', cap', cur, h', _, hg, _⟩
  · simp at h'
  · simp only [Value.slice.injEq, Option.some.injEq, Addr.mk.injEq, and_true, true_and] at h'
    obtain ⟨rfl, rfl⟩ := h'
    obtain ⟨h1, _⟩ := Array.getElem?_eq_some_iff.1 hg
    exact h1

theorem row_at {w : World} {B : Nat} {t : TypeId} {s n g c : Nat} {xs : List Value} (ho : w.ownsRow B t s (.slice (some ⟨g, 0, none⟩) n c) n xs) (j : Nat) (hj : j < n * s) : ∃ v, w.cell? ⟨g, j, none⟩ = some v := by
  have hl := ho.1
  exact ⟨xs[j]'(by omega), by rw [ho.cellAt j (by omega), List.getElem?_eq_getElem]⟩

/-- A store into another block leaves a row as it is. -/
theorem row_set {w : World} {B : Nat} {t : TypeId} {s n g c : Nat} {xs : List Value} (ho : w.ownsRow B t s (.slice (some ⟨g, 0, none⟩) n c) n xs) {p : Addr} (hp : g ≠ p.block) (u : Value) : (w.setCell p u).ownsRow B t s (.slice (some ⟨g, 0, none⟩) n c) n xs := by
  obtain ⟨h1, h2⟩ := ho
  refine ⟨h1, ?_⟩
  rcases h2 with h2 | ⟨g', cap, cur, hv, hg, hh, r⟩
  · exact .inl h2
  · have e : g' = g := by simp at hv; exact hv.1.symm
    subst e
    exact .inr ⟨g', cap, cur, hv, hg, by rw [Below.heap_setCell _ _ _ _ hp]; exact hh, r⟩

theorem row_kept {w w' : World} {B : Nat} {t : TypeId} {s n g c : Nat} {xs : List Value} (ho : w.ownsRow B t s (.slice (some ⟨g, 0, none⟩) n c) n xs) (hg : w.grownBy w' none) : w'.ownsRow B t s (.slice (some ⟨g, 0, none⟩) n c) n xs :=
  ho.kept hg (.inr (by simp [Value.ownBlock]))

theorem St.start {w w1 w2 w3 : World} {t : TypeId} {n : Nat} {cs xs : List Value}
    (h1 : w1.ownsRow w.heap.size 9 1 (.slice (some ⟨w.heap.size, 0, none⟩) n n) n cs) (g1 : w.grownBy w1 none)
    (h2 : w2.ownsRow w.heap.size 33 1 (.slice (some ⟨w1.heap.size, 0, none⟩) n n) n (madeCells (Value.pointer none).cells (n * 1)).toList) (g2 : w1.grownBy w2 none)
    (h3 : w3.ownsRow w.heap.size t 3 (.slice (some ⟨w2.heap.size, 0, none⟩) n n) n xs) (g3 : w2.grownBy w3 none) : St w w3 t n 0 w1.heap.size w2.heap.size where
  lt1 := row_lt h1
  lt2 := row_lt h2
  cells := ⟨cs, ownsRow_low (row_kept (row_kept h1 g2) g3) (Nat.zero_le _)⟩
  ptrs := by
    refine ⟨_, ownsRow_low (row_kept h2 g3) (Nat.zero_le _), fun j hj => ⟨none, ?_⟩⟩
    rw [show (Value.pointer none).cells = #[Value.pointer none] from rfl, toList_madeCells_one]
    simp [hj]
  out := ⟨xs, ownsRow_low h3 (Nat.zero_le _), fun j hj => absurd hj (by omega)⟩
  below := (((Below.refl _ _).grown g1 (Nat.le_refl _) (by simp)).grown g2 g1.size (by simp)).grown g3 (Nat.le_trans g1.size g2.size) (by simp)

theorem St.drew {w wr : World} {t : TypeId} {n k B1 B2 : Nat} (h : St w wr t n k B1 B2) : St w wr.drew t n k B1 B2 :=
  ⟨h.lt1, h.lt2, h.cells, h.ptrs, h.out, h.below.drew⟩

theorem St.set0 {w wr : World} {t : TypeId} {n k B1 B2 : Nat} (h : St w wr t n k B1 B2) (j : Nat) (u : Value) : St w (wr.setCell ⟨w.heap.size, j, none⟩ u) t n k B1 B2 := by
  obtain ⟨l1, l2, ⟨cs, hc⟩, ⟨ps, hp, hpp⟩, ⟨xs, hx, hxt⟩, hb⟩ := h
  exact ⟨l1, l2, ⟨_, (hc.stored j u).1⟩, ⟨ps, row_set hp (by simp; omega) u, hpp⟩, ⟨xs, row_set hx (by simp; omega) u, hxt⟩, hb.setCell (Nat.le_refl _) u⟩

theorem St.set1 {w wr : World} {t : TypeId} {n k B1 B2 : Nat} (h : St w wr t n k B1 B2) (j : Nat) (hj : j < n) (p : Option Addr) : St w (wr.setCell ⟨B1, j, none⟩ (.pointer p)) t n k B1 B2 := by
  obtain ⟨l1, l2, ⟨cs, hc⟩, ⟨ps, hp, hpp⟩, ⟨xs, hx, hxt⟩, hb⟩ := h
  refine ⟨l1, l2, ⟨_, row_set hc (by simp; omega) _⟩, ⟨_, (hp.stored j _).1, fun i hi => ?_⟩, ⟨xs, row_set hx (by simp; omega) _, hxt⟩, hb.setCell (by simp; omega) _⟩
  have hl := hp.1
  by_cases e : i = j
  · subst e; exact ⟨p, List.getElem?_set_self (by omega)⟩
  · rw [List.getElem?_set_ne (by omega)]; exact hpp i hi

theorem St.set2 {w wr : World} {t : TypeId} {n k B1 B2 : Nat} (h : St w wr t n k B1 B2) (hk : k < n) (s : ByteArray) (i : Int) (p : Option Addr) :
    St w (((wr.setCell ⟨B2, k * 3, none⟩ (.string s)).setCell ⟨B2, k * 3 + 1, none⟩ (.int .i64 i)).setCell ⟨B2, k * 3 + 2, none⟩ (.pointer p)) t n (k + 1) B1 B2 := by
  obtain ⟨l1, l2, ⟨cs, hc⟩, ⟨ps, hp, hpp⟩, ⟨xs, hx, hxt⟩, hb⟩ := h
  have hl := hx.1
  refine ⟨l1, l2, ⟨_, row_set (row_set (row_set hc (by simp; omega) _) (by simp; omega) _) (by simp; omega) _⟩, ⟨_, row_set (row_set (row_set hp (by simp; omega) _) (by simp; omega) _) (by simp; omega) _, hpp⟩,
    ⟨_, (((hx.stored _ _).1.stored _ _).1.stored _ _).1, fun j hj => ?_⟩, ((hb.setCell (by simp; omega) _).setCell (by simp; omega) _).setCell (by simp; omega) _⟩
  by_cases e : j = k
  · subst e
    refine ⟨s, i, p, ?_, ?_, ?_⟩
    · rw [List.getElem?_set_ne (by omega), List.getElem?_set_ne (by omega), List.getElem?_set_self (by omega)]
    · rw [List.getElem?_set_ne (by omega), List.getElem?_set_self (by simp; omega)]
    · rw [List.getElem?_set_self (by simp; omega)]
  · obtain ⟨s', i', p', h1, h2, h3⟩ := hxt j (by omega)
    refine ⟨s', i', p', ?_, ?_, ?_⟩
    · rw [List.getElem?_set_ne (by omega), List.getElem?_set_ne (by omega), List.getElem?_set_ne (by omega)]; exact h1
    · rw [List.getElem?_set_ne (by omega), List.getElem?_set_ne (by omega), List.getElem?_set_ne (by omega)]; exact h2
    · rw [List.getElem?_set_ne (by omega), List.getElem?_set_ne (by omega), List.getElem?_set_ne (by omega)]; exact h3

/-- zzShares, the ids not nil. -/
theorem shares_some (x : Addr) (a1 a2 a3 : Option Addr) (n c0 c1 c2 c3 : Nat) (ss ls : List ByteArray) (zs : List Int) (bs : List Bool) (w : World) (hn : n ≤ 65536)
    (hs : Strs w (some x) n ss) (hz : Ints w a1 n zs) (hb : Bools w a2 n bs) (hl : Strs w a3 n ls) :
    Calls Try.prog 7 #[.slice (some x) n c0, .slice a1 n c1, .slice a2 n c2, .slice a3 n c3] w fun e w' => ∃ b v xs, e = .returned (.tuple #[.slice (some ⟨b, 0, none⟩) n n, v]) ∧ w'.ownsRow 0 35 3 (.slice (some ⟨b, 0, none⟩) n n) n xs ∧ Triples xs n ∧ Below w.heap.size w w' := by
  have HS : Hid (Strs w (some x) n ss) := hs
  have HZ : Hid (Ints w a1 n zs) := hz
  have HB : Hid (Bools w a2 n bs) := hb
  have HL : Hid (Strs w a3 n ls) := hl
  clear hs hz hb hl
  have q := fun (w : World) (a : Option Addr) (n c n' c' : Nat) => Lib.run_eql_slice_nil (P := Try.prog) w 22 9 a n c n' c' Try.underlying22
  obtain ⟨i1, hi1, hz10, hz11, hz12⟩ := info_parts info9
  obtain ⟨i2, hi2, hz20, hz21, hz22⟩ := info_parts info33
  obtain ⟨i3, hi3, hz30, hz31, hz32⟩ := info_parts info35
  go_enter Try.func7, Try.ntmps7
  go_wp2_with (first | (at_make; refine wpList_make_full _ rfl (.tmp 19) (.tmp 19) 22 rfl w.heap.size 9 i1 (.string ByteArray.empty) 1 Try.underlying22 hi1 hz10 hz11 _ _ _ _ n rfl rfl rfl rfl (by rw [hz12]; omega) (by unfold maxLen; omega) (Nat.le_refl _) ?_; intro w1 ho1 hg1; have hs1 := hg1.size) | (at_make; refine wpList_make_full _ rfl (.tmp 21) (.tmp 21) 27 rfl w.heap.size 33 i2 (.pointer none) 1 Try.underlying27 hi2 hz20 hz21 _ _ _ _ n rfl rfl rfl rfl (by rw [hz22]; omega) (by unfold maxLen; omega) (by omega) ?_; intro w2 ho2 hg2; have hs2 := hg2.size) | (at_make; refine wpList_make_full _ rfl (.tmp 23) (.tmp 23) 26 rfl w.heap.size 35 i3 (.agg #[.string ByteArray.empty, .int .i64 0, .pointer none]) 3 Try.underlying26 hi3 hz30 hz31 _ _ _ _ n rfl rfl rfl rfl (by rw [hz32]; omega) (by unfold maxLen; omega) (by omega) ?_; intro w3 ho3 hg3; have S := St.start ho1 hg1 ho2 hg2 ho3 hg3; clear ho1 hg1 ho2 hg2 ho3 hg3 hs1 hs2) | go_in)
  generalize w1.heap.size = B1 at S ⊢
  generalize w2.heap.size = B2 at S ⊢
  go_loopw [14] (fun i wr => ∃ k : Nat, k ≤ n ∧ i = .int .i64 k ∧ St w wr 35 n k B1 B2) (fun i _ => n - (intOf i).toNat)
  case atStart => exact ⟨0, Nat.zero_le _, rfl, S⟩
  case round =>
    clear S
    obtain ⟨k, hk, rfl, S⟩ := hrel
    have S0 : Hid (St w wr 35 n k B1 B2) := S
    have l1 := S.lt1
    have l2 := S.lt2
    by_cases hlt : k < n
    · have hlt' : (k : Int) < (n : Int) := by omega
      obtain ⟨b0, o0, e0, hb0, hc0⟩ := HS.out (by omega)
      obtain ⟨b1, o1, e1, hb1, hc1⟩ := HZ.out (by omega)
      obtain ⟨b2, o2, e2, hb2, hc2⟩ := HB.out (by omega)
      obtain ⟨b3, o3, e3, hb3, hc3⟩ := HL.out (by omega)
      simp only [Option.some.injEq] at e0
      subst e0 e1 e2 e3
      have k0 := (S.below.cell (p := ⟨b0, o0 + k, none⟩) hb0).trans (hc0 k hlt)
      have k1 := (S.below.cell (p := ⟨b1, o1 + k, none⟩) hb1).trans (hc1 k hlt)
      have k2 := (S.below.cell (p := ⟨b2, o2 + k, none⟩) hb2).trans (hc2 k hlt)
      have k3 := (S.below.cell (p := ⟨b3, o3 + k, none⟩) hb3).trans (hc3 k hlt)
      obtain ⟨cs, hcs⟩ := S.cells
      obtain ⟨ps, hps, hpp⟩ := S.ptrs
      obtain ⟨xs, hxs, hxt⟩ := S.out
      have lB2 := row_lt hxs
      obtain ⟨vc, hvc⟩ := row_at hcs k (by omega)
      obtain ⟨pk, hpk0⟩ := hpp k hlt
      have hpk : wr.cell? ⟨B1, k, none⟩ = some (.pointer pk) := (hps.cellAt k (by omega)).trans hpk0
      obtain ⟨v0, r0⟩ := row_at hxs (k * 3) (by omega)
      obtain ⟨v1, r1⟩ := row_at hxs (k * 3 + 1) (by omega)
      obtain ⟨v2, r2⟩ := row_at hxs (k * 3 + 2) (by omega)
      have f0 := hcs.frozenAt k
      have f1 := hps.frozenAt k
      have f20 := hxs.frozenAt (k * 3)
      have f21 := hxs.frozenAt (k * 3 + 1)
      have f22 := hxs.frozenAt (k * 3 + 2)
      clear S hc0 hc1 hc2 hc3 hcs hps hpp hxs hxt hpk0
      generalize ss.getD k ByteArray.empty = sk at k0
      generalize zs.getD k 0 = zk at k1
      generalize ls.getD k ByteArray.empty = lk at k3
      generalize bs.getD k false = bk at k2
      cases bk
      · go_wp2
        go_region
        go_wp2
        go_roundw
        case rel => exact ⟨k + 1, by omega, by go_num, ((S0.out.set0 _ _).set2 hlt _ _ _).drew⟩
        case measure => simp [intOf]; omega
      · go_wp2
        go_region
        go_wp2
        go_roundw
        case rel => exact ⟨k + 1, by omega, by go_num, (((S0.out.set0 _ _).set1 _ hlt _).set2 hlt _ _ _).drew⟩
        case measure => simp [intOf]; omega
    · obtain rfl : k = n := by omega
      obtain ⟨xs, hx, hxt⟩ := S0.out.out
      have F : Hid (wr.ownsRow 0 35 3 (.slice (some ⟨B2, 0, none⟩) k k) k xs ∧ Triples xs k ∧ Below w.heap.size w wr) := ⟨hx, hxt, S0.out.below⟩
      clear hx hxt S
      go_wp2
      go_ret2
      exact ⟨_, _, xs, rfl, F.out⟩

theorem shares_nil (a1 a2 a3 : Option Addr) (n c0 c1 c2 c3 : Nat) (w : World) :
    Calls Try.prog 7 #[.slice none n c0, .slice a1 n c1, .slice a2 n c2, .slice a3 n c3] w fun e w' => e = .returned (.tuple #[.slice none 0 0, .slice none 0 0]) ∧ w' = w := by
  have q := fun (w : World) (a : Option Addr) (n c n' c' : Nat) => Lib.run_eql_slice_nil (P := Try.prog) w 22 9 a n c n' c' Try.underlying22
  go_enter Try.func7, Try.ntmps7
  go_wp2
  go_ret2
  exact ⟨rfl, rfl⟩

/-- zzAudit, the ids not nil. -/
theorem audit_some (x : Addr) (a1 a2 a3 : Option Addr) (n c0 c1 c2 c3 : Nat) (ss ls : List ByteArray) (zs : List Int) (bs : List Bool) (w : World) (hn : n ≤ 65536)
    (hs : Strs w (some x) n ss) (hz : Ints w a1 n zs) (hb : Bools w a2 n bs) (hl : Strs w a3 n ls) :
    Calls Try.prog 10 #[.slice (some x) n c0, .slice a1 n c1, .slice a2 n c2, .slice a3 n c3] w fun e w' => ∃ b v xs, e = .returned (.tuple #[.slice (some ⟨b, 0, none⟩) n n, v]) ∧ w'.ownsRow 0 39 3 (.slice (some ⟨b, 0, none⟩) n n) n xs ∧ Triples xs n ∧ Below w.heap.size w w' := by
  have HS : Hid (Strs w (some x) n ss) := hs
  have HZ : Hid (Ints w a1 n zs) := hz
  have HB : Hid (Bools w a2 n bs) := hb
  have HL : Hid (Strs w a3 n ls) := hl
  clear hs hz hb hl
  have q := fun (w : World) (a : Option Addr) (n c n' c' : Nat) => Lib.run_eql_slice_nil (P := Try.prog) w 22 9 a n c n' c' Try.underlying22
  obtain ⟨i1, hi1, hz10, hz11, hz12⟩ := info_parts info9
  obtain ⟨i2, hi2, hz20, hz21, hz22⟩ := info_parts info33
  obtain ⟨i3, hi3, hz30, hz31, hz32⟩ := info_parts info39
  go_enter Try.func10, Try.ntmps10
  go_wp2_with (first | (at_make; refine wpList_make_full _ rfl (.tmp 19) (.tmp 19) 22 rfl w.heap.size 9 i1 (.string ByteArray.empty) 1 Try.underlying22 hi1 hz10 hz11 _ _ _ _ n rfl rfl rfl rfl (by rw [hz12]; omega) (by unfold maxLen; omega) (Nat.le_refl _) ?_; intro w1 ho1 hg1; have hs1 := hg1.size) | (at_make; refine wpList_make_full _ rfl (.tmp 21) (.tmp 21) 27 rfl w.heap.size 33 i2 (.pointer none) 1 Try.underlying27 hi2 hz20 hz21 _ _ _ _ n rfl rfl rfl rfl (by rw [hz22]; omega) (by unfold maxLen; omega) (by omega) ?_; intro w2 ho2 hg2; have hs2 := hg2.size) | (at_make; refine wpList_make_full _ rfl (.tmp 23) (.tmp 23) 31 rfl w.heap.size 39 i3 (.agg #[.string ByteArray.empty, .int .i64 0, .pointer none]) 3 Try.underlying31 hi3 hz30 hz31 _ _ _ _ n rfl rfl rfl rfl (by rw [hz32]; omega) (by unfold maxLen; omega) (by omega) ?_; intro w3 ho3 hg3; have S := St.start ho1 hg1 ho2 hg2 ho3 hg3; clear ho1 hg1 ho2 hg2 ho3 hg3 hs1 hs2) | go_in)
  generalize w1.heap.size = B1 at S ⊢
  generalize w2.heap.size = B2 at S ⊢
  go_loopw [14] (fun i wr => ∃ k : Nat, k ≤ n ∧ i = .int .i64 k ∧ St w wr 39 n k B1 B2) (fun i _ => n - (intOf i).toNat)
  case atStart => exact ⟨0, Nat.zero_le _, rfl, S⟩
  case round =>
    clear S
    obtain ⟨k, hk, rfl, S⟩ := hrel
    have S0 : Hid (St w wr 39 n k B1 B2) := S
    have l1 := S.lt1
    have l2 := S.lt2
    by_cases hlt : k < n
    · have hlt' : (k : Int) < (n : Int) := by omega
      obtain ⟨b0, o0, e0, hb0, hc0⟩ := HS.out (by omega)
      obtain ⟨b1, o1, e1, hb1, hc1⟩ := HZ.out (by omega)
      obtain ⟨b2, o2, e2, hb2, hc2⟩ := HB.out (by omega)
      obtain ⟨b3, o3, e3, hb3, hc3⟩ := HL.out (by omega)
      simp only [Option.some.injEq] at e0
      subst e0 e1 e2 e3
      have k0 := (S.below.cell (p := ⟨b0, o0 + k, none⟩) hb0).trans (hc0 k hlt)
      have k1 := (S.below.cell (p := ⟨b1, o1 + k, none⟩) hb1).trans (hc1 k hlt)
      have k2 := (S.below.cell (p := ⟨b2, o2 + k, none⟩) hb2).trans (hc2 k hlt)
      have k3 := (S.below.cell (p := ⟨b3, o3 + k, none⟩) hb3).trans (hc3 k hlt)
      obtain ⟨cs, hcs⟩ := S.cells
      obtain ⟨ps, hps, hpp⟩ := S.ptrs
      obtain ⟨xs, hxs, hxt⟩ := S.out
      have lB2 := row_lt hxs
      obtain ⟨vc, hvc⟩ := row_at hcs k (by omega)
      obtain ⟨pk, hpk0⟩ := hpp k hlt
      have hpk : wr.cell? ⟨B1, k, none⟩ = some (.pointer pk) := (hps.cellAt k (by omega)).trans hpk0
      obtain ⟨v0, r0⟩ := row_at hxs (k * 3) (by omega)
      obtain ⟨v1, r1⟩ := row_at hxs (k * 3 + 1) (by omega)
      obtain ⟨v2, r2⟩ := row_at hxs (k * 3 + 2) (by omega)
      have f0 := hcs.frozenAt k
      have f1 := hps.frozenAt k
      have f20 := hxs.frozenAt (k * 3)
      have f21 := hxs.frozenAt (k * 3 + 1)
      have f22 := hxs.frozenAt (k * 3 + 2)
      clear S hc0 hc1 hc2 hc3 hcs hps hpp hxs hxt hpk0
      generalize ss.getD k ByteArray.empty = sk at k0
      generalize zs.getD k 0 = zk at k1
      generalize ls.getD k ByteArray.empty = lk at k3
      generalize bs.getD k false = bk at k2
      cases bk
      · go_wp2
        go_region
        go_wp2
        go_roundw
        case rel => exact ⟨k + 1, by omega, by go_num, ((S0.out.set0 _ _).set2 hlt _ _ _).drew⟩
        case measure => simp [intOf]; omega
      · go_wp2
        go_region
        go_wp2
        go_roundw
        case rel => exact ⟨k + 1, by omega, by go_num, (((S0.out.set0 _ _).set1 _ hlt _).set2 hlt _ _ _).drew⟩
        case measure => simp [intOf]; omega
    · obtain rfl : k = n := by omega
      obtain ⟨xs, hx, hxt⟩ := S0.out.out
      have F : Hid (wr.ownsRow 0 39 3 (.slice (some ⟨B2, 0, none⟩) k k) k xs ∧ Triples xs k ∧ Below w.heap.size w wr) := ⟨hx, hxt, S0.out.below⟩
      clear hx hxt S
      go_wp2
      go_ret2
      exact ⟨_, _, xs, rfl, F.out⟩

theorem audit_nil (a1 a2 a3 : Option Addr) (n c0 c1 c2 c3 : Nat) (w : World) :
    Calls Try.prog 10 #[.slice none n c0, .slice a1 n c1, .slice a2 n c2, .slice a3 n c3] w fun e w' => e = .returned (.tuple #[.slice none 0 0, .slice none 0 0]) ∧ w' = w := by
  have q := fun (w : World) (a : Option Addr) (n c n' c' : Nat) => Lib.run_eql_slice_nil (P := Try.prog) w 22 9 a n c n' c' Try.underlying22
  go_enter Try.func10, Try.ntmps10
  go_wp2
  go_ret2
  exact ⟨rfl, rfl⟩

end Go.Proofs.Qxb6605515a.Sh
