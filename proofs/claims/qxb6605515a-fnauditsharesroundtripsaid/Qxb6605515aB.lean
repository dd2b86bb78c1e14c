import Derived.Test.Qxb6605515aA
namespace Go.Proofs.Qxb6605515a.Sh
open Go.ChangeShapes Go.WideShapes Go.ChangeAt Go.RowKit
set_option linter.unusedVariables false

theorem info35 : (Try.prog.info? 35).map (fun i => (i.zero, i.size, i.bytes)) = some (some (.agg #[.string ByteArray.empty, .int .i64 0, .pointer none]), 3, 32) := by kernel_rfl
theorem info39 : (Try.prog.info? 39).map (fun i => (i.zero, i.size, i.bytes)) = some (some (.agg #[.string ByteArray.empty, .int .i64 0, .pointer none]), 3, 32) := by kernel_rfl
theorem info33 : (Try.prog.info? 33).map (fun i => (i.zero, i.size, i.bytes)) = some (some (.pointer none), 1, 8) := by kernel_rfl
theorem info9 : (Try.prog.info? 9).map (fun i => (i.zero, i.size, i.bytes)) = some (some (.string ByteArray.empty), 1, 16) := by kernel_rfl

/-- THE ROW OF SHARES: three cells each. -/
def Triples (xs : List Value) (n : Nat) : Prop := ∀ j, j < n → ∃ s i p, xs[j * 3]? = some (.string s) ∧ xs[j * 3 + 1]? = some (.int .i64 i) ∧ xs[j * 3 + 2]? = some (.pointer p)

/-- WHAT THE COPY's LOOP HOLDS behind k rounds: the new row's first 3k cells are the old row's. -/
def Done (w wr : World) (t : TypeId) (n k : Nat) (xs : List Value) : Prop :=
  (∃ ys, wr.ownsRow w.heap.size t 3 (.slice (some ⟨w.heap.size, 0, none⟩) n n) n ys ∧ ∀ j, j < k * 3 → ys[j]? = xs[j]?) ∧ Below w.heap.size w wr

theorem Done.zero {w wr : World} {t : TypeId} {n : Nat} {xs ys : List Value} (h : wr.ownsRow w.heap.size t 3 (.slice (some ⟨w.heap.size, 0, none⟩) n n) n ys) (hg : w.grownBy wr none) : Done w wr t n 0 xs :=
  ⟨⟨ys, h, fun j hj => absurd hj (by omega)⟩, (Below.refl _ _).grown hg (Nat.le_refl _) (by simp)⟩

theorem Done.old {w wr : World} {t : TypeId} {n k : Nat} {xs : List Value} (h : Done w wr t n k xs) (j : Nat) (hj : j < n * 3) : ∃ v, wr.cell? ⟨w.heap.size, j, none⟩ = some v := by
  obtain ⟨⟨ys, ho, hx⟩, hb⟩ := h
  have hl := ho.1
  exact ⟨ys[j]'(by omega), by rw [ho.cellAt j (by omega), List.getElem?_eq_getElem]⟩

theorem Done.frozen {w wr : World} {t : TypeId} {n k : Nat} {xs : List Value} (h : Done w wr t n k xs) (j : Nat) : wr.frozen? ⟨w.heap.size, j, none⟩ = false := by
  obtain ⟨⟨xs, ho, hx⟩, hb⟩ := h
  exact ho.frozenAt j

theorem Done.lt {w wr : World} {t : TypeId} {n k : Nat} {xs : List Value} (h : Done w wr t n k xs) : w.heap.size < wr.heap.size := by
  obtain ⟨⟨xs, ho, hx⟩, hb⟩ := h
  rcases ho.2 with ⟨h', _⟩ | ⟨g', cap', cur, h', _, hg, _⟩
  · simp at h'
  · simp only [Value.slice.injEq, Option.some.injEq, Addr.mk.injEq, and_true, true_and] at h'
    obtain ⟨rfl, rfl⟩ := h'
    obtain ⟨h1, _⟩ := Array.getElem?_eq_some_iff.1 hg
    exact h1

theorem Done.put {w wr : World} {t : TypeId} {n : Nat} {ys : List Value} (h : wr.ownsRow w.heap.size t 3 (.slice (some ⟨w.heap.size, 0, none⟩) n n) n ys) (j : Nat) (u : Value) :
    (wr.setCell ⟨w.heap.size, j, none⟩ u).ownsRow w.heap.size t 3 (.slice (some ⟨w.heap.size, 0, none⟩) n n) n (ys.set j u) := (h.stored j u).1

theorem Done.next {w wr : World} {t t' : TypeId} {n k : Nat} {xs : List Value} {u0 u1 u2 : Value} {cs : Array Value} (h : Done w wr t n k xs) (hk : k < n) (t0 : xs[k * 3]? = some u0) (t1 : xs[k * 3 + 1]? = some u1) (t2 : xs[k * 3 + 2]? = some u2) :
    Done w ((((wr.setCell ⟨w.heap.size, k * 3, none⟩ u0).setCell ⟨w.heap.size, k * 3 + 1, none⟩ u1).setCell ⟨w.heap.size, k * 3 + 2, none⟩ u2).alloc (.cells cs t')) t n (k + 1) xs := by
  have hsz := h.lt
  obtain ⟨⟨ys, ho, hx⟩, hb⟩ := h
  have hl := ho.1
  refine ⟨⟨_, (((ho.stored _ u0).1.stored _ u1).1.stored _ u2).1.alloc _, fun j hj => ?_⟩, (((hb.setCell (Nat.le_refl _) _).setCell (Nat.le_refl _) _).setCell (Nat.le_refl _) _).alloc (by simp; omega) _⟩
  by_cases e2 : j = k * 3 + 2
  · subst e2; rw [List.getElem?_set_self (by simp; omega), t2]
  · rw [List.getElem?_set_ne (by omega)]
    by_cases e1 : j = k * 3 + 1
    · subst e1; rw [List.getElem?_set_self (by simp; omega), t1]
    · rw [List.getElem?_set_ne (by omega)]
      by_cases e0 : j = k * 3
      · subst e0; rw [List.getElem?_set_self (by omega), t0]
      · rw [List.getElem?_set_ne (by omega)]
        exact hx j (by omega)

theorem ownsRow_low {w : World} {B B' : Nat} {t : TypeId} {s n : Nat} {v : Value} {xs : List Value} (h : w.ownsRow B t s v n xs) (hB : B' ≤ B) : w.ownsRow B' t s v n xs := by
  obtain ⟨h1, h2⟩ := h
  refine ⟨h1, ?_⟩
  rcases h2 with h2 | ⟨g, cap, cur, hv, hg, r⟩
  · exact .inl h2
  · exact .inr ⟨g, cap, cur, hv, by omega, r⟩

theorem Done.full {w wr : World} {t : TypeId} {n : Nat} {xs : List Value} (h : Done w wr t n n xs) (hx0 : xs.length = n * 3) : wr.ownsRow 0 t 3 (.slice (some ⟨w.heap.size, 0, none⟩) n n) n xs ∧ w.heap.size < wr.heap.size ∧ Below w.heap.size w wr := by
  have hsz := h.lt
  obtain ⟨⟨ys, ho, hx⟩, hb⟩ := h
  have e : ys = xs := by
    apply List.ext_getElem?
    intro j
    by_cases hj : j < n * 3
    · exact hx j hj
    · rw [List.getElem?_eq_none (by have := ho.1; omega), List.getElem?_eq_none (by omega)]
  subst e
  exact ⟨ownsRow_low ho (Nat.zero_le _), hsz, hb⟩

/-- toAuditShares -/
theorem to_some (b n : Nat) (xs : List Value) (w : World) (hn : n ≤ 65536) (ho : w.ownsRow 0 35 3 (.slice (some ⟨b, 0, none⟩) n n) n xs) (hb : b < w.heap.size) (ht : Triples xs n) :
    Calls Try.prog 12 #[.slice (some ⟨b, 0, none⟩) n n] w fun e w' => e = .returned (.slice (some ⟨w.heap.size, 0, none⟩) n n) ∧ w'.ownsRow 0 39 3 (.slice (some ⟨w.heap.size, 0, none⟩) n n) n xs ∧ w.heap.size < w'.heap.size ∧ Below w.heap.size w w' := by
  have HO : Hid (w.ownsRow 0 35 3 (.slice (some ⟨b, 0, none⟩) n n) n xs) := ho
  have HT : Hid (Triples xs n) := ht
  clear ho ht
  obtain ⟨i0, hi, hz0, hz1, hz2⟩ := info_parts info39
  go_enter Try.func12, Try.ntmps12
  go_wp2_with (first | (at_make; refine wpList_make_full _ rfl _ _ 31 rfl w.heap.size 39 i0 (.agg #[.string ByteArray.empty, .int .i64 0, .pointer none]) 3 Try.underlying31 hi hz0 hz1 _ _ _ _ n rfl rfl rfl rfl (by rw [hz2]; omega) (by unfold maxLen; omega) (Nat.le_refl _) ?_; intro w1 ho1 hg1; have D := Done.zero (xs := xs) ho1 hg1; clear ho1 hg1) | go_in)
  go_loopw [11] (fun i wr => ∃ k : Nat, k ≤ n ∧ i = .int .i64 k ∧ Done w wr 39 n k xs) (fun i _ => n - (intOf i).toNat)
  case atStart => exact ⟨0, Nat.zero_le _, rfl, D⟩
  case round =>
    clear D
    obtain ⟨k, hk, rfl, D⟩ := hrel
    by_cases hlt : k < n
    · obtain ⟨s, i, p, t0, t1, t2⟩ := HT.out k hlt
      have q0 : wr.cell? ⟨b, k * 3, none⟩ = some (.string s) := by rw [D.2.cell (p := ⟨b, k * 3, none⟩) hb, HO.out.cellAt _ (by omega)]; exact t0
      have q1 : wr.cell? ⟨b, k * 3 + 1, none⟩ = some (.int .i64 i) := by rw [D.2.cell (p := ⟨b, k * 3 + 1, none⟩) hb, HO.out.cellAt _ (by omega)]; exact t1
      have q2 : wr.cell? ⟨b, k * 3 + 2, none⟩ = some (.pointer p) := by rw [D.2.cell (p := ⟨b, k * 3 + 2, none⟩) hb, HO.out.cellAt _ (by omega)]; exact t2
      have hsz := D.lt
      have hlt' : (k : Int) < (n : Int) := by omega
      obtain ⟨v0, r0⟩ := D.old (k * 3) (by omega)
      obtain ⟨v1, r1⟩ := D.old (k * 3 + 1) (by omega)
      obtain ⟨v2, r2⟩ := D.old (k * 3 + 2) (by omega)
      have f0 := D.frozen (k * 3)
      have f1 := D.frozen (k * 3 + 1)
      have f2 := D.frozen (k * 3 + 2)
      have D' := fun cs t' => D.next (t' := t') (cs := cs) hlt t0 t1 t2
      have D2 : Hid (∀ cs t', Done w ((((wr.setCell ⟨w.heap.size, k * 3, none⟩ (.string s)).setCell ⟨w.heap.size, k * 3 + 1, none⟩ (.int .i64 i)).setCell ⟨w.heap.size, k * 3 + 2, none⟩ (.pointer p)).alloc (.cells cs t')) 39 n (k + 1) xs) := D'
      clear t0 t1 t2 D' D
      go_wp2
      go_roundw
      case rel => exact ⟨k + 1, by omega, by go_num, D2.out _ _⟩
      case measure => simp [intOf]; omega
    · obtain rfl : k = n := by omega
      have F := D.full HO.out.1
      go_wp2
      go_ret
      exact ⟨rfl, F⟩


theorem to_nil (w : World) :
    Calls Try.prog 12 #[.slice none 0 0] w fun e w' => e = .returned (.slice (some ⟨w.heap.size, 0, none⟩) 0 0) ∧ w'.ownsRow 0 39 3 (.slice (some ⟨w.heap.size, 0, none⟩) 0 0) 0 [] ∧ w.heap.size < w'.heap.size ∧ Below w.heap.size w w' := by
  obtain ⟨i0, hi, hz0, hz1, hz2⟩ := info_parts info39
  go_enter Try.func12, Try.ntmps12
  go_wp2_with (first | (at_make; refine wpList_make_full _ rfl _ _ 31 rfl w.heap.size 39 i0 (.agg #[.string ByteArray.empty, .int .i64 0, .pointer none]) 3 Try.underlying31 hi hz0 hz1 _ _ _ _ 0 rfl rfl rfl rfl (by omega) (by unfold maxLen; omega) (Nat.le_refl _) ?_; intro w1 ho1 hg1; have D := Done.zero (xs := []) ho1 hg1; clear ho1 hg1) | go_in)
  go_loopw [11] (fun i wr => i = .int .i64 0 ∧ wr = w1) (fun i _ => 0)
  case atStart => exact ⟨rfl, rfl⟩
  case round =>
    obtain ⟨rfl, rfl⟩ := hrel
    have F := D.full rfl
    go_wp2
    go_ret
    exact ⟨rfl, F⟩

/-- fromAuditShares -/
theorem from_some (b n : Nat) (xs : List Value) (w : World) (hn : n ≤ 65536) (ho : w.ownsRow 0 39 3 (.slice (some ⟨b, 0, none⟩) n n) n xs) (hb : b < w.heap.size) (ht : Triples xs n) :
    Calls Try.prog 11 #[.slice (some ⟨b, 0, none⟩) n n] w fun e w' => e = .returned (.slice (some ⟨w.heap.size, 0, none⟩) n n) ∧ w'.ownsRow 0 35 3 (.slice (some ⟨w.heap.size, 0, none⟩) n n) n xs ∧ w.heap.size < w'.heap.size ∧ Below w.heap.size w w' := by
  have HO : Hid (w.ownsRow 0 39 3 (.slice (some ⟨b, 0, none⟩) n n) n xs) := ho
  have HT : Hid (Triples xs n) := ht
  clear ho ht
  obtain ⟨i0, hi, hz0, hz1, hz2⟩ := info_parts info35
  go_enter Try.func11, Try.ntmps11
  go_wp2_with (first | (at_make; refine wpList_make_full _ rfl _ _ 26 rfl w.heap.size 35 i0 (.agg #[.string ByteArray.empty, .int .i64 0, .pointer none]) 3 Try.underlying26 hi hz0 hz1 _ _ _ _ n rfl rfl rfl rfl (by rw [hz2]; omega) (by unfold maxLen; omega) (Nat.le_refl _) ?_; intro w1 ho1 hg1; have D := Done.zero (xs := xs) ho1 hg1; clear ho1 hg1) | go_in)
  go_loopw [11] (fun i wr => ∃ k : Nat, k ≤ n ∧ i = .int .i64 k ∧ Done w wr 35 n k xs) (fun i _ => n - (intOf i).toNat)
  case atStart => exact ⟨0, Nat.zero_le _, rfl, D⟩
  case round =>
    clear D
    obtain ⟨k, hk, rfl, D⟩ := hrel
    by_cases hlt : k < n
    · obtain ⟨s, i, p, t0, t1, t2⟩ := HT.out k hlt
      have q0 : wr.cell? ⟨b, k * 3, none⟩ = some (.string s) := by rw [D.2.cell (p := ⟨b, k * 3, none⟩) hb, HO.out.cellAt _ (by omega)]; exact t0
      have q1 : wr.cell? ⟨b, k * 3 + 1, none⟩ = some (.int .i64 i) := by rw [D.2.cell (p := ⟨b, k * 3 + 1, none⟩) hb, HO.out.cellAt _ (by omega)]; exact t1
      have q2 : wr.cell? ⟨b, k * 3 + 2, none⟩ = some (.pointer p) := by rw [D.2.cell (p := ⟨b, k * 3 + 2, none⟩) hb, HO.out.cellAt _ (by omega)]; exact t2
      have hsz := D.lt
      have hlt' : (k : Int) < (n : Int) := by omega
      obtain ⟨v0, r0⟩ := D.old (k * 3) (by omega)
      obtain ⟨v1, r1⟩ := D.old (k * 3 + 1) (by omega)
      obtain ⟨v2, r2⟩ := D.old (k * 3 + 2) (by omega)
      have f0 := D.frozen (k * 3)
      have f1 := D.frozen (k * 3 + 1)
      have f2 := D.frozen (k * 3 + 2)
      have D' := fun cs t' => D.next (t' := t') (cs := cs) hlt t0 t1 t2
      have D2 : Hid (∀ cs t', Done w ((((wr.setCell ⟨w.heap.size, k * 3, none⟩ (.string s)).setCell ⟨w.heap.size, k * 3 + 1, none⟩ (.int .i64 i)).setCell ⟨w.heap.size, k * 3 + 2, none⟩ (.pointer p)).alloc (.cells cs t')) 35 n (k + 1) xs) := D'
      clear t0 t1 t2 D' D
      go_wp2
      go_roundw
      case rel => exact ⟨k + 1, by omega, by go_num, D2.out _ _⟩
      case measure => simp [intOf]; omega
    · obtain rfl : k = n := by omega
      have F := D.full HO.out.1
      go_wp2
      go_ret
      exact ⟨rfl, F⟩


theorem from_nil (w : World) :
    Calls Try.prog 11 #[.slice none 0 0] w fun e w' => e = .returned (.slice (some ⟨w.heap.size, 0, none⟩) 0 0) ∧ w'.ownsRow 0 35 3 (.slice (some ⟨w.heap.size, 0, none⟩) 0 0) 0 [] ∧ w.heap.size < w'.heap.size ∧ Below w.heap.size w w' := by
  obtain ⟨i0, hi, hz0, hz1, hz2⟩ := info_parts info35
  go_enter Try.func11, Try.ntmps11
  go_wp2_with (first | (at_make; refine wpList_make_full _ rfl _ _ 26 rfl w.heap.size 35 i0 (.agg #[.string ByteArray.empty, .int .i64 0, .pointer none]) 3 Try.underlying26 hi hz0 hz1 _ _ _ _ 0 rfl rfl rfl rfl (by omega) (by unfold maxLen; omega) (Nat.le_refl _) ?_; intro w1 ho1 hg1; have D := Done.zero (xs := []) ho1 hg1; clear ho1 hg1) | go_in)
  go_loopw [11] (fun i wr => i = .int .i64 0 ∧ wr = w1) (fun i _ => 0)
  case atStart => exact ⟨rfl, rfl⟩
  case round =>
    obtain ⟨rfl, rfl⟩ := hrel
    have F := D.full rfl
    go_wp2
    go_ret
    exact ⟨rfl, F⟩

end Go.Proofs.Qxb6605515a.Sh
