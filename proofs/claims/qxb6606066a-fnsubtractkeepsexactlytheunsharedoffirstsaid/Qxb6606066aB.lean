import Derived.Test.Qxb6606066aA
import Derived.Maps.AppendAt
namespace Go.Proofs.Qxb6606066a.Wk
open Go.ChangeShapes Go.WideShapes Go.ChangeAt Go.RowKit
open Pl (Asc AscTo mem Behind)
set_option linter.unusedVariables false

theorem hid {p : Prop} (h : p) : Hid p := h

/-- THE SLICE VALUE v OWNS THE NUMBERS xs, in new memory. -/
def Own (w wr : World) (v : Value) (xs : List Int) : Prop :=
  wr.ownsRow w.heap.size 28 1 v xs.length (xs.map (Value.int .u64)) ∧ Below w.heap.size w wr

theorem Own.drewN {w wr : World} {v : Value} {xs : List Int} (h : Own w wr v xs) (q : Nat) : Own w (wr.drewN q) v xs := ⟨h.1, below_drewN h.2 q⟩

theorem Own.snoc {w wr w1 : World} {v v' : Value} {xs : List Int} {z : Int} {o : Obj} (h : Own w wr v xs) (ho : w1.ownsRow w.heap.size 28 1 v' (xs.length + 1) (xs.map (Value.int .u64) ++ [.int .u64 z])) (hg : (wr.alloc o).grownBy w1 v.ownBlock) : Own w w1 v' (xs ++ [z]) := by
  refine ⟨by simpa using ho, (h.2.alloc h.2.size o).grown hg (by have := h.2.size; simp; omega) (fun k hk => (h.1.lt k hk).1)⟩

/-! The append's law at a world behind draws ('q' of them; none: q = 0). -/
theorem Own.app1 {w wr : World} {v : Value} {xs : List Int} (h : Own w wr v xs) (o : Obj) (q : Nat) : ((wr.drewN q).alloc o).ownsRow w.heap.size 28 1 v xs.length (xs.map (Value.int .u64)) := h.1.alloc o
theorem app2 (wr : World) (x : Value) (t : TypeId) (q : Nat) : ∀ j u, [x][j]? = some u → ((wr.drewN q).alloc (.cells #[x] t)).cell? ((⟨wr.heap.size, 0, none⟩ : Addr).add j) = some u := cell_one_new wr x t
theorem Own.app3 {w wr : World} {v : Value} {xs : List Int} (h : Own w wr v xs) (o : Obj) (q : Nat) : w.heap.size ≤ ((wr.drewN q).alloc o).heap.size := by
  have := h.2.size
  have e : ((wr.drewN q).alloc o).heap.size = wr.heap.size + 1 := by simp
  omega
theorem Own.snocN {w wr w1 : World} {v v' : Value} {xs : List Int} {z : Int} {o : Obj} {q : Nat} (h : Own w wr v xs) (ho : w1.ownsRow w.heap.size 28 1 v' (xs.length + 1) (xs.map (Value.int .u64) ++ [.int .u64 z])) (hg : ((wr.drewN q).alloc o).grownBy w1 v.ownBlock) : Own w w1 v' (xs ++ [z]) :=
  (h.drewN q).snoc ho ⟨hg.os, hg.tape, hg.output, hg.size, hg.block⟩

theorem Own.nums {w wr : World} {v : Value} {xs : List Int} (h : Own w wr v xs) : ∃ a c, v = .slice a xs.length c ∧ Nums wr a xs.length xs := by
  rcases h.1.2 with ⟨h', h0⟩ | ⟨g', cap', cur, h', _, hg, _⟩
  · exact ⟨none, 0, by rw [h', h0], rfl, fun hp => absurd hp (by omega)⟩
  · refine ⟨_, _, h', rfl, fun hp => ⟨g', 0, rfl, (Array.getElem?_eq_some_iff.1 hg).1, fun i hi => ?_⟩⟩
    have ho := h.1
    rw [h'] at ho
    rw [Nat.zero_add, ho.cellAt i (by omega)]
    simp [List.getElem?_map, List.getElem?_eq_getElem hi, List.getD]

/-! ### intersect -/
theorem inter_any (a0 a1 : Option Addr) (n0 n1 c0 c1 : Nat) (A B : List Int) (w : World) (h0 : n0 ≤ 65536) (h1 : n1 ≤ 65536) (hA : Nums w a0 n0 A) (hB : Nums w a1 n1 B) (aA : Asc A) (aB : Asc B) :
    Calls Try.prog 18 #[.slice a0 n0 c0, .slice a1 n1 c1] w fun e w' => ∃ v, e = .returned v ∧ Own w w' v (A.filter (mem B)) := by
  have HA : Hid (Nums w a0 n0 A) := hA
  have HB : Hid (Nums w a1 n1 B) := hB
  have LA : Hid (A.length = n0) := hA.1
  have LB : Hid (B.length = n1) := hB.1
  have AA : Hid (Asc A) := aA
  have AB : Hid (Asc B) := aB
  clear hA hB aA aB
  obtain ⟨i0, hi, hz0, hz1, hz2⟩ := info_parts info28
  go_enter Try.func18, Try.ntmps18
  go_wp2
  go_loopw [5, 6, 7] (fun v i j wr => ∃ k l : Nat, k ≤ n0 ∧ l ≤ n1 ∧ i = .int .i64 k ∧ j = .int .i64 l ∧ Behind A B k l ∧ Own w wr v ((A.take k).filter (mem B))) (fun _ i j _ => n0 + n1 - ((intOf i).toNat + (intOf j).toNat))
  case atStart => exact ⟨0, 0, Nat.zero_le _, Nat.zero_le _, rfl, rfl, Pl.behind_zero _ _ _, ⟨World.ownsRow_nil _ _ _ _, Below.refl _ _⟩⟩
  case round =>
    obtain ⟨k, l, hk, hl, rfl, rfl, hbe, ho⟩ := hrel
    have BE : Hid (Behind A B k l) := hbe
    have OW := hid ho
    clear hbe ho
    by_cases hkl : k < n0 ∧ l < n1
    · obtain ⟨hk', hl'⟩ := hkl
      obtain ⟨b0, o0, e0, hb0, hc0⟩ := HA.out.2 (by omega)
      obtain ⟨b1, o1, e1, hb1, hc1⟩ := HB.out.2 (by omega)
      subst e0 e1
      have ca := (OW.out.2.cell (p := ⟨b0, o0 + k, none⟩) hb0).trans (hc0 k hk')
      have cb := (OW.out.2.cell (p := ⟨b1, o1 + l, none⟩) hb1).trans (hc1 l hl')
      clear hc0 hc1
      have hki : (k : Int) < (n0 : Int) := by omega
      have hli : (l : Int) < (n1 : Int) := by omega
      have S1 : Hid (A.getD k 0 < B.getD l 0 → Behind A B (k + 1) l ∧ (A.take (k + 1)).filter (mem B) = (A.take k).filter (mem B)) := fun h =>
        ⟨BE.out.up _ (by omega), Pl.filter_miss A _ k (by rw [LA.out]; exact hk') (Pl.not_held AB.out BE.out (by rw [LA.out]; exact hk') (fun _ => h))⟩
      have S2 : Hid (B.getD l 0 < A.getD k 0 → Behind A B k (l + 1)) := fun h =>
        BE.out.next fun m h1 h2 => Int.lt_of_lt_of_le h (Pl.asc_le AA.out h1 h2)
      have S3 : Hid (A.getD k 0 = B.getD l 0 → Behind A B (k + 1) (l + 1) ∧ (A.take (k + 1)).filter (mem B) = (A.take k).filter (mem B) ++ [A.getD k 0]) := fun h =>
        ⟨(BE.out.up (k + 1) (by omega)).next fun m h1 h2 => by rw [← h]; exact AA.out k m (by omega) h2, Pl.filter_hit A _ k (by rw [LA.out]; exact hk') (Pl.held (by rw [LB.out]; exact hl') h)⟩
      have hlen := Pl.filter_len A (mem B) k
      generalize hxs : (A.take k).filter (mem B) = xs at OW S1 S3 hlen
      have HXS := hid hxs
      clear hxs
      generalize A.getD k 0 = x at ca S1 S2 S3
      generalize B.getD l 0 = y at cb S1 S2 S3
      by_cases hxy : x < y
      · obtain ⟨R1, R2⟩ := S1.out hxy
        have RR := hid R1
        have RE := hid R2
        clear R1 R2 S1 S2 S3
        go_wp2
        go_quiet (fail)
        go_wp2
        go_roundw
        case rel => exact ⟨k + 1, l, by omega, by omega, by go_num, rfl, RR.out, by rw [RE.out]; exact OW.out.drewN _⟩
        case measure => simp [intOf]; omega
      · by_cases hyx : y < x
        · have RR := hid (S2.out hyx)
          clear S1 S2 S3
          go_wp2
          go_quiet (fail)
          go_wp2
          go_quiet (fail)
          go_wp2
          go_roundw
          case rel => exact ⟨k, l + 1, by omega, by omega, rfl, by go_num, RR.out, by rw [HXS.out]; exact OW.out.drewN _⟩
          case measure => simp [intOf]; omega
        · obtain rfl : x = y := by omega
          obtain ⟨R1, R2⟩ := S3.out rfl
          have RR := hid R1
          have RE := hid R2
          clear R1 R2 S1 S2 S3
          go_wp2
          go_quiet (fail)
          go_wp2
          go_quiet (fail)
          go_wp2_with (first | (at_builtin; refine wpList_append_own _ rfl _ _ 22 rfl w.heap.size 28 i0 (.int .u64 0) 1 8 Try.underlying22 hi hz0 hz1 hz2 rfl (by decide) _ _ _ rfl (OW.out.app1 _ _) ⟨wr.heap.size, 0, none⟩ 1 1 [.int .u64 x] rfl rfl (app2 _ _ _ _) (ints_oneCell .u64 [x]) (by unfold maxLen; omega) (by omega) (OW.out.app3 _ _) ?_; intro v' w1 ho1 hg1 _; have ON := hid (OW.out.snocN ho1 hg1); clear ho1 hg1) | go_in)
          go_roundw
          case rel => exact ⟨k + 1, l + 1, by omega, by omega, by go_num, by go_num, RR.out, by rw [RE.out]; exact ON.out⟩
          case measure => simp [intOf]; omega
    · have FIN : Hid ((A.take k).filter (mem B) = A.filter (mem B)) := Pl.inter_done BE.out (by rw [LA.out]; exact hk) (by rw [LA.out, LB.out]; omega)
      by_cases hk' : k < n0
      · have d1 : (k : Int) < (n0 : Int) := by omega
        have d2 : ¬ ((l : Int) < (n1 : Int)) := by omega
        clear hkl
        go_wp2
        go_ret
        exact ⟨_, rfl, by rw [← FIN.out]; exact OW.out⟩
      · have d1 : decide ((k : Int) < (n0 : Int)) = false := decide_eq_false (by omega)
        clear hkl
        go_wp2
        go_ret
        exact ⟨_, rfl, by rw [← FIN.out]; exact OW.out⟩

/-! ### zzFilter -/
theorem filter_any (a0 a1 : Option Addr) (n0 n1 c0 c1 : Nat) (A B : List Int) (keep : Bool) (w : World) (h0 : n0 ≤ 65536) (h1 : n1 ≤ 65536) (hA : Nums w a0 n0 A) (hB : Nums w a1 n1 B) (aB : Asc B) :
    Calls Try.prog 12 #[.slice a0 n0 c0, .slice a1 n1 c1, .bool keep] w fun e w' => ∃ v, e = .returned v ∧ Own w w' v (A.filter (fun x => mem B x == keep)) := by
  have HA : Hid (Nums w a0 n0 A) := hA
  have HB : Hid (Nums w a1 n1 B) := hB
  have LA : Hid (A.length = n0) := hA.1
  have AB : Hid (Asc B) := aB
  clear hA hB aB
  obtain ⟨i0, hi, hz0, hz1, hz2⟩ := info_parts info28
  go_enter Try.func12, Try.ntmps12
  go_wp2_with (first | (at_make; refine wpList_make_own _ rfl _ _ 22 rfl w.heap.size 28 i0 (.int .u64 0) 1 Try.underlying22 hi hz0 hz1 _ _ _ n0 rfl rfl rfl (by rw [hz2]; omega) (by unfold maxLen; omega) (Nat.le_refl _) ?_; intro w1 ho hg; have O0 := hid (show Own w w1 _ [] from ⟨ho, (Below.refl _ _).grown hg (Nat.le_refl _) (by simp)⟩); clear ho hg) | go_in)
  go_loopw [7, 8] (fun v i wr => ∃ k : Nat, k ≤ n0 ∧ i = .int .i64 k ∧ Own w wr v ((A.take k).filter (fun x => mem B x == keep))) (fun _ i _ => n0 - (intOf i).toNat)
  case atStart => exact ⟨0, Nat.zero_le _, rfl, O0.out⟩
  case round =>
    clear O0
    obtain ⟨k, hk, rfl, ho⟩ := hrel
    have OW := hid ho
    clear ho
    by_cases hlt : k < n0
    · obtain ⟨b0, o0, e0, hb0, hc0⟩ := HA.out.2 (by omega)
      subst e0
      have ca := (OW.out.2.cell (p := ⟨b0, o0 + k, none⟩) hb0).trans (hc0 k hlt)
      clear hc0
      have hlt' : (k : Int) < (n0 : Int) := by omega
      have S1 : Hid ((mem B (A.getD k 0) == keep) = true → (A.take (k + 1)).filter (fun x => mem B x == keep) = (A.take k).filter (fun x => mem B x == keep) ++ [A.getD k 0]) := fun h => Pl.filter_hit A _ k (by rw [LA.out]; exact hlt) h
      have S2 : Hid ((mem B (A.getD k 0) == keep) = false → (A.take (k + 1)).filter (fun x => mem B x == keep) = (A.take k).filter (fun x => mem B x == keep)) := fun h => Pl.filter_miss A _ k (by rw [LA.out]; exact hlt) h
      have hlen := Pl.filter_len A (fun x => mem B x == keep) k
      generalize (A.take k).filter (fun x => mem B x == keep) = xs at OW S1 S2 hlen
      generalize A.getD k 0 = x at ca S1 S2
      go_wp2_with fail
      refine (find_any a1 n1 c1 B x _ h1 (HB.out.below OW.out.2) AB.out).mono ?_
      rintro e w2 ⟨⟨r, rfl, hr⟩, hw⟩
      subst hw
      cases hm : mem B x
      · rw [hm] at hr S1 S2
        clear hm
        cases keep
        · have RE := hid (S1.out rfl)
          clear S1 S2
          go_wp2_with (first | (at_builtin; refine wpList_append_own _ rfl _ _ 22 rfl w.heap.size 28 i0 (.int .u64 0) 1 8 Try.underlying22 hi hz0 hz1 hz2 rfl (by decide) _ _ _ rfl (OW.out.app1 _ 0) ⟨w2.heap.size, 0, none⟩ 1 1 [.int .u64 x] rfl rfl (app2 _ _ _ 0) (ints_oneCell .u64 [x]) (by unfold maxLen; omega) (by omega) (OW.out.app3 _ 0) ?_; intro v' w1 ho1 hg1 _; have ON := hid (OW.out.snocN (q := 0) ho1 hg1); clear ho1 hg1) | go_in)
          go_roundw
          case rel => exact ⟨k + 1, by omega, by go_num, by rw [RE.out]; exact ON.out⟩
          case measure => simp [intOf]; omega
        · have RE := hid (S2.out rfl)
          clear S1 S2
          go_wp2
          go_roundw
          case rel => exact ⟨k + 1, by omega, by go_num, by rw [RE.out]; exact OW.out⟩
          case measure => simp [intOf]; omega
      · rw [hm] at hr S1 S2
        clear hm
        cases keep
        · have RE := hid (S2.out rfl)
          clear S1 S2
          go_wp2
          go_roundw
          case rel => exact ⟨k + 1, by omega, by go_num, by rw [RE.out]; exact OW.out⟩
          case measure => simp [intOf]; omega
        · have RE := hid (S1.out rfl)
          clear S1 S2
          go_wp2_with (first | (at_builtin; refine wpList_append_own _ rfl _ _ 22 rfl w.heap.size 28 i0 (.int .u64 0) 1 8 Try.underlying22 hi hz0 hz1 hz2 rfl (by decide) _ _ _ rfl (OW.out.app1 _ 0) ⟨w2.heap.size, 0, none⟩ 1 1 [.int .u64 x] rfl rfl (app2 _ _ _ 0) (ints_oneCell .u64 [x]) (by unfold maxLen; omega) (by omega) (OW.out.app3 _ 0) ?_; intro v' w1 ho1 hg1 _; have ON := hid (OW.out.snocN (q := 0) ho1 hg1); clear ho1 hg1) | go_in)
          go_roundw
          case rel => exact ⟨k + 1, by omega, by go_num, by rw [RE.out]; exact ON.out⟩
          case measure => simp [intOf]; omega
    · obtain rfl : k = n0 := by omega
      have FIN : Hid ((A.take k).filter (fun x => mem B x == keep) = A.filter (fun x => mem B x == keep)) := Pl.take_full _ (by rw [LA.out]; exact Nat.le_refl _)
      go_wp2
      go_ret
      exact ⟨_, rfl, by rw [← FIN.out]; exact OW.out⟩

end Go.Proofs.Qxb6606066a.Wk
