import Derived.Test.Qxb6605490aPatA
import Derived.BigRegion
namespace Go.Proofs.Qxb6605490a.Pat
open Go.ChangeShapes Go.WideShapes Go.ChangeAt Go.RowKit
set_option linter.unusedVariables false

/-! ### zzWantPlaces -/
theorem Own.empty (w : World) : Own w (w.alloc (.cells #[] 3)) (.slice (some ⟨w.heap.size, 0, none⟩) 0 0) [] :=
  ⟨World.ownsRow_lit w #[] 0 (Nat.le_refl _) (Nat.zero_le _) rfl, (Below.refl _ _).alloc (Nat.le_refl _) _⟩

theorem one_new (W : World) (H : Nat) (hH : W.heap.size = H) (x : Value) (t : TypeId) : ∀ j u, [x][j]? = some u → (W.alloc (.cells #[x] t)).cell? ((⟨H, 0, none⟩ : Addr).add j) = some u := by
  subst hH; exact cell_one_new W x t

theorem wantP (i1 i2 : Bool) (p1 p2 : Int) (w : World) :
    Calls Try.prog 25 #[.bool i1, .bool i2, .int .i64 p1, .int .i64 p2] w fun e w' => ∃ v, e = .returned v ∧ Own w w' v (want i1 i2 p1 p2) := by
  have O0 := hid (Own.empty w)
  obtain ⟨i0, hi, hz0, hz1, hz2⟩ := info_parts info3
  cases i1
  · cases i2
    · go_enter Try.func25, Try.ntmps25
      go_wp2
      go_ret
      exact ⟨_, rfl, O0.out⟩
    · go_enter Try.func25, Try.ntmps25
      go_wp2_with (first | (at_builtin; refine wpList_append_own _ rfl (.tmp 26) (.tmp 28) 22 rfl w.heap.size 3 i0 (.int .i64 0) 1 8 Try.underlying22 hi hz0 hz1 hz2 rfl (by decide) _ _ _ rfl (O0.out.1.alloc _) ⟨w.heap.size + 1, 0, none⟩ 1 1 [.int .i64 p2] rfl rfl (one_new _ _ (by simp) _ _) (ints_oneCell .i64 [p2]) (by unfold maxLen; simp) (by simp) (O0.out.app3 _) ?_; intro v2 w2 ho2 hg2 _; have ON := hid (O0.out.snoc ho2 hg2); clear ho2 hg2) | go_in)
      go_ret
      exact ⟨_, rfl, ON.out⟩
  · cases i2
    · have W : Hid (want true false p1 p2 = [p1]) := by show _ = _; simp [want]
      go_enter Try.func25, Try.ntmps25
      go_wp2_with (first | (at_builtin; refine wpList_append_own _ rfl (.tmp 12) (.tmp 14) 22 rfl w.heap.size 3 i0 (.int .i64 0) 1 8 Try.underlying22 hi hz0 hz1 hz2 rfl (by decide) _ _ _ rfl (O0.out.1.alloc _) ⟨w.heap.size + 1, 0, none⟩ 1 1 [.int .i64 p1] rfl rfl (one_new _ _ (by simp) _ _) (ints_oneCell .i64 [p1]) (by unfold maxLen; simp) (by simp) (O0.out.app3 _) ?_; intro v1 w1 ho1 hg1 _; have O1 := hid (O0.out.snoc ho1 hg1); clear ho1 hg1) | go_in)
      go_ret
      exact ⟨_, rfl, by rw [W.out]; exact O1.out⟩
    · by_cases hp : p1 = p2
      · have W : Hid (want true true p1 p2 = [p1]) := by show _ = _; simp [want, hp]
        have hp' : (p1 == p2) = true := by simp [hp]
        clear hp
        go_enter Try.func25, Try.ntmps25
        go_wp2_with (first | (at_builtin; refine wpList_append_own _ rfl (.tmp 12) (.tmp 14) 22 rfl w.heap.size 3 i0 (.int .i64 0) 1 8 Try.underlying22 hi hz0 hz1 hz2 rfl (by decide) _ _ _ rfl (O0.out.1.alloc _) ⟨w.heap.size + 1, 0, none⟩ 1 1 [.int .i64 p1] rfl rfl (one_new _ _ (by simp) _ _) (ints_oneCell .i64 [p1]) (by unfold maxLen; simp) (by simp) (O0.out.app3 _) ?_; intro v1 w1 ho1 hg1 _; have O1 := hid (O0.out.snoc ho1 hg1); clear ho1 hg1) | go_in)
        go_ret
        exact ⟨_, rfl, by rw [W.out]; exact O1.out⟩
      · have W : Hid (want true true p1 p2 = [p1] ++ [p2]) := by show _ = _; simp [want, hp]
        have hp' : (p1 == p2) = false := by simp [hp]
        clear hp
        go_enter Try.func25, Try.ntmps25
        go_wp2_with (first | (at_builtin; refine wpList_append_own _ rfl (.tmp 12) (.tmp 14) 22 rfl w.heap.size 3 i0 (.int .i64 0) 1 8 Try.underlying22 hi hz0 hz1 hz2 rfl (by decide) _ _ _ rfl (O0.out.1.alloc _) ⟨w.heap.size + 1, 0, none⟩ 1 1 [.int .i64 p1] rfl rfl (one_new _ _ (by simp) _ _) (ints_oneCell .i64 [p1]) (by unfold maxLen; simp) (by simp) (O0.out.app3 _) ?_; intro v1 w1 ho1 hg1 _; have O1 := hid (O0.out.snoc ho1 hg1); clear ho1 hg1) | (at_builtin; refine wpList_append_own _ rfl (.tmp 26) (.tmp 28) 22 rfl w.heap.size 3 i0 (.int .i64 0) 1 8 Try.underlying22 hi hz0 hz1 hz2 rfl (by decide) _ _ _ rfl (O1.out.1.alloc _) ⟨w1.heap.size, 0, none⟩ 1 1 [.int .i64 p2] rfl rfl (one_new _ _ rfl _ _) (ints_oneCell .i64 [p2]) (by unfold maxLen; simp) (by simp) (O1.out.app3 _) ?_; intro v2 w2 ho2 hg2 _; have ON := hid (O1.out.snoc ho2 hg2); clear ho2 hg2) | go_in)
        go_ret
        exact ⟨_, rfl, by rw [W.out]; exact ON.out⟩

/-! ### zzMembers -/
def inTo (ks : List Key) (i : Nat) : Key → Bool := fun x => decide (x ∈ ks.take i)
theorem inTo_zero (ks : List Key) : inTo ks 0 = fun _ => false := by funext x; simp [inTo]
theorem inTo_succ {ks : List Key} {i : Nat} (h : i < ks.length) : inTo ks (i + 1) = fun x => if x = at0 ks i then true else inTo ks i x := by
  funext x
  by_cases e : x = at0 ks i
  · simp [inTo, mem_snoc h, e]
  · simp [inTo, mem_snoc h, e]

theorem members (a0 a1 : Option Addr) (n c0 c1 : Nat) (ks : List Key) (w : World) (hn : n ≤ 4096) (hl : ks.length = n) (hv : ∀ k ∈ ks, Valid k) (h0 : Kr w a0 n ks) (h1 : Tr w a1 n ks) :
    Calls Try.prog 11 #[.slice a0 n c0, .slice a1 n c1] w fun e w' => ∃ m, e = .returned (.map (some m)) ∧ SetAt w' m n (inTo ks n) ∧ Below w.heap.size w w' := by
  have H0 := hid h0
  have H1 := hid h1
  have HL := hid hl
  have HV := hid hv
  clear h0 h1 hl hv
  have hmm := @run_makeMap Try.prog
  go_enter Try.func11, Try.ntmps11
  go_wp2
  go_loopw [6] (fun i wr => ∃ k : Nat, k ≤ n ∧ i = .int .i64 k ∧ SetAt wr w.heap.size k (inTo ks k) ∧ Below w.heap.size w wr) (fun i _ => n - (intOf i).toNat)
  case atStart => exact ⟨0, Nat.zero_le _, rfl, by rw [inTo_zero]; exact SetAt.made w, (Below.refl _ _).alloc (Nat.le_refl _) _⟩
  case round =>
    clear hmm
    obtain ⟨k, hk, rfl, hS, hB⟩ := hrel
    have S := hid hS
    have B := hid hB
    clear hS hB
    by_cases hlt : k < n
    · obtain ⟨b0, o0, e0, hb0, hc0⟩ := H0.out (by omega)
      obtain ⟨b1, o1, e1, hb1, hc1⟩ := H1.out (by omega)
      subst e0 e1
      have k0 := (B.out.cell (p := ⟨b0, o0 + k, none⟩) hb0).trans (hc0 k hlt)
      have k1 := (B.out.cell (p := ⟨b1, o1 + k, none⟩) hb1).trans (hc1 k hlt)
      clear hc0 hc1
      have hlt' : (k : Int) < (n : Int) := by omega
      have VK : Hid (Valid (at0 ks k)) := HV.out _ (at0_mem (by rw [HL.out]; exact hlt))
      have IS := hid (inTo_succ (ks := ks) (i := k) (by rw [HL.out]; exact hlt))
      obtain ⟨w1, hrun, hS1, hg1⟩ := (S.out.kept (w' := wr.drew) rfl).put VK.out (by unfold maxLen; omega)
      have S1 := hid hS1
      have B1 := hid ((B.out.drew).grown hg1 B.out.drew.size (fun j hj => by cases hj; exact Nat.le_refl _))
      clear hS1 hg1
      simp only [kval] at hrun
      generalize (at0 ks k).1 = x at k0 hrun
      generalize bs (at0 ks k).2 = y at k1 hrun
      go_wp2
      go_region
      go_wp2
      go_roundw
      case rel => exact ⟨k + 1, by omega, by go_num, by rw [IS.out]; exact S1.out, B1.out⟩
      case measure => simp [intOf]; omega
    · obtain rfl : k = n := by omega
      go_wp2
      go_ret
      exact ⟨_, rfl, S.out, B.out⟩

/-! ### zzWantLengths -/
/-- A row of ints of ours, from block C on. -/
def Row (w : World) (C : Nat) (v : Value) (xs : List Int) : Prop := w.ownsRow C 3 1 v xs.length (xs.map (Value.int .i64))

theorem Row.ne_map {w : World} {C m n : Nat} {v : Value} {xs : List Int} {S : Key → Bool} (h : Row w C v xs) (hS : SetAt w m n S) : some m ≠ v.ownBlock := by
  intro e
  obtain ⟨D, ⟨es, clock, hb, _⟩, _⟩ := hS
  rcases h.2 with ⟨h', _⟩ | ⟨g', cap', cur, h', _, hg, _⟩
  · rw [h'] at e; cases e
  · rw [h'] at e
    simp only [Value.ownBlock, Option.some.injEq] at e
    rw [e, hg] at hb
    cases hb

theorem Row.app {w1 : World} {C : Nat} {v' : Value} {xs : List Int} {z : Int} (ho : w1.ownsRow C 3 1 v' (xs.length + 1) (xs.map (Value.int .i64) ++ [.int .i64 z])) : Row w1 C v' (xs ++ [z]) := by
  show w1.ownsRow C 3 1 v' (xs ++ [z]).length ((xs ++ [z]).map (Value.int .i64))
  simpa using ho
theorem Row.setAt {w w1 : World} {C m n : Nat} {v : Value} {xs : List Int} {S : Key → Bool} {o : Obj} (h : Row w C v xs) (hS : SetAt w m n S) (hg : (w.alloc o).grownBy w1 v.ownBlock) : SetAt w1 m n S := by
  have hlt := hS.lt
  refine hS.kept ?_
  rw [hg.block m (by simp; omega) (h.ne_map hS)]
  exact Below.heap_alloc _ _ _ hlt
theorem Row.below {u w w1 : World} {C : Nat} {v : Value} {xs : List Int} {o : Obj} (h : Row w C v xs) (hb : Below C u w) (hC : C ≤ u.heap.size) (hg : (w.alloc o).grownBy w1 v.ownBlock) : Below C u w1 :=
  (hb.alloc (Nat.le_trans hC hb.size) o).grown hg (by have := hb.size; simp; omega) (fun k hk => (World.ownsRow.lt h k hk).1)

/-- A struct of two cells laid into a box. -/
theorem boxed (wr : World) (x : Int) (y : ByteArray) (t : TypeId) : ((wr.alloc (.cells #[.int .i64 x, .string y] t)).drew).cell? ⟨wr.heap.size, 0, none⟩ = some (.int .i64 x) ∧ ((wr.alloc (.cells #[.int .i64 x, .string y] t)).drew).cell? ⟨wr.heap.size, 1, none⟩ = some (.string y) ∧ wr.heap.size < ((wr.alloc (.cells #[.int .i64 x, .string y] t)).drew).heap.size :=
  ⟨by simp, by simp, by simp⟩

theorem wantL (u : World) (a0 a1 : Option Addr) (n c0 c1 : Nat) (ks : List Key) (kind : Int) (sv v : Value) (skip : Key → Bool) (A : List Int) (w : World) (hn : n ≤ 4096) (hA : A.length ≤ 4096) (hl : ks.length = n) (hv : ∀ k ∈ ks, Valid k)
    (h0 : Kr u a0 n ks) (h1 : Tr u a1 n ks) (hs : ∀ W, Below u.heap.size u W → ∀ k, Valid k → (Instr.lookup 31 sv (kval k) false).run Try.prog W = .ok (.bool (skip k)) W) (hr : Row w u.heap.size v A) (hb : Below u.heap.size u w) :
    Calls Try.prog 15 #[.slice a0 n c0, .slice a1 n c1, .int .i64 kind, sv, v] w fun e w' => ∃ v', e = .returned v' ∧ Row w' u.heap.size v' (A ++ wl ks kind skip n) ∧ Below u.heap.size u w' := by
  have H0 := hid h0
  have H1 := hid h1
  have HL := hid hl
  have HV := hid hv
  have HS := hid hs
  have HR := hid hr
  have HB := hid hb
  have hsz := hb.size
  clear h0 h1 hl hv hs hr hb
  have hmm := @run_makeMap Try.prog
  obtain ⟨i0, hi, hz0, hz1, hz2⟩ := info_parts info3
  go_enter Try.func15, Try.ntmps15
  go_wp2
  go_loopw [4, 12] (fun v i wr => ∃ k : Nat, k ≤ n ∧ i = .int .i64 k ∧ Row wr u.heap.size v (A ++ wl ks kind skip k) ∧ SetAt wr w.heap.size k (inTo ks k) ∧ Below u.heap.size u wr) (fun _ i _ => n - (intOf i).toNat)
  case atStart => exact ⟨0, Nat.zero_le _, rfl, by rw [show A ++ wl ks kind skip 0 = A from by simp [wl]]; exact World.ownsRow.alloc HR.out _, by rw [inTo_zero]; exact SetAt.made w, HB.out.alloc hsz _⟩
  case round =>
    clear hmm
    obtain ⟨k, hk, rfl, hR, hS, hB⟩ := hrel
    have R := hid hR
    have S := hid hS
    have B := hid hB
    have hsz2 := hB.size
    clear hR hS hB
    by_cases hlt : k < n
    · obtain ⟨b0, o0, e0, hb0, hc0⟩ := H0.out (by omega)
      obtain ⟨b1, o1, e1, hb1, hc1⟩ := H1.out (by omega)
      subst e0 e1
      have k0 := (B.out.cell (p := ⟨b0, o0 + k, none⟩) hb0).trans (hc0 k hlt)
      have k1 := (B.out.cell (p := ⟨b1, o1 + k, none⟩) hb1).trans (hc1 k hlt)
      clear hc0 hc1
      have hlt' : (k : Int) < (n : Int) := by omega
      have hb0' : b0 < wr.heap.size := by omega
      have hb1' : b1 < wr.heap.size := by omega
      have VK : Hid (Valid (at0 ks k)) := HV.out _ (at0_mem (by rw [HL.out]; exact hlt))
      have IS := hid (inTo_succ (ks := ks) (i := k) (by rw [HL.out]; exact hlt))
      have X := hid (boxed wr (at0 ks k).1 (bs (at0 ks k).2) 55)
      have hlenw := wl_len ks kind skip k
      -- the box: a world of its own
      obtain ⟨W1, hW1⟩ : ∃ W1, (wr.alloc (.cells #[.int .i64 (at0 ks k).1, .string (bs (at0 ks k).2)] 55)).drew = W1 := ⟨_, rfl⟩
      have HW := hid hW1
      rw [hW1] at X
      have BW : Hid (Below wr.heap.size wr W1) := by rw [← hW1]; exact ((Below.refl _ _).alloc (Nat.le_refl _) _).drew
      have SW := hid (S.out.below BW.out)
      have RW : Hid (Row W1 u.heap.size u4 (A ++ wl ks kind skip k)) := by rw [← hW1]; exact World.ownsRow.alloc R.out _
      have BU := hid (B.out.trans (BW.out.mono hsz2))
      have hlook := SW.out.look VK.out
      clear hW1
      simp only [kval] at hlook
      obtain ⟨xc0, xc1, xf⟩ := X.out
      generalize hx : (at0 ks k).1 = x at k0 HW xc0 hlook
      generalize hy : bs (at0 ks k).2 = y at k1 HW xc1 hlook
      have HX := hid hx
      have HY := hid hy
      clear hx hy
      cases hin : inTo ks k (at0 ks k)
      · rw [hin] at hlook
        have NIN : Hid (at0 ks k ∉ ks.take k) := by show at0 ks k ∉ ks.take k; simpa [inTo] using hin
        clear hin
        obtain ⟨w2, hrun, hS2, hg2⟩ := SW.out.put VK.out (by unfold maxLen; omega)
        simp only [kval, HX.out, HY.out] at hrun
        have S2 := hid hS2
        have B2 := hid (BU.out.grown hg2 BU.out.size (fun j hj => by cases hj; exact hsz))
        have hne : some w.heap.size ≠ u4.ownBlock := RW.out.ne_map SW.out
        have R2 : Hid (Row w2 u.heap.size u4 (A ++ wl ks kind skip k)) := World.ownsRow.kept RW.out hg2 (.inr (fun e => hne e.symm))
        have mlt : w.heap.size < wr.heap.size := S.out.lt
        have y0 : w2.cell? ⟨wr.heap.size, 0, none⟩ = some (.int .i64 x) := by
          rw [World.cell?_of_block (w := W1) (hg2.block wr.heap.size xf (by simp; omega))]; exact xc0
        have y1 : w2.cell? ⟨wr.heap.size, 1, none⟩ = some (.string y) := by
          rw [World.cell?_of_block (w := W1) (hg2.block wr.heap.size xf (by simp; omega))]; exact xc1
        have hskip := HS.out w2 B2.out _ VK.out
        simp only [kval, HX.out, HY.out] at hskip
        have NEW := hid (fun h1 h2 => wl_new (ks := ks) (kind := kind) (skip := skip) NIN.out h1 h2)
        have NOS := hid (fun h => wl_skip (ks := ks) (kind := kind) (skip := skip) (i := k) h)
        have NOK := hid (fun h => wl_kind (ks := ks) (kind := kind) (skip := skip) (i := k) h)
        have YL : Hid (((at0 ks k).2.length : Int) = (y.size : Int)) := by show _ = _; rw [← HY.out, bs_size]
        clear hS2 hg2 hne
        generalize skip (at0 ks k) = sk at hskip NEW NOS
        by_cases hk2 : x = kind
        · have hkx : (x == kind) = true := by simp [hk2]
          cases sk
          · have E2 := hid (NEW.out (by rw [HX.out]; exact hk2) rfl)
            rw [YL.out] at E2
            clear hk2 NEW NOS NOK
            go_wp2
            go_region
            rw [HW.out]
            go_wp2_with (first | (at_builtin; refine wpList_append_own _ rfl _ _ 22 rfl u.heap.size 3 i0 (.int .i64 0) 1 8 Try.underlying22 hi hz0 hz1 hz2 rfl (by decide) _ _ _ rfl (World.ownsRow.alloc R2.out _) ⟨w2.heap.size, 0, none⟩ 1 1 [.int .i64 y.size] rfl rfl (one_new _ _ rfl _ _) (ints_oneCell .i64 [(y.size : Int)]) (by unfold maxLen; simp; omega) (by simp; omega) (by have := B2.out.size; simp; omega) ?_; intro v' w3 ho3 hg3 _) | go_in)
            go_roundw
            case rel => exact ⟨k + 1, by omega, by go_num, by rw [E2.out, ← List.append_assoc]; exact Row.app ho3, by rw [IS.out]; exact R2.out.setAt S2.out hg3, R2.out.below B2.out (Nat.le_refl _) hg3⟩
            case measure => simp [intOf]; omega
          · have E2 := hid (NOS.out rfl)
            clear hk2 NEW NOS NOK
            go_wp2
            go_region
            rw [HW.out]
            go_wp2
            go_roundw
            case rel => exact ⟨k + 1, by omega, by go_num, by rw [E2.out]; exact R2.out, by rw [IS.out]; exact S2.out, B2.out⟩
            case measure => simp [intOf]; omega
        · have hkx : (x == kind) = false := by simp [hk2]
          have E2 := hid (NOK.out (by rw [HX.out]; exact hk2))
          clear hk2 NEW NOS NOK
          go_wp2
          go_region
          rw [HW.out]
          go_wp2
          go_roundw
          case rel => exact ⟨k + 1, by omega, by go_num, by rw [E2.out]; exact R2.out, by rw [IS.out]; exact S2.out, B2.out⟩
          case measure => simp [intOf]; omega
      · rw [hin] at hlook
        have YIN : Hid (at0 ks k ∈ ks.take k) := by show at0 ks k ∈ ks.take k; simpa [inTo] using hin
        have E1 : Hid (inTo ks (k + 1) = inTo ks k) := by
          show _ = _
          rw [IS.out]; funext z
          by_cases e : z = at0 ks k
          · subst e; simp [hin]
          · simp [e]
        have E2 := hid (wl_seen (kind := kind) (skip := skip) YIN.out)
        clear hin
        go_wp2
        go_region
        rw [HW.out]
        go_wp2
        go_roundw
        case rel => exact ⟨k + 1, by omega, by go_num, by rw [E2.out]; exact RW.out, by rw [E1.out]; exact SW.out.mono (by omega), BU.out⟩
        case measure => simp [intOf]; omega
    · obtain rfl : k = n := by omega
      go_wp2
      go_ret
      exact ⟨_, rfl, R.out, B.out⟩

end Go.Proofs.Qxb6605490a.Pat
