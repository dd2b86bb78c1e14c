import Derived.Test.Qxb6605490aPatC
import Derived.Deep.CutRange
import Derived.Deep.DrawnRows
import Derived.Deep.RegionLaw
namespace Go.Proofs.Qxb6605490a.Pat
open Go.ChangeShapes Go.WideShapes Go.ChangeAt Go.RowKit
set_option linter.unusedVariables false
attribute [local go_sem ↓] Go.wp_at_zero Go.wp_at_succ

/-! ### add -/
/-- The row of patterns: two cells each. -/
def Pairs (xs : List Value) (ks : List Key) (n : Nat) : Prop := ∀ i, i < n → xs[i * 2]? = some (.int .i64 (at0 ks i).1) ∧ xs[i * 2 + 1]? = some (.string (bs (at0 ks i).2))
def Ps (w : World) (pb n : Nat) (xs : List Value) : Prop := w.ownsRow 0 52 2 (.slice (some ⟨pb, 0, none⟩) n n) n xs

theorem Ps.ne_row {w : World} {pb n : Nat} {xs : List Value} {C : Nat} {v : Value} {zs : List Int} (h : Ps w pb n xs) (hr : Row w C v zs) : some pb ≠ v.ownBlock := by
  intro e
  rcases h.2 with ⟨h', _⟩ | ⟨g1, cap1, cur1, h1, _, hg1, _⟩
  · cases h'
  · simp only [Value.slice.injEq, Option.some.injEq, Addr.mk.injEq, and_true, true_and] at h1
    obtain ⟨rfl, rfl⟩ := h1
    rcases hr.2 with ⟨h', _⟩ | ⟨g2, cap2, cur2, h2, _, hg2, _⟩
    · rw [h'] at e; cases e
    · rw [h2] at e
      simp only [Value.ownBlock, Option.some.injEq] at e
      rw [e, hg2] at hg1
      simp at hg1

theorem Ps.ne_map {w : World} {pb n : Nat} {xs : List Value} {X M N : Nat} {pre suf : Value} {D : DataW Unit} {A B : List Int} (h : Ps w pb n xs) (hi : Idx w X M pre suf N D A B) : pb ≠ M := by
  rintro rfl
  obtain ⟨es, clock, hb, _⟩ := hi.g
  rcases h.2 with ⟨h', _⟩ | ⟨g1, cap1, cur1, h1, _, hg1, _⟩
  · cases h'
  · simp only [Value.slice.injEq, Option.some.injEq, Addr.mk.injEq, and_true, true_and] at h1
    obtain ⟨rfl, rfl⟩ := h1
    rw [hb] at hg1; cases hg1

theorem Ps.kept {w w' : World} {pb n : Nat} {xs : List Value} {row : Option Nat} (h : Ps w pb n xs) (hg : w.grownBy w' row) (hne : some pb ≠ row) : Ps w' pb n xs := World.ownsRow.kept h hg (.inr hne)

/-- What the index is ahead of an add: fresh, or filled. -/
def Ready (w : World) (X : Nat) (P : Key → List Int) (Q : Key → Bool) (z : Nat) (A B : List Int) (N : Nat) : Prop :=
  ∃ M pre suf D, Idx w X M pre suf N D A B ∧ Rep D P Q z
def Fresh (w : World) (X : Nat) : Prop := w.cell? ⟨X, 0, none⟩ = some (.map none) ∧ w.cell? ⟨X, 1, none⟩ = some (.slice none 0 0) ∧ w.cell? ⟨X, 2, none⟩ = some (.slice none 0 0) ∧ ∀ j, w.frozen? ⟨X, j, none⟩ = false

theorem Fresh.made {w : World} {X : Nat} (h : Fresh w X) : Idx ((w.alloc (.map #[] 0)).setCell ⟨X, 0, none⟩ (.map (some w.heap.size))) X w.heap.size (.slice none 0 0) (.slice none 0 0) 0 (.map []) [] [] := by
  obtain ⟨c0, c1, c2, f⟩ := h
  have hX : X < w.heap.size := block_lt_of_cell c0
  have cX : ∀ j, (w.alloc (.map #[] 0)).cell? ⟨X, j, none⟩ = w.cell? ⟨X, j, none⟩ := fun j => World.cell?_alloc_lt _ _ _ hX
  have fX : ∀ j, (w.alloc (.map #[] 0)).frozen? ⟨X, j, none⟩ = w.frozen? ⟨X, j, none⟩ := fun j => World.frozen?_alloc_old _ _ _ (Nat.ne_of_lt hX)
  have hs := grown_set (w.alloc (.map #[] 0)) ⟨X, 0, none⟩ (.map (some w.heap.size))
  have g0 := World.ownsGroups_made (H := Unit) w Try.prog 52 3 .i64
  refine ⟨World.cell?_setCell_same _ _ _ (by rw [cX]; exact c0), ?_, ?_, fun j => ?_, hX, ?_, ?_, ?_, ?_, .inl rfl⟩
  · rw [World.cell?_setCell_other _ _ _ _ (by simp), cX]; exact c1
  · rw [World.cell?_setCell_other _ _ _ _ (by simp), cX]; exact c2
  · rw [World.frozen?_setCell, fX]; exact f j
  · exact g0.kept hs (by simp; omega) (g0.rowsAbove (fun j hj => by cases hj; simp; omega))
  · exact (World.Shuns_made w _).kept hs (by simp) (by simp; omega)
  · exact World.ownsRow_nil _ _ _ _
  · exact World.ownsRow_nil _ _ _ _

/-! the append's law at the world behind the element's box and the draw -/
theorem app_own {W : World} {C : Nat} {v : Value} {n : Nat} {ys : List Value} (h : W.ownsRow C 3 1 v n ys) (o : Obj) : ((W.alloc o).drew).ownsRow C 3 1 v n ys := (h.alloc o).drew
theorem app_new (W : World) (x : Value) (t : TypeId) : ∀ j u, [x][j]? = some u → ((W.alloc (.cells #[x] t)).drew).cell? ((⟨W.heap.size, 0, none⟩ : Addr).add j) = some u := cell_one_new W x t
theorem app_base {W : World} {M : Nat} (h : M < W.heap.size) (o : Obj) : M + 1 ≤ ((W.alloc o).drew).heap.size := by simp; omega
theorem app_size (W : World) (o : Obj) : ((W.alloc o).drew).heap.size = W.heap.size + 1 := by simp
theorem app_grown {W w3 : World} {o : Obj} {row : Option Nat} (h : ((W.alloc o).drew).grownBy w3 row) : W.grownBy w3 row :=
  (World.grownBy_alloc W o row).trans ⟨h.os, h.tape, h.output, h.size, h.block⟩

theorem grown_below {W w : World} {row : Option Nat} {X : Nat} (h : W.grownBy w row) (hX : X ≤ W.heap.size) (hr : ∀ j, row = some j → X ≤ j) : Below X W w := (Below.refl X W).grown h hX hr

/-- ALL THAT FOLLOWS FROM THE APPEND ONTO THE KEY's SLICE, up to the store into the map. -/
theorem after_put {W w3 : World} {X M pb n bx : Nat} {pre suf v : Value} {N : Nat} {D : DataW Unit} {A B : List Int} {k : Key} {zs : List Int} {q : Int} {g cap : Nat} {xs bxs : List Value} {o : Obj} (h : Idx W X M pre suf N D A B) (hk : Valid k) (hn : N < maxLen)
    (hoi : W.ownsInts (M + 1) 3 .i64 v zs) (hzl : zs.length ≤ N) (hback : W.groupBack Try.prog 46 52 (M + 1) 3 .i64 M N D (kval k) (klit k) v) (hsh : ∀ No : Nat → Prop, W.Shuns M No → ∀ g, v.ownBlock = some g → ¬ No g)
    (hq : (Lit.int .i64 q).wf = true) (hpb : Ps W pb n xs) (hbx : Ps W bx 1 bxs)
    (hgrow : ((W.alloc o).drew).grownBy w3 v.ownBlock) (hown3 : w3.ownsRow (M + 1) 3 1 (.slice (some ⟨g, 0, none⟩) (zs.length + 1) cap) (zs.length + 1) (zs.map (Value.int .i64) ++ [.int .i64 q])) (hat : v.ownBlock = some g ∨ g = W.heap.size + 1) :
    ∃ w4, (Instr.mapUpdate 46 (.map (some M)) (kval k) (.slice (some ⟨g, 0, none⟩) (zs.length + 1) cap)).run Try.prog w3 = .ok () w4 ∧
      Idx w4 X M pre suf (N + 1) (D.put (klit k) (.slice (lits .i64 (zs ++ [q])) [])) A B ∧ w3.cell? ⟨X, 0, none⟩ = some (.map (some M)) ∧ Ps w3 bx 1 bxs ∧ Ps w4 bx 1 bxs ∧ Ps w4 pb n xs ∧ Below X W w4 := by
  have hall := app_grown hgrow
  have vlt : ∀ j, v.ownBlock = some j → M + 1 ≤ j := fun j hj => (World.ownsRow.lt hoi.1 j hj).1
  have hrow : Row W (M + 1) v zs := hoi.1
  obtain ⟨w4, hrun, I4, hg4⟩ := h.put hk hn hoi hzl hback hsh hall hq hown3 (hat.imp id (fun e => by omega))
  have hm := h.mlt
  have hx := h.xm
  have b3 := hbx.kept hall (hbx.ne_row hrow)
  have p3 := hpb.kept hall (hpb.ne_row hrow)
  refine ⟨w4, hrun, I4, ?_, b3, b3.kept hg4 (fun e => hbx.ne_map h (by simpa using e)), p3.kept hg4 (fun e => hpb.ne_map h (by simpa using e)), ?_⟩
  · rw [World.cell?_of_block (w := W) (hall.block X (by omega) (fun e => by have := vlt X e.symm; omega))]; exact h.c0
  · exact (grown_below hall (by omega) (fun j hj => by have := vlt j hj; omega)).grown hg4 (by have := hall.size; omega) (fun j hj => by cases hj; omega)

theorem ps_c0 {w : World} {b : Nat} {x y : Value} (h : Ps w b 1 [x, y]) : w.cell? ⟨b, 0, none⟩ = some x ∧ w.cell? ⟨b, 1, none⟩ = some y :=
  ⟨by rw [h.cellAt 0 (by omega)]; rfl, by rw [h.cellAt 1 (by omega)]; rfl⟩

theorem ps_box (wr : World) (x : Int) (y : ByteArray) : Ps ((wr.alloc (.cells #[.int .i64 x, .string y] 52)).drew) wr.heap.size 1 [.int .i64 x, .string y] :=
  World.ownsRow_lit wr #[.int .i64 x, .string y] 1 (Nat.zero_le _) (by unfold maxLen; omega) rfl

/-- The append onto the prefixes' (suffixes') row, up to the store into the struct. -/
theorem after_pre {W w5 : World} {X M pb n : Nat} {pre suf : Value} {N : Nat} {D : DataW Unit} {A B : List Int} {q : Int} {g cap : Nat} {xs : List Value} {o : Obj} (h : Idx W X M pre suf N D A B) (hpb : Ps W pb n xs) (hX : X < pb)
    (hgrow : ((W.alloc o).drew).grownBy w5 pre.ownBlock) (hown : w5.ownsRow (M + 1) 3 1 (.slice (some ⟨g, 0, none⟩) (A.length + 1) cap) (A.length + 1) (A.map (Value.int .i64) ++ [.int .i64 q])) (hat : pre.ownBlock = some g ∨ g = W.heap.size + 1) :
    w5.cell? ⟨X, 1, none⟩ = some pre ∧ w5.frozen? ⟨X, 1, none⟩ = false ∧ Idx (w5.setCell ⟨X, 1, none⟩ (.slice (some ⟨g, 0, none⟩) (A.length + 1) cap)) X M (.slice (some ⟨g, 0, none⟩) (A.length + 1) cap) suf N D (A ++ [q]) B ∧
      Ps (w5.setCell ⟨X, 1, none⟩ (.slice (some ⟨g, 0, none⟩) (A.length + 1) cap)) pb n xs ∧ Below X W (w5.setCell ⟨X, 1, none⟩ (.slice (some ⟨g, 0, none⟩) (A.length + 1) cap)) := by
  have hall := app_grown hgrow
  have vlt : ∀ j, pre.ownBlock = some j → M + 1 ≤ j := fun j hj => (World.ownsRow.lt h.p j hj).1
  have hm := h.mlt
  have hx := h.xm
  have I5 := h.pre hall hown (hat.imp id (fun e => by omega))
  refine ⟨?_, ?_, I5, ?_, ?_⟩
  · rw [World.cell?_of_block (w := W) (hall.block X (by omega) (fun e => by have := vlt X e.symm; omega))]; exact h.c1
  · have := I5.fx 1
    rw [World.frozen?_setCell] at this; exact this
  · exact (hpb.kept hall (hpb.ne_row h.p)).kept (grown_set _ ⟨X, 1, none⟩ _) (by simp; omega)
  · exact (grown_below (X := X) hall (by omega) (fun j hj => by have := vlt j hj; omega)).setCell (p := ⟨X, 1, none⟩) (Nat.le_refl _) _
theorem after_suf {W w5 : World} {X M pb n : Nat} {pre suf : Value} {N : Nat} {D : DataW Unit} {A B : List Int} {q : Int} {g cap : Nat} {xs : List Value} {o : Obj} (h : Idx W X M pre suf N D A B) (hpb : Ps W pb n xs) (hX : X < pb)
    (hgrow : ((W.alloc o).drew).grownBy w5 suf.ownBlock) (hown : w5.ownsRow (M + 1) 3 1 (.slice (some ⟨g, 0, none⟩) (B.length + 1) cap) (B.length + 1) (B.map (Value.int .i64) ++ [.int .i64 q])) (hat : suf.ownBlock = some g ∨ g = W.heap.size + 1) :
    w5.cell? ⟨X, 2, none⟩ = some suf ∧ w5.frozen? ⟨X, 2, none⟩ = false ∧ Idx (w5.setCell ⟨X, 2, none⟩ (.slice (some ⟨g, 0, none⟩) (B.length + 1) cap)) X M pre (.slice (some ⟨g, 0, none⟩) (B.length + 1) cap) N D A (B ++ [q]) ∧
      Ps (w5.setCell ⟨X, 2, none⟩ (.slice (some ⟨g, 0, none⟩) (B.length + 1) cap)) pb n xs ∧ Below X W (w5.setCell ⟨X, 2, none⟩ (.slice (some ⟨g, 0, none⟩) (B.length + 1) cap)) := by
  have hall := app_grown hgrow
  have vlt : ∀ j, suf.ownBlock = some j → M + 1 ≤ j := fun j hj => (World.ownsRow.lt h.s j hj).1
  have hm := h.mlt
  have hx := h.xm
  have I5 := h.suf hall hown (hat.imp id (fun e => by omega))
  refine ⟨?_, ?_, I5, ?_, ?_⟩
  · rw [World.cell?_of_block (w := W) (hall.block X (by omega) (fun e => by have := vlt X e.symm; omega))]; exact h.c2
  · have := I5.fx 2
    rw [World.frozen?_setCell] at this; exact this
  · exact (hpb.kept hall (hpb.ne_row h.s)).kept (grown_set _ ⟨X, 2, none⟩ _) (by simp; omega)
  · exact (grown_below (X := X) hall (by omega) (fun j hj => by have := vlt j hj; omega)).setCell (p := ⟨X, 2, none⟩) (Nat.le_refl _) _

theorem ready_new {w' : World} {X M : Nat} {pre suf : Value} {N k z : Nat} {D : DataW Unit} {A B zs : List Int} {P0 : Key → List Int} {Q0 : Key → Bool} {q : Int} {ks : List Key} (hrep : Rep D (addP P0 q ks k) (addQ Q0 ks k) (z + cn ks Q0 k)) (hv : Valid (at0 ks k)) (hk : k < ks.length)
    (ez : zs = addP P0 q ks k (at0 ks k)) (he : ends zs q = false) (hi : Idx w' X M pre suf (N + k + 1) (D.put (klit (at0 ks k)) (.slice (lits .i64 (zs ++ [q])) [])) A B) :
    Ready w' X (addP P0 q ks (k + 1)) (addQ Q0 ks (k + 1)) (z + cn ks Q0 (k + 1)) A B (N + (k + 1)) := by
  obtain ⟨e1, e2, e3, _⟩ := add_new (Q0 := Q0) hk (by rw [← ez]; exact he)
  refine ⟨M, pre, suf, _, hi, ?_⟩
  rw [e1, e2, ← e3 z, ← ez]
  exact hrep.put hv _

theorem row_form {w : World} {C : Nat} {v : Value} {xs : List Int} (h : Row w C v xs) : ∃ a c, v = .slice a xs.length c := by
  rcases h.2 with ⟨h', h0⟩ | ⟨g, cap, cur, h', _⟩
  · exact ⟨none, 0, by rw [h', h0]⟩
  · exact ⟨_, _, h'⟩

set_option maxHeartbeats 2000000 in
theorem add_any (X pb n : Nat) (ks : List Key) (xs : List Value) (q : Int) (P0 : Key → List Int) (Q0 : Key → Bool) (z : Nat) (A B : List Int) (N : Nat) (w : World) (hn : n ≤ 4096) (hN : N ≤ 4096) (hA : A.length ≤ 4096) (hB : B.length ≤ 4096)
    (hl : ks.length = n) (hv : ∀ k ∈ ks, Valid k) (hq : (Lit.int .i64 q).wf = true) (hPQ : ∀ x, P0 x ≠ [] → Q0 x = true) (hX : X < pb) (hp : Ps w pb n xs) (hpx : Pairs xs ks n)
    (hr : (Fresh w X ∧ P0 = (fun _ => []) ∧ Q0 = (fun _ => false) ∧ z = 0 ∧ A = [] ∧ B = [] ∧ N = 0) ∨ Ready w X P0 Q0 z A B N) :
    Calls Try.prog 23 #[.pointer (some ⟨X, 0, none⟩), .slice (some ⟨pb, 0, none⟩) n n, .int .i64 q] w fun e w' => e = .returned (.tuple #[]) ∧
      Ready w' X (addP P0 q ks n) (addQ Q0 ks n) (z + cn ks Q0 n) (A ++ wl ks 2 (fun x => ends (P0 x) q) n) (B ++ wl ks 3 (fun x => ends (P0 x) q) n) (N + n) ∧ Below X w w' := by
  have HR := hid hr
  have HP := hid hp
  have HPX := hid hpx
  have HL := hid hl
  have HV := hid hv
  have HQ := hid hq
  have PQ := hid hPQ
  have hpl : pb < w.heap.size := row_lt hp
  clear hr hp hpx hl hv hq hPQ
  have qe := fun (w : World) (r : Option Nat) => run_eql_map_nil (P := Try.prog) w 46 52 22 r Try.underlying46
  obtain ⟨i0, hi, hz0, hz1, hz2⟩ := info_parts info3
  go_enter Try.func23, Try.ntmps23
  go_step
  go_step
  go_cut [] from 9 (fun wr => Ready wr X P0 Q0 z A B N ∧ Ps wr pb n xs ∧ Below X w wr)
  case first =>
    rcases HR.out with ⟨hF, e1, e2, e3, e4, e5, e6⟩ | ⟨M, pre, suf, D, hI, hRep⟩
    · have RR : Hid (Ready ((w.alloc (.map #[] 0)).setCell ⟨X, 0, none⟩ (.map (some w.heap.size))) X P0 Q0 z A B N) := by
        subst e1 e2 e3 e4 e5 e6
        exact ⟨_, _, _, _, hF.made, Rep.empty⟩
      have PP : Hid (Ps ((w.alloc (.map #[] 0)).setCell ⟨X, 0, none⟩ (.map (some w.heap.size))) pb n xs) :=
        Ps.kept (World.ownsRow.alloc HP.out _) (grown_set _ ⟨X, 0, none⟩ _) (by simp; omega)
      clear e1 e2 e3 e4 e5 e6
      have hmm := @run_makeMap Try.prog
      obtain ⟨c0, c1, c2, fx⟩ := hF
      have fx0 := fx 0
      clear fx
      have hXw : X < w.heap.size := by omega
      rw [World.setCell_alloc_past _ X 0 _ hXw] at RR PP
      go_wp2
      go_meet
      case rel => exact ⟨RR.out, PP.out, ((Below.refl X w).setCell (p := ⟨X, 0, none⟩) (Nat.le_refl _) _).alloc (by simp [World.setCell]; omega) _⟩
    · have RR : Hid (Ready w X P0 Q0 z A B N) := ⟨M, pre, suf, D, hI, hRep⟩
      have c0 := hI.c0
      clear hI hRep
      go_wp2
      go_meet
      case rel => exact ⟨RR.out, HP.out, Below.refl _ _⟩
  case rest =>
    obtain ⟨hRR, hPP, hBB⟩ := hcut
    have RR := hid hRR
    have PP := hid hPP
    have BB := hid hBB
    clear hRR hPP hBB
    go_wp2
    go_loopw [20] (fun i wr => ∃ k : Nat, k ≤ n ∧ i = .int .i64 k ∧ Ready wr X (addP P0 q ks k) (addQ Q0 ks k) (z + cn ks Q0 k) (A ++ wl ks 2 (fun x => ends (P0 x) q) k) (B ++ wl ks 3 (fun x => ends (P0 x) q) k) (N + k) ∧ Ps wr pb n xs ∧ Below X w wr) (fun i _ => n - (intOf i).toNat)
    case atStart => exact ⟨0, Nat.zero_le _, rfl, by rw [addP_zero, addQ_zero]; simpa [wl, cn] using RR.out, PP.out, BB.out⟩
    case round =>
      clear RR PP BB
      obtain ⟨k, hk, rfl, hRR, hPP, hBB⟩ := hrel
      have PP := hid hPP
      have BB := hid hBB
      by_cases hlt : k < n
      · obtain ⟨M, pre, suf, D, hI, hRep⟩ := hRR
        obtain ⟨A', hA'⟩ : ∃ A', A ++ wl ks 2 (fun x => ends (P0 x) q) k = A' := ⟨_, rfl⟩
        obtain ⟨B', hB'⟩ : ∃ B', B ++ wl ks 3 (fun x => ends (P0 x) q) k = B' := ⟨_, rfl⟩
        rw [hA', hB'] at hI
        have hAl : A'.length ≤ 8192 := by rw [← hA']; have := wl_len ks 2 (fun x => ends (P0 x) q) k; simp; omega
        have hBl : B'.length ≤ 8192 := by rw [← hB']; have := wl_len ks 3 (fun x => ends (P0 x) q) k; simp; omega
        have HA := hid hA'
        have HB := hid hB'
        clear hA' hB'
        have hlt' : (k : Int) < (n : Int) := by omega
        have HK : Hid (k < ks.length) := by show k < ks.length; rw [HL.out]; exact hlt
        have VK : Hid (Valid (at0 ks k)) := HV.out _ (at0_mem HK.out)
        obtain ⟨t0, t1⟩ := HPX.out k hlt
        have p0 : wr.cell? ⟨pb, k * 2, none⟩ = some (.int .i64 (at0 ks k).1) := by rw [hPP.cellAt _ (by omega)]; exact t0
        have p1 : wr.cell? ⟨pb, k * 2 + 1, none⟩ = some (.string (bs (at0 ks k).2)) := by rw [hPP.cellAt _ (by omega)]; exact t1
        have hpw : pb < wr.heap.size := row_lt hPP
        have hXw : X < wr.heap.size := by omega
        have X0 := hI.c0
        have X1 := hid (ps_box wr (at0 ks k).1 (bs (at0 ks k).2))
        clear t0 t1
        -- the box: a world of its own
        obtain ⟨W2, hW2⟩ : ∃ W2, (wr.alloc (.cells #[.int .i64 (at0 ks k).1, .string (bs (at0 ks k).2)] 52)).drew = W2 := ⟨_, rfl⟩
        have BW : Hid (Below wr.heap.size wr W2) := by rw [← hW2]; exact ((Below.refl _ _).alloc (Nat.le_refl _) _).drew
        have IW := hI.below BW.out
        have PW : Hid (Ps W2 pb n xs) := Ps.kept hPP (below_grown BW.out none) (by simp)
        have BX := hid (hBB.trans (BW.out.mono (by omega)))
        obtain ⟨v, zs, hlook, hat, hoi, hzl, hback, hshn⟩ := look_groups IW.g (by unfold maxLen; omega) VK.out
        have EZ := hid (hRep.read VK.out hat hoi)
        have HREP := hid hRep
        have HI := hid IW
        have HOI := hid hoi
        have HBK := hid hback
        have HSH := hid hshn
        have HW := hid hW2
        rw [hW2] at X1
        rw [← hW2] at hlook
        obtain ⟨xc0, xc1⟩ := ps_c0 X1.out
        simp only [kval] at hlook
        clear hI hRep hat hoi hback hshn hW2 IW hPP hBB
        generalize hx : (at0 ks k).1 = x at p0 HW xc0 hlook X1
        generalize hy : bs (at0 ks k).2 = y at p1 HW xc1 hlook X1
        have HX := hid hx
        have HY := hid hy
        clear hx hy
        by_cases hend : ends zs q = true
        · -- the key ends in this place already
          have AS := hid (add_skip HK.out PQ.out (by rw [← EZ.out]; exact hend))
          have hzp : 0 < zs.length := by
            cases zs with
            | nil => rw [ends_nil] at hend; cases hend
            | cons a l => simp
          obtain ⟨g, cap, rfl, hg1, hg2⟩ := World.ownsRow.form HOI.out.1 hzp
          have cl : W2.cell? ⟨g, zs.length - 1, none⟩ = some (.int .i64 (zs.getD (zs.length - 1) 0)) := by
            rw [HOI.out.1.cellAt _ (by omega)]
            simp [List.getElem?_map, List.getD, List.getElem?_eq_getElem (show zs.length - 1 < zs.length by omega)]
          have hlast : (zs.getD (zs.length - 1) 0 == q) = true := by rw [← ends_get hzp]; exact hend
          generalize zs.getD (zs.length - 1) 0 = lz at cl hlast
          have hzp' : (0 : Int) < (zs.length : Int) := by omega
          clear hend
          go_wp2
          go_region
          rw [HW.out]
          go_wp2
          go_roundw
          case rel =>
            refine ⟨k + 1, by omega, by go_num, ?_, PW.out, BX.out⟩
            obtain ⟨e1, e2, e3, e4⟩ := AS.out
            rw [e1, e2, e3, e4 2, e4 3]
            rw [HA.out, HB.out]
            exact ⟨M, pre, suf, D, HI.out.mono (by omega), HREP.out⟩
          case measure => simp [intOf]; omega
        · -- it does not: the place is put behind
          have hend' : ends zs q = false := by simpa using hend
          have AN := hid (add_new (Q0 := Q0) HK.out (by rw [← EZ.out]; exact hend'))
          obtain ⟨va, vc, hva⟩ : ∃ va vc, v = .slice va zs.length vc := by
            rcases HOI.out.1.2 with ⟨h', h0⟩ | ⟨g, cap, cur, h', _⟩
            · exact ⟨none, 0, by rw [h', h0]⟩
            · exact ⟨_, _, h'⟩
          have hXM := HI.out.xm
          have hMW := HI.out.mlt
          have XW0 := HI.out.c0
          have HE := hid hend'
          by_cases hz : zs.length = 0
          · obtain rfl : zs = [] := List.eq_nil_of_length_eq_zero hz
            rw [hva] at hlook
            clear hend hz hend'
            go_wp2
            go_region
            rw [HW.out]
            go_wp2
            rw [hva] at HOI HBK HSH
            go_region_held3 (fun w' => w'.cell? ⟨X, 0, none⟩ = some (.map (some M)) ∧ w'.cell? ⟨wr.heap.size, 0, none⟩ = some (.int .i64 x) ∧ w'.cell? ⟨wr.heap.size, 1, none⟩ = some (.string y)) (first | go_keep | (refine ⟨?_, ?_, ?_⟩ <;> assumption)) ((refine step_append_lies _ (by rfl) _ _ _ (by rfl) (M + 1) 3 i0 (.int .i64 0) 1 8 Try.underlying22 hi hz0 hz1 hz2 rfl (by decide) (.slice va 0 vc) 0 [] (by rfl) (app_own HOI.out.1 _) ⟨W2.heap.size, 0, none⟩ 1 1 [.int .i64 q] (by rfl) rfl (app_new W2 _ _) (ints_oneCell .i64 [q]) (by decide) (by unfold maxLen; omega) (by omega) (app_base hMW _) (W2.heap.size + 1) (app_size _ _) ?_; intro g cap w3 hown3 hgrow3 hat3 hlt3; obtain ⟨w4, hrun4, I4, s3a, s3b, s4b, P4, B4⟩ := after_put HI.out VK.out (by unfold maxLen; omega) HOI.out hzl HBK.out HSH.out HQ.out PW.out X1.out hgrow3 hown3 hat3; simp only [kval, HX.out, HY.out, List.length_nil, Nat.zero_add] at hrun4; obtain ⟨s3c, s3d⟩ := ps_c0 s3b; obtain ⟨s4c, s4d⟩ := ps_c0 s4b; have s4a := I4.c0))
            clear hrun4 hgrow3 hown3 hat3 hlt3 s3a s3b s3c s3d s4b hlook p0 p1 xc0 xc1 X0 XW0
            have hxl : X < w4.heap.size := by have := I4.mlt; omega
            have hbl : wr.heap.size < w4.heap.size := block_lt_of_cell s4c
            have BF := hid (BX.out.trans B4)
            have cX1 := I4.c1
            have cX2 := I4.c2
            by_cases hx2 : x = 2
            · subst hx2
              obtain ⟨pa, pc, rfl⟩ := row_form I4.p
              clear cX2
              go_wp2
              go_region_law ((refine step_append_lies _ (by rfl) _ _ _ (by rfl) (M + 1) 3 i0 (.int .i64 0) 1 8 Try.underlying22 hi hz0 hz1 hz2 rfl (by decide) (.slice pa A'.length pc) A'.length (A'.map (Value.int .i64)) (by rfl) (app_own I4.p _) ⟨w4.heap.size, 0, none⟩ 1 1 [.int .i64 (y.size : Int)] (by rfl) rfl (app_new w4 _ _) (ints_oneCell .i64 [(y.size : Int)]) (by decide) (by unfold maxLen; omega) (by omega) (app_base I4.mlt _) (w4.heap.size + 1) (app_size _ _) ?_; intro g5 cap5 w5 hown5 hgrow5 hat5 hlt5; obtain ⟨t1, t2, I5, P5, B5⟩ := after_pre I4 P4 hX hgrow5 hown5 hat5))
              all_goals go_wp2
              all_goals refine ⟨⟨k + 1, by omega, by go_num, ?_, P5, BF.out.trans B5⟩, by simp [intOf]; omega⟩
              all_goals (rw [AN.out.2.2.2 2 HX.out, wl_kind (kind := 3) (by rw [HX.out]; decide), ← List.append_assoc, HA.out, HB.out, ← bs_size, HY.out]; exact ready_new HREP.out VK.out HK.out EZ.out HE.out I5)
            · by_cases hx3 : x = 3
              · subst hx3
                obtain ⟨pa, pc, rfl⟩ := row_form I4.s
                clear cX1
                go_wp2
                go_region_law ((refine step_append_lies _ (by rfl) _ _ _ (by rfl) (M + 1) 3 i0 (.int .i64 0) 1 8 Try.underlying22 hi hz0 hz1 hz2 rfl (by decide) (.slice pa B'.length pc) B'.length (B'.map (Value.int .i64)) (by rfl) (app_own I4.s _) ⟨w4.heap.size, 0, none⟩ 1 1 [.int .i64 (y.size : Int)] (by rfl) rfl (app_new w4 _ _) (ints_oneCell .i64 [(y.size : Int)]) (by decide) (by unfold maxLen; omega) (by omega) (app_base I4.mlt _) (w4.heap.size + 1) (app_size _ _) ?_; intro g5 cap5 w5 hown5 hgrow5 hat5 hlt5; obtain ⟨t1, t2, I5, P5, B5⟩ := after_suf I4 P4 hX hgrow5 hown5 hat5))
                all_goals go_wp2
                all_goals refine ⟨⟨k + 1, by omega, by go_num, ?_, P5, BF.out.trans B5⟩, by simp [intOf]; omega⟩
                all_goals (rw [AN.out.2.2.2 3 HX.out, wl_kind (kind := 2) (by rw [HX.out]; decide), ← List.append_assoc, HA.out, HB.out, ← bs_size, HY.out]; exact ready_new HREP.out VK.out HK.out EZ.out HE.out I5)
              · clear cX1 cX2
                go_wp2
                refine ⟨⟨k + 1, by omega, by go_num, ?_, P4, BF.out⟩, by simp [intOf]; omega⟩
                rw [wl_kind (kind := 2) (by rw [HX.out]; exact hx2), wl_kind (kind := 3) (by rw [HX.out]; exact hx3), HA.out, HB.out]; exact ready_new HREP.out VK.out HK.out EZ.out HE.out I4
          · have hzp : 0 < zs.length := by omega
            obtain ⟨g0, cap0, rfl, hg1, hg2⟩ := World.ownsRow.form HOI.out.1 hzp
            have cl : W2.cell? ⟨g0, zs.length - 1, none⟩ = some (.int .i64 (zs.getD (zs.length - 1) 0)) := by
              rw [HOI.out.1.cellAt _ (by omega)]
              simp [List.getElem?_map, List.getD, List.getElem?_eq_getElem (show zs.length - 1 < zs.length by omega)]
            have hlast : (zs.getD (zs.length - 1) 0 == q) = false := by rw [← ends_get hzp]; exact hend'
            generalize zs.getD (zs.length - 1) 0 = lz at cl hlast
            have hzp' : (0 : Int) < (zs.length : Int) := by omega
            clear hend hz hend' hva
            go_wp2
            go_region
            rw [HW.out]
            go_wp2
            go_region_held3 (fun w' => w'.cell? ⟨X, 0, none⟩ = some (.map (some M)) ∧ w'.cell? ⟨wr.heap.size, 0, none⟩ = some (.int .i64 x) ∧ w'.cell? ⟨wr.heap.size, 1, none⟩ = some (.string y)) (first | go_keep | (refine ⟨?_, ?_, ?_⟩ <;> assumption)) ((refine step_append_lies _ (by rfl) _ _ _ (by rfl) (M + 1) 3 i0 (.int .i64 0) 1 8 Try.underlying22 hi hz0 hz1 hz2 rfl (by decide) (.slice (some ⟨g0, 0, none⟩) zs.length cap0) zs.length (zs.map (Value.int .i64)) (by rfl) (app_own HOI.out.1 _) ⟨W2.heap.size, 0, none⟩ 1 1 [.int .i64 q] (by rfl) rfl (app_new W2 _ _) (ints_oneCell .i64 [q]) (by decide) (by unfold maxLen; omega) (by omega) (app_base hMW _) (W2.heap.size + 1) (app_size _ _) ?_; intro g cap w3 hown3 hgrow3 hat3 hlt3; obtain ⟨w4, hrun4, I4, s3a, s3b, s4b, P4, B4⟩ := after_put HI.out VK.out (by unfold maxLen; omega) HOI.out hzl HBK.out HSH.out HQ.out PW.out X1.out hgrow3 hown3 hat3; simp only [kval, HX.out, HY.out] at hrun4; obtain ⟨s3c, s3d⟩ := ps_c0 s3b; obtain ⟨s4c, s4d⟩ := ps_c0 s4b; have s4a := I4.c0))
            clear hrun4 hgrow3 hown3 hat3 hlt3 s3a s3b s3c s3d s4b hlook p0 p1 xc0 xc1 X0 XW0 cl hlast
            have hxl : X < w4.heap.size := by have := I4.mlt; omega
            have hbl : wr.heap.size < w4.heap.size := block_lt_of_cell s4c
            have BF := hid (BX.out.trans B4)
            have cX1 := I4.c1
            have cX2 := I4.c2
            by_cases hx2 : x = 2
            · subst hx2
              obtain ⟨pa, pc, rfl⟩ := row_form I4.p
              clear cX2
              go_wp2
              go_region_law ((refine step_append_lies _ (by rfl) _ _ _ (by rfl) (M + 1) 3 i0 (.int .i64 0) 1 8 Try.underlying22 hi hz0 hz1 hz2 rfl (by decide) (.slice pa A'.length pc) A'.length (A'.map (Value.int .i64)) (by rfl) (app_own I4.p _) ⟨w4.heap.size, 0, none⟩ 1 1 [.int .i64 (y.size : Int)] (by rfl) rfl (app_new w4 _ _) (ints_oneCell .i64 [(y.size : Int)]) (by decide) (by unfold maxLen; omega) (by omega) (app_base I4.mlt _) (w4.heap.size + 1) (app_size _ _) ?_; intro g5 cap5 w5 hown5 hgrow5 hat5 hlt5; obtain ⟨t1, t2, I5, P5, B5⟩ := after_pre I4 P4 hX hgrow5 hown5 hat5))
              all_goals go_wp2
              all_goals refine ⟨⟨k + 1, by omega, by go_num, ?_, P5, BF.out.trans B5⟩, by simp [intOf]; omega⟩
              all_goals (rw [AN.out.2.2.2 2 HX.out, wl_kind (kind := 3) (by rw [HX.out]; decide), ← List.append_assoc, HA.out, HB.out, ← bs_size, HY.out]; exact ready_new HREP.out VK.out HK.out EZ.out HE.out I5)
            · by_cases hx3 : x = 3
              · subst hx3
                obtain ⟨pa, pc, rfl⟩ := row_form I4.s
                clear cX1
                go_wp2
                go_region_law ((refine step_append_lies _ (by rfl) _ _ _ (by rfl) (M + 1) 3 i0 (.int .i64 0) 1 8 Try.underlying22 hi hz0 hz1 hz2 rfl (by decide) (.slice pa B'.length pc) B'.length (B'.map (Value.int .i64)) (by rfl) (app_own I4.s _) ⟨w4.heap.size, 0, none⟩ 1 1 [.int .i64 (y.size : Int)] (by rfl) rfl (app_new w4 _ _) (ints_oneCell .i64 [(y.size : Int)]) (by decide) (by unfold maxLen; omega) (by omega) (app_base I4.mlt _) (w4.heap.size + 1) (app_size _ _) ?_; intro g5 cap5 w5 hown5 hgrow5 hat5 hlt5; obtain ⟨t1, t2, I5, P5, B5⟩ := after_suf I4 P4 hX hgrow5 hown5 hat5))
                all_goals go_wp2
                all_goals refine ⟨⟨k + 1, by omega, by go_num, ?_, P5, BF.out.trans B5⟩, by simp [intOf]; omega⟩
                all_goals (rw [AN.out.2.2.2 3 HX.out, wl_kind (kind := 2) (by rw [HX.out]; decide), ← List.append_assoc, HA.out, HB.out, ← bs_size, HY.out]; exact ready_new HREP.out VK.out HK.out EZ.out HE.out I5)
              · clear cX1 cX2
                go_wp2
                refine ⟨⟨k + 1, by omega, by go_num, ?_, P4, BF.out⟩, by simp [intOf]; omega⟩
                rw [wl_kind (kind := 2) (by rw [HX.out]; exact hx2), wl_kind (kind := 3) (by rw [HX.out]; exact hx3), HA.out, HB.out]; exact ready_new HREP.out VK.out HK.out EZ.out HE.out I4
      · obtain rfl : k = n := by omega
        have RR := hid hRR
        clear hRR hPP hBB
        go_wp2
        go_end0
        exact ⟨rfl, RR.out, BB.out⟩

end Go.Proofs.Qxb6605490a.Pat
