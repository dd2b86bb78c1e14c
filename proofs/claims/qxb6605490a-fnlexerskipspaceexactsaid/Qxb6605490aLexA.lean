import Derived.Test.Qxb6605490aRows
import Derived.WalkKit
import Derived.ProofKit
import Derived.Below
import Derived.OpenShut
import Derived.WalkSpells
import Derived.WalkLawsBesides
import Derived.Deep.QuietTactic
import Derived.BigQuiet
import Derived.Deep.LoopGhost
namespace Go.Proofs.Qxb6605490a.Lex
open Go.ChangeShapes Go.WideShapes Go.ChangeAt Go.RowKit

theorem info5 : (Try.prog.info? 5).map (fun i => (i.zero, i.size, i.bytes)) = some (some (.int .u8 0), 1, 1) := by kernel_rfl

/-- zzBytes_FnLexerSkipSpaceExact -/
def bytesOk (n : Nat) : Bool := decide (n ≤ 1048576)

theorem bytes_yes (a : Option Addr) (n c : Nat) (x y z : Int) (w : World) (h : n ≤ 1048576) :
    Calls Try.prog 19 #[.slice a n c, .int .i64 x, .int .i64 y, .int .i64 z] w fun e w' => e = .returned (.bool true) ∧ w' = w := by
  go_enter Try.func19, Try.ntmps19
  go_wp2
  go_ret
  exact ⟨rfl, rfl⟩

theorem bytes_no (a : Option Addr) (n c : Nat) (x y z : Int) (w : World) (h : 1048576 < n) :
    Calls Try.prog 19 #[.slice a n c, .int .i64 x, .int .i64 y, .int .i64 z] w fun e w' => e = .returned (.bool false) ∧ w' = w := by
  go_enter Try.func19, Try.ntmps19
  go_wp2
  go_ret
  exact ⟨rfl, rfl⟩

/-- zzIsJSONSpace -/
def spB (c : Int) : Bool := c == 32 || c == 9 || c == 13 || c == 10

theorem space_any (c : Int) (w : World) :
    Calls Try.prog 22 #[.int .u8 c] w fun e w' => e = .returned (.bool (spB c)) ∧ w' = w := by
  go_enter Try.func22, Try.ntmps22
  go_wp2
  all_goals (go_ret; exact ⟨by simp [spB, *], rfl⟩)

/-- WHAT A ROW OF BYTES IS: n cells from 'a' on hold the numbers 'zs'. -/
def Cells (w : World) (b off n : Nat) (zs : List Int) : Prop := ∀ i, i < n → w.cell? ⟨b, off + i, none⟩ = some (.int .u8 (zs.getD i 0))

theorem clone_nil (w : World) :
    Calls Try.prog 20 #[.slice none 0 0] w fun e w' => e = .returned (.slice none 0 0) ∧ w' = w := by
  have q := fun (w : World) (a : Option Addr) (n c n' c' : Nat) => Lib.run_eql_slice_nil (P := Try.prog) w 40 5 a n c n' c' Try.underlying40
  go_enter Try.func20, Try.ntmps20
  go_wp2
  go_ret
  exact ⟨rfl, rfl⟩

/-- WHAT THE CLONE's LOOP HOLDS behind k rounds. -/
def Done (w wr : World) (n k : Nat) (zs : List Int) : Prop :=
  (∃ xs, wr.ownsRow w.heap.size 5 1 (.slice (some ⟨w.heap.size, 0, none⟩) n n) n xs ∧ ∀ j, j < k → xs[j]? = some (.int .u8 (zs.getD j 0))) ∧ Below w.heap.size w wr

theorem Done.zero {w wr : World} {n : Nat} {zs : List Int} {xs : List Value} (h : wr.ownsRow w.heap.size 5 1 (.slice (some ⟨w.heap.size, 0, none⟩) n n) n xs) (hg : w.grownBy wr none) : Done w wr n 0 zs :=
  ⟨⟨xs, h, fun j hj => absurd hj (by omega)⟩, (Below.refl _ _).grown hg (Nat.le_refl _) (by simp)⟩

theorem Done.next {w wr : World} {n k : Nat} {zs : List Int} (h : Done w wr n k zs) (hk : k < n) : Done w (wr.setCell ⟨w.heap.size, k, none⟩ (.int .u8 (zs.getD k 0))) n (k + 1) zs := by
  obtain ⟨⟨xs, ho, hx⟩, hb⟩ := h
  refine ⟨⟨_, (ho.stored k _).1, fun j hj => ?_⟩, hb.setCell (Nat.le_refl _) _⟩
  have hl := ho.1
  by_cases e : j = k
  · subst e; rw [List.getElem?_set_self (by omega)]
  · rw [List.getElem?_set_ne (by omega)]; exact hx j (by omega)

theorem Done.frozen {w wr : World} {n k : Nat} {zs : List Int} (h : Done w wr n k zs) (j : Nat) : wr.frozen? ⟨w.heap.size, j, none⟩ = false := by
  obtain ⟨⟨xs, ho, hx⟩, hb⟩ := h
  exact ho.frozenAt j

theorem Done.old {w wr : World} {n k : Nat} {zs : List Int} (h : Done w wr n k zs) (hk : k < n) : ∃ v, wr.cell? ⟨w.heap.size, k, none⟩ = some v := by
  obtain ⟨⟨xs, ho, hx⟩, hb⟩ := h
  have hl := ho.1
  exact ⟨xs[k]'(by omega), by rw [ho.cellAt k (by omega), List.getElem?_eq_getElem]⟩

theorem Done.full {w wr : World} {n : Nat} {zs : List Int} (h : Done w wr n n zs) : Cells wr w.heap.size 0 n zs ∧ w.heap.size < wr.heap.size ∧ Below w.heap.size w wr := by
  obtain ⟨⟨xs, ho, hx⟩, hb⟩ := h
  refine ⟨fun i hi => ?_, ?_, hb⟩
  · rw [Nat.zero_add, ho.cellAt i (by omega)]; exact hx i hi
  · rcases ho.2 with ⟨h', _⟩ | ⟨g', cap', cur, h', _, hg, _⟩
    · simp at h'
    · simp only [Value.slice.injEq, Option.some.injEq, Addr.mk.injEq, and_true, true_and] at h'
      obtain ⟨rfl, rfl⟩ := h'
      obtain ⟨h1, _⟩ := Array.getElem?_eq_some_iff.1 hg
      exact h1

theorem clone_some (b off n c : Nat) (zs : List Int) (w : World) (hn : n ≤ 1048576) (hb : b < w.heap.size) (hc : Cells w b off n zs) :
    Calls Try.prog 20 #[.slice (some ⟨b, off, none⟩) n c] w fun e w' => e = .returned (.slice (some ⟨w.heap.size, 0, none⟩) n n) ∧ Cells w' w.heap.size 0 n zs ∧ w.heap.size < w'.heap.size ∧ Below w.heap.size w w' := by
  have q := fun (w : World) (a : Option Addr) (n c n' c' : Nat) => Lib.run_eql_slice_nil (P := Try.prog) w 40 5 a n c n' c' Try.underlying40
  obtain ⟨i0, hi, hz0, hz1, hz2⟩ := info_parts info5
  go_enter Try.func20, Try.ntmps20
  go_wp2_with (first | (at_make; refine wpList_make_full _ rfl _ _ 40 rfl w.heap.size 5 i0 (.int .u8 0) 1 Try.underlying40 hi hz0 hz1 _ _ _ _ n rfl rfl rfl rfl (by rw [hz2]; omega) (by unfold maxLen; omega) (Nat.le_refl _) ?_; intro w1 ho hg; have D := Done.zero (zs := zs) ho hg; clear ho hg) | go_in)
  go_loopw [4] (fun i wr => ∃ k : Nat, k ≤ n ∧ i = .int .i64 k ∧ Done w wr n k zs) (fun i _ => n - (intOf i).toNat)
  case atStart => exact ⟨0, Nat.zero_le _, rfl, D⟩
  case round =>
    obtain ⟨k, hk, rfl, D⟩ := hrel
    by_cases hlt : k < n
    · have hcx : wr.cell? ⟨b, off + k, none⟩ = some (.int .u8 (zs.getD k 0)) := (D.2.cell (by exact hb)).trans (hc k hlt)
      obtain ⟨v, hv⟩ := D.old hlt
      have hf := D.frozen k
      have D' := D.next hlt
      go_wp2
      go_roundw
      case rel => exact ⟨k + 1, by omega, by go_num, by simpa using D'⟩
      case measure => simp [intOf]; omega
    · obtain rfl : k = n := by omega
      have F := D.full
      go_wp2
      go_ret
      exact ⟨rfl, F⟩

/-! ### skipSpace -/
/-- How many line feeds lie in the m cells from 'off' on. -/
def nl (zs : List Int) (off : Nat) : Nat → Nat
  | 0 => 0
  | m + 1 => nl zs off m + if zs.getD (off + m) 0 = 10 then 1 else 0

/-- Is 's' the line start behind the m cells from 'off' on, 's0' being that ahead of them? -/
def startB (zs : List Int) (off : Nat) (s0 : Int) : Nat → Int
  | 0 => s0
  | m + 1 => if zs.getD (off + m) 0 = 10 then ((off + m + 1 : Nat) : Int) else startB zs off s0 m

/-- The lexer's four cells at block L. -/
structure LexAt (w : World) (L : Nat) (a : Option Addr) (n c : Nat) (off line st : Int) : Prop where
  c0 : w.cell? ⟨L, 0, none⟩ = some (.slice a n c)
  c1 : w.cell? ⟨L, 1, none⟩ = some (.int .i64 off)
  c2 : w.cell? ⟨L, 2, none⟩ = some (.int .i64 line)
  c3 : w.cell? ⟨L, 3, none⟩ = some (.int .i64 st)
  f : ∀ j, w.frozen? ⟨L, j, none⟩ = false

theorem LexAt.drewN {w : World} {L : Nat} {a : Option Addr} {n c : Nat} {off line st : Int} (h : LexAt w L a n c off line st) (q : Nat) : LexAt (w.drewN q) L a n c off line st :=
  ⟨h.c0, h.c1, h.c2, h.c3, h.f⟩

theorem LexAt.set1 {w : World} {L : Nat} {a : Option Addr} {n c : Nat} {off line st : Int} (h : LexAt w L a n c off line st) (v : Int) : LexAt (w.setCell ⟨L, 1, none⟩ (.int .i64 v)) L a n c v line st :=
  ⟨by rw [World.cell?_setCell_other _ _ _ _ (by simp)]; exact h.c0, World.cell?_setCell_same _ _ _ h.c1, by rw [World.cell?_setCell_other _ _ _ _ (by simp)]; exact h.c2, by rw [World.cell?_setCell_other _ _ _ _ (by simp)]; exact h.c3, fun j => by rw [World.frozen?_setCell]; exact h.f j⟩

theorem LexAt.set2 {w : World} {L : Nat} {a : Option Addr} {n c : Nat} {off line st : Int} (h : LexAt w L a n c off line st) (v : Int) : LexAt (w.setCell ⟨L, 2, none⟩ (.int .i64 v)) L a n c off v st :=
  ⟨by rw [World.cell?_setCell_other _ _ _ _ (by simp)]; exact h.c0, by rw [World.cell?_setCell_other _ _ _ _ (by simp)]; exact h.c1, World.cell?_setCell_same _ _ _ h.c2, by rw [World.cell?_setCell_other _ _ _ _ (by simp)]; exact h.c3, fun j => by rw [World.frozen?_setCell]; exact h.f j⟩

theorem LexAt.set3 {w : World} {L : Nat} {a : Option Addr} {n c : Nat} {off line st : Int} (h : LexAt w L a n c off line st) (v : Int) : LexAt (w.setCell ⟨L, 3, none⟩ (.int .i64 v)) L a n c off line v :=
  ⟨by rw [World.cell?_setCell_other _ _ _ _ (by simp)]; exact h.c0, by rw [World.cell?_setCell_other _ _ _ _ (by simp)]; exact h.c1, by rw [World.cell?_setCell_other _ _ _ _ (by simp)]; exact h.c2, World.cell?_setCell_same _ _ _ h.c3, fun j => by rw [World.frozen?_setCell]; exact h.f j⟩

theorem wrap_in (x : Int) (h : (Lit.int .i64 x).wf = true) : wrap64 x = x := by
  have := bounds_i64 h
  exact IntWalk.wrap64_in x ⟨by omega, by omega⟩

theorem wrap_succ (x : Int) : wrap64 (wrap64 x + 1) = wrap64 (x + 1) := by
  unfold wrap64; omega

/-- A line feed passed over. -/
theorem LexAt.feed {wr : World} {L : Nat} {a : Option Addr} {n c off m : Nat} {line st x y : Int} {zs : List Int} (q : Nat) (h : LexAt wr L a n c (off + m : Nat) x y)
    (hx : wrap64 (line + nl zs off m) = x) (hz : zs.getD (off + m) 0 = 10) :
    LexAt ((((wr.drewN q).setCell ⟨L, 2, none⟩ (.int .i64 (wrap64 (x + 1)))).setCell ⟨L, 3, none⟩ (.int .i64 (↑off + ↑m + 1))).setCell ⟨L, 1, none⟩ (.int .i64 (↑off + ↑m + 1)))
      L a n c (off + (m + 1) : Nat) (wrap64 (line + nl zs off (m + 1))) (startB zs off st (m + 1)) := by
  have e1 : ((off + (m + 1) : Nat) : Int) = ↑off + ↑m + 1 := by omega
  have e2 : wrap64 (line + nl zs off (m + 1)) = wrap64 (x + 1) := by
    rw [← hx, wrap_succ]; simp only [nl]; rw [if_pos hz]; congr 1; omega
  have e3 : startB zs off st (m + 1) = ↑off + ↑m + 1 := by
    simp only [startB]; rw [if_pos hz]; omega
  rw [e1, e2, e3]
  exact (((h.drewN q).set2 _).set3 _).set1 _

/-- Another white space passed over. -/
theorem LexAt.blank {wr : World} {L : Nat} {a : Option Addr} {n c off m : Nat} {line st x y : Int} {zs : List Int} (q : Nat) (h : LexAt wr L a n c (off + m : Nat) x y)
    (hx : wrap64 (line + nl zs off m) = x) (hy : startB zs off st m = y) (hz : zs.getD (off + m) 0 ≠ 10) :
    LexAt ((wr.drewN q).setCell ⟨L, 1, none⟩ (.int .i64 (↑off + ↑m + 1)))
      L a n c (off + (m + 1) : Nat) (wrap64 (line + nl zs off (m + 1))) (startB zs off st (m + 1)) := by
  have e1 : ((off + (m + 1) : Nat) : Int) = ↑off + ↑m + 1 := by omega
  have e2 : wrap64 (line + nl zs off (m + 1)) = x := by
    rw [← hx]; simp only [nl]; rw [if_neg hz]; simp
  have e3 : startB zs off st (m + 1) = y := by
    simp only [startB]; rw [if_neg hz]; exact hy
  rw [e1, e2, e3]
  exact (h.drewN q).set1 _

theorem spaces_next {zs : List Int} {off m : Nat} (h : ∀ j, j < m → spB (zs.getD (off + j) 0) = true) (hz : spB (zs.getD (off + m) 0) = true) : ∀ j, j < m + 1 → spB (zs.getD (off + j) 0) = true := by
  intro j hj
  by_cases e : j = m
  · subst e; exact hz
  · exact h j (by omega)

/-- BEYOND THE END: nothing moves. -/
theorem skip_end (L : Nat) (a : Option Addr) (n c : Nat) (off line st : Int) (w : World) (_hn : n ≤ 1048576) (ho : (n : Int) ≤ off) (h : LexAt w L a n c off line st) :
    Calls Try.prog 26 #[.pointer (some ⟨L, 0, none⟩)] w fun e w' => e = .returned (.tuple #[]) ∧ ∃ q, w' = w.drewN q := by
  obtain ⟨c0, c1, c2, c3, hf⟩ := h
  have hno : decide (off < (n : Int)) = false := decide_eq_false (by omega)
  go_enter Try.func26, Try.ntmps26
  go_wp2
  go_loopg [] 0 (fun k wr => ∃ q, wr = w.drewN q)
  case atStart => exact ⟨0, rfl⟩
  case round =>
    obtain ⟨q, rfl⟩ := hrel
    go_wp2
    go_quiet (fail)
    go_wp2
    go_end0
    exact ⟨rfl, _, World.drewN_drewN _ _ _⟩

theorem skip_in (L b : Nat) (n c off : Nat) (line st : Int) (zs : List Int) (w : World) (hn : n ≤ 1048576) (ho : off < n) (hbL : b < L) (h : LexAt w L (some ⟨b, 0, none⟩) n c off line st) (hc : Cells w b 0 n zs) (hl : (Lit.int .i64 line).wf = true) :
    Calls Try.prog 26 #[.pointer (some ⟨L, 0, none⟩)] w fun e w' => e = .returned (.tuple #[]) ∧ ∃ m : Nat, off + m ≤ n ∧ (∀ j, j < m → spB (zs.getD (off + j) 0) = true) ∧ (off + m < n → spB (zs.getD (off + m) 0) = false) ∧
      LexAt w' L (some ⟨b, 0, none⟩) n c (off + m : Nat) (wrap64 (line + nl zs off m)) (startB zs off st m) ∧ Below L w w' := by
  go_enter Try.func26, Try.ntmps26
  go_wp2
  go_loopg [] (n - off) (fun k wr => ∃ m : Nat, off + m ≤ n ∧ k = n - (off + m) ∧ (∀ j, j < m → spB (zs.getD (off + j) 0) = true) ∧
      LexAt wr L (some ⟨b, 0, none⟩) n c (off + m : Nat) (wrap64 (line + nl zs off m)) (startB zs off st m) ∧ Below L w wr)
  case atStart => exact ⟨0, by omega, by simp, fun j hj => absurd hj (by omega), by simpa [nl, startB, wrap_in line hl] using h, Below.refl _ _⟩
  case round =>
    obtain ⟨m, hm, hgk, hsp, hlex, hbel⟩ := hrel
    have HG : Hid (gk = n - (off + m)) := hgk
    have HS : Hid (∀ j, j < m → spB (zs.getD (off + j) 0) = true) := hsp
    clear hgk hsp
    generalize hx : wrap64 (line + nl zs off m) = x at hlex
    generalize hy : startB zs off st m = y at hlex
    have HX : Hid (wrap64 (line + nl zs off m) = x) := hx
    have HY : Hid (startB zs off st m = y) := hy
    clear hx hy
    have H := hlex
    obtain ⟨c0, c1, c2, c3, hf⟩ := hlex
    by_cases hlt : off + m < n
    · have hlt' : ((off + m : Nat) : Int) < (n : Int) := by omega
      have hcz : wr.cell? ⟨b, off + m, none⟩ = some (.int .u8 (zs.getD (off + m) 0)) := by
        have := (hbel.cell (p := ⟨b, 0 + (off + m), none⟩) hbL).trans (hc (off + m) hlt)
        simpa using this
      generalize hz : zs.getD (off + m) 0 = z at hcz
      have HZ : Hid (zs.getD (off + m) 0 = z) := hz
      clear hz
      go_wp2
      go_quiet (fail)
      go_wp2
      go_quiet (fail)
      go_wp2
      · go_roundg (gk - 1)
        case measure => have := HG.out; omega
        case rel =>
          have hz : (z == 10) = true := by assumption
          have e := HG.out
          refine ⟨m + 1, by omega, by omega, spaces_next HS.out (by rw [HZ.out]; simp [spB, hz]), H.feed _ HX.out (by rw [HZ.out]; simpa using hz), (((below_drewN hbel _).setCell (Nat.le_refl _) _).setCell (Nat.le_refl _) _).setCell (Nat.le_refl _) _⟩
      iterate 3
        (go_roundg (gk - 1)
         case measure => have := HG.out; omega
         case rel =>
          have hz : (z == 10) = false := by assumption
          have hs : spB z = true := by simp [spB, *]
          have e := HG.out
          exact ⟨m + 1, by omega, by omega, spaces_next HS.out (by rw [HZ.out]; exact hs), H.blank _ HX.out HY.out (by rw [HZ.out]; simpa using hz), (below_drewN hbel _).setCell (Nat.le_refl _) _⟩)
      have hs : spB z = false := by simp [spB, *]
      (try simp only [Exit.inBlock, Exit.then])
      refine bodyPost_ret (results_none rfl _ _ _) rfl ?_
      refine ⟨rfl, m, hm, HS.out, fun _ => by rw [HZ.out]; exact hs, ?_, below_drewN hbel _⟩
      rw [HX.out, HY.out]
      exact H.drewN _
    · have hno : decide (((off + m : Nat) : Int) < (n : Int)) = false := decide_eq_false (by omega)
      go_wp2
      go_quiet (fail)
      go_wp2
      go_end0
      refine ⟨rfl, m, hm, HS.out, fun h => absurd h hlt, ?_, below_drewN hbel _⟩
      rw [HX.out, HY.out]
      exact H.drewN _

/-! ### ZZLexerSkipSpace -/
theorem lexAt_new (w : World) (a : Option Addr) (n c : Nat) (off line st : Int) :
    LexAt (w.alloc (.cells #[.slice a n c, .int .i64 off, .int .i64 line, .int .i64 st] 59)) w.heap.size a n c off line st :=
  ⟨by simp, by simp, by simp, by simp, fun j => by simp⟩

theorem zz_end (a : Option Addr) (n c : Nat) (off line st : Int) (w : World) (hn : n ≤ 1048576) (ho : (n : Int) ≤ off) :
    Calls Try.prog 21 #[.slice a n c, .int .i64 off, .int .i64 line, .int .i64 st] w fun e w' => e = .returned (.tuple #[.int .i64 off, .int .i64 line, .int .i64 st]) ∧ Below w.heap.size w w' := by
  go_enter Try.func21, Try.ntmps21
  go_wp2_with fail
  refine (skip_end w.heap.size a n c off line st _ hn ho (lexAt_new w a n c off line st)).mono ?_
  rintro e w' ⟨rfl, q, rfl⟩
  go_wp2
  go_quiet (fail)
  go_wp2
  go_ret3
  exact ⟨rfl, below_drewN (below_drewN ((Below.refl _ _).alloc (Nat.le_refl _) _) _) _⟩

theorem zz_in (b n c off : Nat) (line st : Int) (zs : List Int) (w : World) (hn : n ≤ 1048576) (ho : off < n) (hb : b < w.heap.size) (hc : Cells w b 0 n zs) (hl : (Lit.int .i64 line).wf = true) :
    Calls Try.prog 21 #[.slice (some ⟨b, 0, none⟩) n c, .int .i64 off, .int .i64 line, .int .i64 st] w fun e w' => ∃ m : Nat, e = .returned (.tuple #[.int .i64 (off + m : Nat), .int .i64 (wrap64 (line + nl zs off m)), .int .i64 (startB zs off st m)]) ∧
      off + m ≤ n ∧ (∀ j, j < m → spB (zs.getD (off + j) 0) = true) ∧ (off + m < n → spB (zs.getD (off + m) 0) = false) ∧ Below w.heap.size w w' := by
  go_enter Try.func21, Try.ntmps21
  go_wp2_with fail
  refine (skip_in w.heap.size b n c off line st zs _ hn ho hb (lexAt_new w _ n c off line st) (fun i hi => (World.cell?_alloc_lt _ _ _ hb).trans (hc i hi)) hl).mono ?_
  rintro e w' ⟨rfl, m, h1, h2, h3, h4, h5⟩
  have H2 : Hid (∀ j, j < m → spB (zs.getD (off + j) 0) = true) := h2
  have H3 : Hid (off + m < n → spB (zs.getD (off + m) 0) = false) := h3
  clear h2 h3
  generalize hx : wrap64 (line + nl zs off m) = x at h4
  generalize hy : startB zs off st m = y at h4
  have HX : Hid (wrap64 (line + nl zs off m) = x) := hx
  have HY : Hid (startB zs off st m = y) := hy
  clear hx hy
  obtain ⟨c0, c1, c2, c3, hf⟩ := h4
  go_wp2
  go_quiet (fail)
  go_wp2
  go_ret3
  refine ⟨m, ?_, h1, H2.out, H3.out, below_drewN (((Below.refl _ _).alloc (Nat.le_refl _) _).trans h5) _⟩
  rw [HX.out, HY.out]
  simp

end Go.Proofs.Qxb6605490a.Lex
