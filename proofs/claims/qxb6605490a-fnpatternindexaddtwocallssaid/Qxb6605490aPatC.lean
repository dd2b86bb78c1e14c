import Derived.Test.Qxb6605490aPatB
import Derived.Deep.RegionHeld3
import Derived.Deep.AppendLies
import Derived.Deep.LoopGhost
namespace Go.Proofs.Qxb6605490a.Pat
open Go.ChangeShapes Go.WideShapes Go.ChangeAt Go.RowKit
open Go.MapKept
set_option linter.unusedVariables false

/-! ### the map of slices: a look-up, and the way back -/
theorem look_groups {w : World} {base b n : Nat} {D : DataW Unit} {k : Key} (h : w.ownsGroups Try.prog 52 base 3 .i64 b n D) (hn : n < maxLen) (hk : Valid k) :
    ∃ v zs, (Instr.lookup 46 (.map (some b)) (kval k) false).run Try.prog w = .ok v w ∧ D.atKey (klit k) .nil = rowDatum .i64 v zs ∧ w.ownsInts base 3 .i64 v zs ∧ zs.length ≤ n ∧
      w.groupBack Try.prog 46 52 base 3 .i64 b n D (kval k) (klit k) v ∧ (∀ No : Nat → Prop, w.Shuns b No → ∀ g, v.ownBlock = some g → ¬ No g) := by
  obtain ⟨v, zs, hrun, hat, hoi, hzl, hback⟩ := h.at law52 Try.underlying46 (zero22 w) hn (key52 hk)
  refine ⟨v, zs, hrun, hat, hoi, hzl, hback, ?_⟩
  obtain ⟨es, clock, hb, F, _⟩ := h
  rcases Maps.fit_look false law52 Try.underlying46 (zero22 w) hb F (key52 hk) with ⟨hrun', _, _⟩ | ⟨e0, y, hm0, _, hrun', _, _, _⟩
  · rw [hrun] at hrun'
    obtain rfl : v = .slice none 0 0 := by simpa using hrun'
    intro _ _ g hg'
    cases hg'
  · rw [hrun] at hrun'
    obtain rfl : v = e0.val := by simpa using hrun'
    exact fun No hs g hg' => hs es clock hb e0 hm0 g hg'

theorem store_groups {w0 w : World} {base b n : Nat} {D : DataW Unit} {k : Key} {v v' : Value} {zs zs' : List Int} {No : Nat → Prop} (hk : Valid k) (hown0 : w0.ownsGroups Try.prog 52 base 3 .i64 b n D) (hn : n < maxLen)
    (hu : w0.ownsInts base 3 .i64 v zs) (hsh : w0.Shuns b No) (hno : ∀ g, v'.ownBlock = some g → ¬ No g) (hback : w0.groupBack Try.prog 46 52 base 3 .i64 b n D (kval k) (klit k) v)
    (hgr : w0.grownBy w v.ownBlock) (hown' : w.ownsInts base 3 .i64 v' zs') (hl' : zs'.length ≤ n + 1) (hloc : v'.ownBlock = v.ownBlock ∨ ∃ g, v'.ownBlock = some g ∧ w0.heap.size ≤ g) :
    ∃ w2, (Instr.mapUpdate 46 (.map (some b)) (kval k) v').run Try.prog w = .ok () w2 ∧ w2.ownsGroups Try.prog 52 base 3 .i64 b (n + 1) (D.put (klit k) (rowDatum .i64 v' zs')) ∧ w.grownBy w2 (some b) ∧ w2.Shuns b No := by
  obtain ⟨w2, hrun, r1, r2⟩ := hback w v' zs' hgr hown' hl' hloc
  refine ⟨w2, hrun, r1, r2, ?_⟩
  obtain ⟨es, clock, hb, F, hs, _, hbb, _⟩ := hown0
  have hblt : b < w0.heap.size := (Array.getElem?_eq_some_iff.1 hb).1
  have hb1 : w.heap[b]? = some (.map es clock) := (hgr.block b hblt (fun e1 => by have := (hu.1.lt b e1.symm).1; omega)).trans hb
  obtain ⟨es', clock', hb2, hwho⟩ := stored_who law52 Try.underlying46 hb1 F (Nat.lt_of_le_of_lt hs hn) (key52 hk) hrun
  intro es2 clock2 hb2' y hy g hyg
  obtain ⟨rfl, rfl⟩ : es' = es2 ∧ clock' = clock2 := by rw [hb2] at hb2'; simpa using hb2'
  rcases hwho y hy with ⟨hy0, _⟩ | ⟨_, hval⟩
  · exact hsh es clock hb y hy0 g hyg
  · exact hno g (hval ▸ hyg)

/-! ### the index in memory -/
structure Idx (w : World) (X M : Nat) (pre suf : Value) (n : Nat) (D : DataW Unit) (A B : List Int) : Prop where
  c0 : w.cell? ⟨X, 0, none⟩ = some (.map (some M))
  c1 : w.cell? ⟨X, 1, none⟩ = some pre
  c2 : w.cell? ⟨X, 2, none⟩ = some suf
  fx : ∀ j, w.frozen? ⟨X, j, none⟩ = false
  xm : X < M
  g : w.ownsGroups Try.prog 52 (M + 1) 3 .i64 M n D
  sh : w.Shuns M (fun g => pre.ownBlock = some g ∨ suf.ownBlock = some g)
  p : Row w (M + 1) pre A
  s : Row w (M + 1) suf B
  ap : pre.ownBlock = none ∨ pre.ownBlock ≠ suf.ownBlock

theorem below_grown {w w' : World} (hb : Below w.heap.size w w') (row : Option Nat) : w.grownBy w' row := ⟨hb.os, hb.tape, hb.output, hb.size, fun k hk _ => hb.block k hk⟩

theorem Idx.mlt {w : World} {X M : Nat} {pre suf : Value} {n : Nat} {D : DataW Unit} {A B : List Int} (h : Idx w X M pre suf n D A B) : M < w.heap.size := by
  obtain ⟨es, clock, hb, _⟩ := h.g
  exact (Array.getElem?_eq_some_iff.1 hb).1

theorem Row.kept {w w' : World} {C : Nat} {v : Value} {xs : List Int} {row : Option Nat} (h : Row w C v xs) (hg : w.grownBy w' row) (hne : v.ownBlock = none ∨ v.ownBlock ≠ row) : Row w' C v xs := World.ownsRow.kept h hg hne
theorem none_or (v : Value) : v.ownBlock = none ∨ v.ownBlock ≠ none := by cases v.ownBlock <;> simp

theorem Idx.below {w w' : World} {X M : Nat} {pre suf : Value} {n : Nat} {D : DataW Unit} {A B : List Int} (h : Idx w X M pre suf n D A B) (hb : Below w.heap.size w w') : Idx w' X M pre suf n D A B := by
  have hm := h.mlt
  have hx := h.xm
  have hg := below_grown hb none
  refine ⟨?_, ?_, ?_, ?_, h.xm, ?_, ?_, ?_, ?_, h.ap⟩
  · rw [hb.cell (by show X < _; omega)]; exact h.c0
  · rw [hb.cell (by show X < _; omega)]; exact h.c1
  · rw [hb.cell (by show X < _; omega)]; exact h.c2
  · intro j; rw [hb.frozen (by show X < _; omega)]; exact h.fx j
  · exact h.g.kept hg (by simp) (fun es clock _ x _ => none_or _)
  · exact h.sh.kept hg hm (by simp)
  · exact h.p.kept hg (none_or _)
  · exact h.s.kept hg (none_or _)

theorem grown_set (w : World) (a : Addr) (u : Value) : w.grownBy (w.setCell a u) (some a.block) :=
  ⟨rfl, rfl, rfl, by simp [World.setCell], fun k _ hk => Below.heap_setCell _ _ _ _ (fun e => hk (by rw [e]))⟩

/-- THE STORE INTO THE MAP, behind the append onto the key's slice. -/
theorem Idx.put {w w3 : World} {X M : Nat} {pre suf v : Value} {n : Nat} {D : DataW Unit} {A B : List Int} {k : Key} {zs : List Int} {q : Int} {g cap : Nat} (h : Idx w X M pre suf n D A B) (hk : Valid k) (hn : n < maxLen)
    (hoi : w.ownsInts (M + 1) 3 .i64 v zs) (hzl : zs.length ≤ n) (hback : w.groupBack Try.prog 46 52 (M + 1) 3 .i64 M n D (kval k) (klit k) v) (hsh : ∀ No : Nat → Prop, w.Shuns M No → ∀ g, v.ownBlock = some g → ¬ No g)
    (hall : w.grownBy w3 v.ownBlock) (hq : (Lit.int .i64 q).wf = true) (hown3 : w3.ownsRow (M + 1) 3 1 (.slice (some ⟨g, 0, none⟩) (zs.length + 1) cap) (zs.length + 1) (zs.map (Value.int .i64) ++ [.int .i64 q])) (hat : v.ownBlock = some g ∨ w.heap.size ≤ g) :
    ∃ w4, (Instr.mapUpdate 46 (.map (some M)) (kval k) (.slice (some ⟨g, 0, none⟩) (zs.length + 1) cap)).run Try.prog w3 = .ok () w4 ∧
      Idx w4 X M pre suf (n + 1) (D.put (klit k) (.slice (lits .i64 (zs ++ [q])) [])) A B ∧ w3.grownBy w4 (some M) := by
  have hno := hsh _ h.sh
  have plt : ∀ j, pre.ownBlock = some j → M + 1 ≤ j ∧ j < w.heap.size := fun j hj => World.ownsRow.lt h.p j hj
  have slt : ∀ j, suf.ownBlock = some j → M + 1 ≤ j ∧ j < w.heap.size := fun j hj => World.ownsRow.lt h.s j hj
  have vlt : ∀ j, v.ownBlock = some j → M + 1 ≤ j := fun j hj => (World.ownsRow.lt hoi.1 j hj).1
  have hown' := hoi.appended hown3 hq
  obtain ⟨w4, hrun, r1, r2, r3⟩ := store_groups (zs' := zs ++ [q]) (v' := .slice (some ⟨g, 0, none⟩) (zs.length + 1) cap) hk h.g hn hoi h.sh
    (fun j hj hN => by
      simp only [Value.ownBlock, Option.some.injEq] at hj
      subst hj
      rcases hat with e | e
      · exact hno g e hN
      · rcases hN with hN | hN
        · have := (plt g hN).2; omega
        · have := (slt g hN).2; omega) hback hall hown' (by simp; omega) (by
      rcases hat with e | e
      · exact .inl e.symm
      · exact .inr ⟨g, rfl, e⟩)
  rw [hown'.datum_pos (by simp)] at r1
  have hm := h.mlt
  have hx := h.xm
  have xne : some X ≠ v.ownBlock := fun e => by have := vlt X e.symm; omega
  have cX : ∀ j, w4.cell? ⟨X, j, none⟩ = w.cell? ⟨X, j, none⟩ := fun j => by
    rw [World.cell?_of_block (w := w3) (r2.block X (by have := hall.size; omega) (by simp; omega)), World.cell?_of_block (w := w) (hall.block X (by omega) xne)]
  refine ⟨w4, hrun, ⟨by rw [cX]; exact h.c0, by rw [cX]; exact h.c1, by rw [cX]; exact h.c2, fun j => ?_, h.xm, r1, r3, ?_, ?_, h.ap⟩, r2⟩
  · rw [World.frozen?_of_block (w := w3) (r2.block X (by have := hall.size; omega) (by simp; omega)), World.frozen?_of_block (w := w) (hall.block X (by omega) xne)]
    exact h.fx j
  · refine (h.p.kept hall ?_).kept r2 ?_
    · cases hp : pre.ownBlock with
      | none => exact .inl rfl
      | some j => exact .inr (fun e => hno j e.symm (.inl hp))
    · cases hp : pre.ownBlock with
      | none => exact .inl rfl
      | some j => exact .inr (fun e => by have := (plt j hp).1; cases e; omega)
  · refine (h.s.kept hall ?_).kept r2 ?_
    · cases hp : suf.ownBlock with
      | none => exact .inl rfl
      | some j => exact .inr (fun e => hno j e.symm (.inr hp))
    · cases hp : suf.ownBlock with
      | none => exact .inl rfl
      | some j => exact .inr (fun e => by have := (slt j hp).1; cases e; omega)

/-- THE STORE INTO prefixLengths, behind the append onto it. -/
theorem Idx.pre {w w1 : World} {X M : Nat} {pre suf : Value} {n : Nat} {D : DataW Unit} {A B : List Int} {q : Int} {g cap : Nat} (h : Idx w X M pre suf n D A B) (hall : w.grownBy w1 pre.ownBlock)
    (hown : w1.ownsRow (M + 1) 3 1 (.slice (some ⟨g, 0, none⟩) (A.length + 1) cap) (A.length + 1) (A.map (Value.int .i64) ++ [.int .i64 q])) (hat : pre.ownBlock = some g ∨ w.heap.size ≤ g) :
    Idx (w1.setCell ⟨X, 1, none⟩ (.slice (some ⟨g, 0, none⟩) (A.length + 1) cap)) X M (.slice (some ⟨g, 0, none⟩) (A.length + 1) cap) suf n D (A ++ [q]) B := by
  have plt : ∀ j, pre.ownBlock = some j → M + 1 ≤ j ∧ j < w.heap.size := fun j hj => World.ownsRow.lt h.p j hj
  have slt : ∀ j, suf.ownBlock = some j → M + 1 ≤ j ∧ j < w.heap.size := fun j hj => World.ownsRow.lt h.s j hj
  have hm := h.mlt
  have hx := h.xm
  have xne : some X ≠ pre.ownBlock := fun e => by have := (plt X e.symm).1; omega
  have mne : some M ≠ pre.ownBlock := fun e => by have := (plt M e.symm).1; omega
  have glt := World.ownsRow.lt hown g rfl
  have hs := grown_set w1 ⟨X, 1, none⟩ (.slice (some ⟨g, 0, none⟩) (A.length + 1) cap)
  have cX : ∀ j, w1.cell? ⟨X, j, none⟩ = w.cell? ⟨X, j, none⟩ := fun j => World.cell?_of_block (w := w) (hall.block X (by omega) xne)
  have fX : ∀ j, w1.frozen? ⟨X, j, none⟩ = w.frozen? ⟨X, j, none⟩ := fun j => World.frozen?_of_block (w := w) (hall.block X (by omega) xne)
  have g1 : w1.ownsGroups Try.prog 52 (M + 1) 3 .i64 M n D := h.g.kept hall mne (h.sh.rowsOff (fun j hj => .inl hj))
  have sne : suf.ownBlock = none ∨ suf.ownBlock ≠ pre.ownBlock := by
    cases hp : suf.ownBlock with
    | none => exact .inl rfl
    | some j =>
      refine .inr (fun e => ?_)
      rcases h.ap with e' | e'
      · rw [e'] at e; cases e
      · exact e' (by rw [← e, hp])
  refine ⟨?_, World.cell?_setCell_same _ _ _ (by rw [cX]; exact h.c1), ?_, fun j => ?_, h.xm, ?_, ?_, ?_, ?_, ?_⟩
  · rw [World.cell?_setCell_other _ _ _ _ (by simp), cX]; exact h.c0
  · rw [World.cell?_setCell_other _ _ _ _ (by simp), cX]; exact h.c2
  · rw [World.frozen?_setCell, fX]; exact h.fx j
  · exact g1.kept hs (by simp; omega) (g1.rowsAbove (fun j hj => by cases hj; simp; omega))
  · have s0 : w.Shuns M (fun j => (Value.slice (some ⟨g, 0, none⟩) (A.length + 1) cap).ownBlock = some j ∨ suf.ownBlock = some j) := h.sh.reno h.g (fun j hj => by
      rcases hj with hj | hj
      · simp only [Value.ownBlock, Option.some.injEq] at hj
        subst hj
        rcases hat with e | e
        · exact .inl (.inl e)
        · exact .inr e
      · exact .inl (.inr hj))
    exact (s0.kept hall hm mne).kept hs (by have := hall.size; omega) (by simp; omega)
  · exact (Row.app hown).kept hs (.inr (by simp [Value.ownBlock]; omega))
  · refine (h.s.kept hall sne).kept hs ?_
    cases hp : suf.ownBlock with
    | none => exact .inl rfl
    | some j => exact .inr (fun e => by have := (slt j hp).1; simp at e; omega)
  · refine .inr (fun e => ?_)
    have e' : suf.ownBlock = some g := e.symm
    rcases hat with e2 | e2
    · rcases h.ap with e3 | e3
      · rw [e3] at e2; cases e2
      · exact e3 (by rw [e2, e'])
    · have := (slt g e').2; omega

/-- THE STORE INTO suffixLengths, behind the append onto it. -/
theorem Idx.suf {w w1 : World} {X M : Nat} {pre suf : Value} {n : Nat} {D : DataW Unit} {A B : List Int} {q : Int} {g cap : Nat} (h : Idx w X M pre suf n D A B) (hall : w.grownBy w1 suf.ownBlock)
    (hown : w1.ownsRow (M + 1) 3 1 (.slice (some ⟨g, 0, none⟩) (B.length + 1) cap) (B.length + 1) (B.map (Value.int .i64) ++ [.int .i64 q])) (hat : suf.ownBlock = some g ∨ w.heap.size ≤ g) :
    Idx (w1.setCell ⟨X, 2, none⟩ (.slice (some ⟨g, 0, none⟩) (B.length + 1) cap)) X M pre (.slice (some ⟨g, 0, none⟩) (B.length + 1) cap) n D A (B ++ [q]) := by
  have plt : ∀ j, pre.ownBlock = some j → M + 1 ≤ j ∧ j < w.heap.size := fun j hj => World.ownsRow.lt h.p j hj
  have slt : ∀ j, suf.ownBlock = some j → M + 1 ≤ j ∧ j < w.heap.size := fun j hj => World.ownsRow.lt h.s j hj
  have hm := h.mlt
  have hx := h.xm
  have xne : some X ≠ suf.ownBlock := fun e => by have := (slt X e.symm).1; omega
  have mne : some M ≠ suf.ownBlock := fun e => by have := (slt M e.symm).1; omega
  have glt := World.ownsRow.lt hown g rfl
  have hs := grown_set w1 ⟨X, 2, none⟩ (.slice (some ⟨g, 0, none⟩) (B.length + 1) cap)
  have cX : ∀ j, w1.cell? ⟨X, j, none⟩ = w.cell? ⟨X, j, none⟩ := fun j => World.cell?_of_block (w := w) (hall.block X (by omega) xne)
  have fX : ∀ j, w1.frozen? ⟨X, j, none⟩ = w.frozen? ⟨X, j, none⟩ := fun j => World.frozen?_of_block (w := w) (hall.block X (by omega) xne)
  have g1 : w1.ownsGroups Try.prog 52 (M + 1) 3 .i64 M n D := h.g.kept hall mne (h.sh.rowsOff (fun j hj => .inr hj))
  have sne : pre.ownBlock = none ∨ pre.ownBlock ≠ suf.ownBlock := h.ap
  refine ⟨?_, ?_, World.cell?_setCell_same _ _ _ (by rw [cX]; exact h.c2), fun j => ?_, h.xm, ?_, ?_, ?_, ?_, ?_⟩
  · rw [World.cell?_setCell_other _ _ _ _ (by simp), cX]; exact h.c0
  · rw [World.cell?_setCell_other _ _ _ _ (by simp), cX]; exact h.c1
  · rw [World.frozen?_setCell, fX]; exact h.fx j
  · exact g1.kept hs (by simp; omega) (g1.rowsAbove (fun j hj => by cases hj; simp; omega))
  · have s0 : w.Shuns M (fun j => pre.ownBlock = some j ∨ (Value.slice (some ⟨g, 0, none⟩) (B.length + 1) cap).ownBlock = some j) := h.sh.reno h.g (fun j hj => by
      rcases hj with hj | hj
      · exact .inl (.inl hj)
      · simp only [Value.ownBlock, Option.some.injEq] at hj
        subst hj
        rcases hat with e | e
        · exact .inl (.inr e)
        · exact .inr e)
    exact (s0.kept hall hm mne).kept hs (by have := hall.size; omega) (by simp; omega)
  · refine (h.p.kept hall sne).kept hs ?_
    cases hp : pre.ownBlock with
    | none => exact .inl rfl
    | some j => exact .inr (fun e => by have := (plt j hp).1; simp at e; omega)
  · exact (Row.app hown).kept hs (.inr (by simp [Value.ownBlock]; omega))
  · cases hp : pre.ownBlock with
    | none => exact .inl rfl
    | some j =>
      refine .inr (fun e => ?_)
      have e' : j = g := by simpa [Value.ownBlock] using e
      subst e'
      rcases hat with e2 | e2
      · rcases h.ap with e3 | e3
        · rw [e3] at hp; cases hp
        · exact e3 (by rw [e2, hp])
      · have := (plt j hp).2; omega

theorem Idx.mono {w : World} {X M : Nat} {pre suf : Value} {n n' : Nat} {D : DataW Unit} {A B : List Int} (h : Idx w X M pre suf n D A B) (hn : n ≤ n') : Idx w X M pre suf n' D A B := by
  refine ⟨h.c0, h.c1, h.c2, h.fx, h.xm, ?_, h.sh, h.p, h.s, h.ap⟩
  obtain ⟨es, clock, hb, F, hs, hD, hbb, hlen, hap⟩ := h.g
  exact ⟨es, clock, hb, F, Nat.le_trans hs hn, hD, hbb, fun x hx zs ho => Nat.le_trans (hlen x hx zs ho) hn, hap⟩

end Go.Proofs.Qxb6605490a.Pat
