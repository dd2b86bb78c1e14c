/-
  'Rows.FnPatternIndexAddTwoCallsSaid' PROVED: the walk lies in Qxb6605490aPatK to Qxb6605490aPatI; the frame is after the guide's own shell, at two slices of int, two of strings and two ints.
-/
import Derived.Test.Qxb6605490aRows
import Derived.Test.Qxb6605490aPatH
import Derived.Test.Qxb6605490aPatI
import Derived.WalkKit
import Derived.ProofKit
import Derived.OpenShut
import Derived.ShutString
import Derived.ChangeOld
import Derived.Below
import Derived.SliceStrings
namespace Go.Proofs.Qxb6605490a.fnPatternIndexAddTwoCalls
open Go.ChangeShapes Go.WideShapes Go.ChangeAt Go.RowKit
open Pat (Strs Kr Tr Key Valid bs at0)
set_option linter.unusedVariables false

theorem own : ownKnob Try.prog.godebug = none := by kernel_rfl
theorem laidOut : laidOutB Try.prog = true := by kernel_rfl

theorem cell_plain {w : World} {x : Addr} {n : Nat} {f : Nat → Value} (h : ∀ i, i < n → w.cell? (x.add i) = some (f i)) (h0 : 0 < n) : ∃ b off, x = ⟨b, off, none⟩ ∧ b < w.heap.size ∧ ∀ i, i < n → w.cell? ⟨b, off + i, none⟩ = some (f i) := by
  obtain ⟨b, off, spot⟩ := x
  have h1 := h 0 h0
  have hspot : spot = none := by simpa [Addr.add] using World.cell?_spot h1
  subst hspot
  have hb : b < w.heap.size := by simpa [Addr.add] using block_lt_of_cell h1
  exact ⟨b, off, rfl, hb, fun i hi => by rw [← add_plain]; exact h i hi⟩

/-- n numbers lie from 'a' on. -/
def Ints (w : World) (a : Option Addr) (n : Nat) (zs : List Int) : Prop :=
  0 < n → ∃ b off, a = some ⟨b, off, none⟩ ∧ b < w.heap.size ∧ ∀ i, i < n → w.cell? ⟨b, off + i, none⟩ = some (.int .i64 (zs.getD i 0))

/-- The keys that the two rows make. -/
def keysOf (zs : List Int) (ss : List ByteArray) (n : Nat) : List Key := (List.range n).map fun i => (zs.getD i 0, (ss.getD i ByteArray.empty).data.toList)
theorem keysOf_len (zs : List Int) (ss : List ByteArray) (n : Nat) : (keysOf zs ss n).length = n := by simp [keysOf]
theorem keysOf_at (zs : List Int) (ss : List ByteArray) {n i : Nat} (h : i < n) : at0 (keysOf zs ss n) i = (zs.getD i 0, (ss.getD i ByteArray.empty).data.toList) := by
  simp [at0, keysOf, List.getD, h]
theorem keysOf_valid {zs : List Int} {ss : List ByteArray} {n : Nat} (hz : ∀ i, i < n → (Lit.int .i64 (zs.getD i 0)).wf = true) (hs : ∀ i, i < n → (ss.getD i ByteArray.empty).size ≤ maxLen) : ∀ k ∈ keysOf zs ss n, Valid k := by
  intro k hk
  simp only [keysOf, List.mem_map, List.mem_range] at hk
  obtain ⟨i, hi, rfl⟩ := hk
  exact ⟨hz i hi, by rw [Array.length_toList]; exact hs i hi⟩
theorem keysOf_kr {w : World} {a : Option Addr} {n : Nat} {zs : List Int} {ss : List ByteArray} (h : Ints w a n zs) : Kr w a n (keysOf zs ss n) := by
  intro h0
  obtain ⟨b, off, ha, hb, hc⟩ := h h0
  exact ⟨b, off, ha, hb, fun i hi => by rw [hc i hi, keysOf_at zs ss hi]⟩
theorem keysOf_tr {w : World} {a : Option Addr} {n : Nat} {zs : List Int} {ss : List ByteArray} (h : Strs w a n ss) : Tr w a n (keysOf zs ss n) := by
  intro h0
  obtain ⟨b, off, ha, hb, hc⟩ := h h0
  exact ⟨b, off, ha, hb, fun i hi => by rw [hc i hi, keysOf_at zs ss hi, Pat.bs_of]⟩

theorem walk (a0 a1 a3 a4 : Option Addr) (n0 n1 n3 n4 c0 c1 c3 c4 : Nat) (p1 p2 : Int) (zs ys : List Int) (ss ls : List ByteArray) (w : World)
    (h0 : n0 ≤ maxLen) (h1 : n1 ≤ maxLen) (h3 : n3 ≤ maxLen) (h4 : n4 ≤ maxLen) (s0 : Ints w a0 n0 zs) (s1 : Strs w a1 n1 ss) (s3 : Ints w a3 n3 ys) (s4 : Strs w a4 n4 ls)
    (z0 : a0 = none → n0 = 0) (z1 : a1 = none → n1 = 0) (z3 : a3 = none → n3 = 0) (z4 : a4 = none → n4 = 0)
    (f0 : ∀ i, i < n0 → (Lit.int .i64 (zs.getD i 0)).wf = true) (f1 : ∀ i, i < n1 → (ss.getD i ByteArray.empty).size ≤ maxLen) (f3 : ∀ i, i < n3 → (Lit.int .i64 (ys.getD i 0)).wf = true) (f4 : ∀ i, i < n4 → (ls.getD i ByteArray.empty).size ≤ maxLen)
    (q1 : (Lit.int .i64 p1).wf = true) (q2 : (Lit.int .i64 p2).wf = true) :
    Calls Try.prog 3 #[.slice a0 n0 c0, .slice a1 n1 c1, .int .i64 p1, .slice a3 n3 c3, .slice a4 n4 c4, .int .i64 p2] w fun e w' => e = .returned (.bool true) ∧ Below w.heap.size w w' := by
  by_cases hlong : 4096 < n0 ∨ 4096 < n1 ∨ 4096 < n3 ∨ 4096 < n4
  · exact Pat.law_long a0 a1 a3 a4 n0 n1 n3 n4 c0 c1 c3 c4 p1 p2 ss ls w h0 h1 h3 h4 s1 s4 hlong
  · by_cases hsame : n1 = n0 ∧ n4 = n3
    · obtain ⟨rfl, rfl⟩ := hsame
      by_cases hp : p1 = p2
      · exact Pat.law_eq a0 a1 a3 a4 n1 n4 c0 c1 c3 c4 (keysOf zs ss n1) (keysOf ys ls n4) p1 p2 w (by omega) (by omega) (keysOf_len _ _ _) (keysOf_len _ _ _) (keysOf_valid f0 f1) (keysOf_valid f3 f4) q1 q2 (keysOf_kr s0) (keysOf_tr s1) (keysOf_kr s3) (keysOf_tr s4) z0 z1 z3 z4 hp
      · exact Pat.law_ne a0 a1 a3 a4 n1 n4 c0 c1 c3 c4 (keysOf zs ss n1) (keysOf ys ls n4) p1 p2 w (by omega) (by omega) (keysOf_len _ _ _) (keysOf_len _ _ _) (keysOf_valid f0 f1) (keysOf_valid f3 f4) q1 q2 (keysOf_kr s0) (keysOf_tr s1) (keysOf_kr s3) (keysOf_tr s4) z0 z1 z3 z4 hp
    · exact Pat.law_diff a0 a1 a3 a4 n0 n1 n3 n4 c0 c1 c3 c4 p1 p2 ss ls w (by omega) (by omega) (by omega) (by omega) s1 s4 hsame

section
variable {H : Type} {enc : TypeId × Value → H} {W : World} {d : DataW H} {p : List MemPlace} {a : Option Addr} {n c : Nat}

theorem strs_of (h : DataW.Trod enc Try.prog W 0 (fun _ => true) true 23 (.slice a n c) d p) : ∃ ss, Strs W a n ss ∧ n ≤ maxLen ∧ (a = none → n = 0) ∧ ∀ i, i < n → (ss.getD i ByteArray.empty).size ≤ maxLen := by
  obtain ⟨fuel, hf⟩ := h
  rcases open_strings Try.underlying23 Try.underlying9 Pat.cells9 hf with ⟨hcs, _⟩ | ⟨x, l, cc, zs, hcs, _, hl, hm, hz, _, hcell, hwz⟩
  · simp [Value.cells] at hcs
    obtain ⟨rfl, rfl, rfl⟩ := hcs
    exact ⟨[], fun h => absurd h (by omega), by unfold maxLen; omega, fun _ => rfl, fun i hi => absurd hi (by omega)⟩
  · simp [Value.cells] at hcs
    obtain ⟨rfl, rfl, rfl⟩ := hcs
    simp only [if_true] at hz
    refine ⟨zs, fun h0 => ?_, by omega, (fun e => by cases e), fun i hi => ?_⟩
    · obtain ⟨b, off, hx, hb, hc⟩ := cell_plain (f := fun i => .string (zs.getD i ByteArray.empty)) (n := n) (fun i hi => hcell i (by omega)) h0
      exact ⟨b, off, by rw [hx], hb, hc⟩
    · rw [List.getD, List.getElem?_eq_getElem (show i < zs.length by omega)]
      exact hwz _ (List.getElem_mem _)

theorem ints_of (h : DataW.Trod enc Try.prog W 0 (fun _ => true) true 22 (.slice a n c) d p) : ∃ zs, Ints W a n zs ∧ n ≤ maxLen ∧ (a = none → n = 0) ∧ ∀ i, i < n → (Lit.int .i64 (zs.getD i 0)).wf = true := by
  obtain ⟨fuel, hf⟩ := h
  rcases open_ints Try.underlying22 Try.underlying3 Pat.cells3 hf with ⟨hcs, _⟩ | ⟨x, l, cc, zs, hcs, _, hl, hm, hz, _, hcell, hwz⟩
  · simp [Value.cells] at hcs
    obtain ⟨rfl, rfl, rfl⟩ := hcs
    exact ⟨[], fun h => absurd h (by omega), by unfold maxLen; omega, fun _ => rfl, fun i hi => absurd hi (by omega)⟩
  · simp [Value.cells] at hcs
    obtain ⟨rfl, rfl, rfl⟩ := hcs
    simp only [if_true] at hz
    refine ⟨zs, fun h0 => ?_, by omega, (fun e => by cases e), fun i hi => ?_⟩
    · obtain ⟨b, off, hx, hb, hc⟩ := cell_plain (f := fun i => .int .i64 (zs.getD i 0)) (n := n) (fun i hi => hcell i (by omega)) h0
      exact ⟨b, off, by rw [hx], hb, hc⟩
    · rw [List.getD, List.getElem?_eq_getElem (show i < zs.length by omega)]
      exact hwz _ (List.getElem_mem _)
end

set_option maxRecDepth 100000 in
theorem lifted (os : Os) (started : os.Started) (H : Type) (enc : TypeId × Value → H) :
    ReturnsInHanded {} Try.checked os 3 .any (Rows.fnPatternIndexAddTwoCallsSpec.pre6 enc Try.prog Try.f3 Rows.fnPatternIndexAddTwoCallsRow.domain false) (Rows.fnPatternIndexAddTwoCallsSpec.post enc Try.prog Try.f3 false true false false) := by
  refine returnsInHanded_of_change (C := Try.checked) own started (by kernel_rfl) Try.func3
    (ChangeSpec.witness6 (enc := enc) (C := Try.checked) false ⟨#[], #[.slice none 0 0, .slice none 0 0, .int .i64 0, .slice none 0 0, .slice none 0 0, .int .i64 0], []⟩ 8 (by kernel_rfl) (by kernel_rfl) (by kernel_rfl) (by kernel_rfl)) ?_
  intro W base args ds gs before hval0 hW hcnd _
  have hval : ∀ (j : Nat) t v, Try.f3.params[j]? = some t → args[j]? = some v → Value.okWide Try.prog W .any base t v := hval0
  have hW' := hW
  obtain ⟨p, q, hA0, hV, rfl, hfz, hnd⟩ := hW
  have hA : DataW.TrodAll enc Try.prog W 0 (fun _ => true) true Try.f3.params.toList args.toList ds p := hA0
  rw [Try.params3] at hA hval
  obtain ⟨v0, vs0, d0, ds0, p0, q0, hargs, rfl, rfl, h0, r0⟩ := trodAll_cons hA
  obtain ⟨v1, vs1, d1, ds1, p1, q1, rfl, rfl, rfl, h1, r1⟩ := trodAll_cons r0
  obtain ⟨v2, vs2, d2, ds2, p2, q2, rfl, rfl, rfl, h2, r2⟩ := trodAll_cons r1
  obtain ⟨v3, vs3, d3, ds3, p3, q3, rfl, rfl, rfl, h3, r3⟩ := trodAll_cons r2
  obtain ⟨v4, vs4, d4, ds4, p4, q4, rfl, rfl, rfl, h4, r4⟩ := trodAll_cons r3
  obtain ⟨v5, vs5, d5, ds5, p5, q5, rfl, rfl, rfl, h5, r5⟩ := trodAll_cons r4
  obtain ⟨rfl, rfl, rfl⟩ := trodAll_nil r5
  obtain rfl : args = #[v0, v1, v2, v3, v4, v5] := by cases args; simp_all
  obtain ⟨rfl, rfl⟩ := trodVars_none hV
  obtain ⟨a0, len0, cap0, rfl⟩ := okWide_slice Try.underlying22 (hval 0 22 v0 rfl rfl)
  obtain ⟨a1, len1, cap1, rfl⟩ := okWide_slice Try.underlying23 (hval 1 23 v1 rfl rfl)
  obtain ⟨x2, rfl, rfl, rfl, w2⟩ := open_int Try.underlying3 (hval 2 3 v2 rfl rfl) h2
  obtain ⟨a3, len3, cap3, rfl⟩ := okWide_slice Try.underlying22 (hval 3 22 v3 rfl rfl)
  obtain ⟨a4, len4, cap4, rfl⟩ := okWide_slice Try.underlying23 (hval 4 23 v4 rfl rfl)
  obtain ⟨x5, rfl, rfl, rfl, w5⟩ := open_int Try.underlying3 (hval 5 3 v5 rfl rfl) h5
  have lt0 : ∀ x ∈ p0, x.block < W.heap.size := by obtain ⟨m, hm⟩ := h0; exact DataW.trod_lt m _ _ _ hm
  have lt1 : ∀ x ∈ p1, x.block < W.heap.size := by obtain ⟨m, hm⟩ := h1; exact DataW.trod_lt m _ _ _ hm
  have lt3 : ∀ x ∈ p3, x.block < W.heap.size := by obtain ⟨m, hm⟩ := h3; exact DataW.trod_lt m _ _ _ hm
  have lt4 : ∀ x ∈ p4, x.block < W.heap.size := by obtain ⟨m, hm⟩ := h4; exact DataW.trod_lt m _ _ _ hm
  obtain ⟨zs, s0, m0, z0, f0⟩ := ints_of h0
  obtain ⟨ss, s1, m1, z1, f1⟩ := strs_of h1
  obtain ⟨ys, s3, m3, z3, f3⟩ := ints_of h3
  obtain ⟨ls, s4, m4, z4, f4⟩ := strs_of h4
  clear hA0 hval0
  refine (walk a0 a1 a3 a4 len0 len1 len3 len4 cap0 cap1 cap3 cap4 x2 x5 zs ys ss ls W m0 m1 m3 m4 s0 s1 s3 s4 z0 z1 z3 z4 f0 f1 f3 f4 w2 w5).mono fun e W' ⟨he, bel⟩ => ?_
  subst he
  exact ⟨_, rfl, _, _, _, [], _, [], hW', trodAll_mk1 (shut_bool Try.underlying4 _), (trodAll_cons_mk (Below.trod laidOut (by kernel_rfl) (of_decide_eq_true (by kernel_rfl)) h0 bel lt0) (trodAll_cons_mk (Below.trod laidOut (by kernel_rfl) (of_decide_eq_true (by kernel_rfl)) h1 bel lt1) (trodAll_cons_mk (shut_int Try.underlying3 w2) (trodAll_cons_mk (Below.trod laidOut (by kernel_rfl) (of_decide_eq_true (by kernel_rfl)) h3 bel lt3) (trodAll_cons_mk (Below.trod laidOut (by kernel_rfl) (of_decide_eq_true (by kernel_rfl)) h4 bel lt4) (trodAll_cons_mk (shut_int Try.underlying3 w5) trodAll_mk0)))))), rfl, bel.frame _, fun h => by cases h⟩

theorem over : Rows.fnPatternIndexAddTwoCallsRow.holds Try.pinned (OpenSpec.ofChange Rows.fnPatternIndexAddTwoCallsSpec) :=
  OpenClaim.holds_of_wide 3 Try.f3 rfl rfl rfl rfl rfl rfl rfl ⟨rfl, rfl, rfl, rfl, rfl⟩ rfl rfl rfl rfl rfl (by kernel_rfl) Try.func3 (by kernel_rfl)
    (of_decide_eq_true (by kernel_rfl)) (by unfold Func.isWrapper; first | (rw [if_pos (by decide +kernel)]; kernel_rfl) | (rw [if_neg (by decide +kernel)]; exact ⟨rfl, rfl⟩))
    (fun os started H enc _ => lifted os started H enc)

/-- THE STATEMENT -/
theorem proved : Rows.FnPatternIndexAddTwoCallsSaid := over
#print axioms proved
end Go.Proofs.Qxb6605490a.fnPatternIndexAddTwoCalls
