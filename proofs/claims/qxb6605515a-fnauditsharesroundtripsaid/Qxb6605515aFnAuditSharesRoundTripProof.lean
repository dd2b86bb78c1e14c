/-
  'Rows.FnAuditSharesRoundTripSaid' PROVED: the walk lies in Qxb6605515aA to Qxb6605515aD; the frame is after the guide's own shell, at two slices of strings, one of int64 and one of bools.
-/
import Derived.Test.Qxb6605515aRows
import Derived.Test.Qxb6605515aD
import Derived.WalkKit
import Derived.ProofKit
import Derived.OpenShut
import Derived.ShutString
import Derived.ChangeOld
import Derived.Below
import Derived.SliceStrings
import Derived.Deep.Grids
namespace Go.Proofs.Qxb6605515a.fnAuditSharesRoundTrip
open Go.ChangeShapes Go.WideShapes Go.ChangeAt Go.RowKit
open Sh (Strs Ints Bools)
set_option linter.unusedVariables false

theorem own : ownKnob Try.prog.godebug = none := by kernel_rfl
theorem laidOut : laidOutB Try.prog = true := by kernel_rfl

theorem cell_plain {w : World} {x : Addr} {n : Nat} {f : Nat → Value} (h : ∀ i, i < n → w.cell? (x.add i) = some (f i)) (h0 : 0 < n) : ∃ b off, x = ⟨b, off, none⟩ ∧ b < w.heap.size ∧ ∀ i, i < n → w.cell? ⟨b, off + i, none⟩ = some (f i) := by
  obtain ⟨b, off, spot⟩ := x
  have h1 := h 0 h0
  have hspot : spot = none := by simpa [Addr.add] using World.cell?_spot h1
  subst hspot
  have hb : b < w.heap.size := by simpa [Addr.add] using block_lt_of_cell h1
  exact ⟨b, off, rfl, hb, fun i hi => by rw [← add_plain]; exact h i hi⟩

theorem walk (a0 a1 a2 a3 : Option Addr) (n0 n1 n2 n3 c0 c1 c2 c3 : Nat) (ss ls : List ByteArray) (zs : List Int) (bs : List Bool) (w : World)
    (h0 : n0 ≤ maxLen) (h1 : n1 ≤ maxLen) (h2 : n2 ≤ maxLen) (h3 : n3 ≤ maxLen) (hs : Strs w a0 n0 ss) (hz : Ints w a1 n1 zs) (hb : Bools w a2 n2 bs) (hl : Strs w a3 n3 ls) (hnil : a0 = none → n0 = 0) :
    Calls Try.prog 3 #[.slice a0 n0 c0, .slice a1 n1 c1, .slice a2 n2 c2, .slice a3 n3 c3] w fun e w' => e = .returned (.bool true) ∧ Below w.heap.size w w' := by
  by_cases hlong : 65536 < n0 ∨ 65536 < n1 ∨ 65536 < n2 ∨ 65536 < n3
  · exact Sh.law_long a0 a1 a2 a3 n0 n1 n2 n3 c0 c1 c2 c3 ss ls w h0 h1 h2 h3 hs hl hlong
  · by_cases hsame : n1 = n0 ∧ n2 = n0 ∧ n3 = n0
    · obtain ⟨rfl, rfl, rfl⟩ := hsame
      cases a0 with
      | none =>
        obtain rfl : n3 = 0 := hnil rfl
        exact Sh.law_nil a1 a2 a3 c0 c1 c2 c3 w
      | some x => exact Sh.law_some x a1 a2 a3 _ c0 c1 c2 c3 ss ls zs bs w (by omega) hs hz hb hl
    · exact Sh.law_diff a0 a1 a2 a3 n0 n1 n2 n3 c0 c1 c2 c3 ss ls w (by omega) (by omega) (by omega) (by omega) hs hl hsame

theorem cells9 : Try.prog.cellsOf 9 = 1 := by kernel_rfl
theorem cells2 : Try.prog.cellsOf 2 = 1 := by kernel_rfl
theorem cells4 : Try.prog.cellsOf 4 = 1 := by kernel_rfl

section
variable {H : Type} {enc : TypeId × Value → H} {W : World} {d : DataW H} {p : List MemPlace} {a : Option Addr} {n c : Nat}

theorem strs_of (h : DataW.Trod enc Try.prog W 0 (fun _ => true) true 22 (.slice a n c) d p) : ∃ ss, Strs W a n ss ∧ n ≤ maxLen ∧ (a = none → n = 0) := by
  obtain ⟨fuel, hf⟩ := h
  rcases open_strings Try.underlying22 Try.underlying9 cells9 hf with ⟨hcs, _⟩ | ⟨x, l, cc, zs, hcs, _, hl, hm, hz, _, hcell, hwz⟩
  · simp [Value.cells] at hcs
    obtain ⟨rfl, rfl, rfl⟩ := hcs
    exact ⟨[], fun h => absurd h (by omega), by unfold maxLen; omega, fun _ => rfl⟩
  · simp [Value.cells] at hcs
    obtain ⟨rfl, rfl, rfl⟩ := hcs
    simp only [if_true] at hz
    refine ⟨zs, fun h0 => ?_, by omega, fun e => by cases e⟩
    obtain ⟨b, off, hx, hb, hc⟩ := cell_plain (f := fun i => .string (zs.getD i ByteArray.empty)) (n := n) (fun i hi => hcell i (by omega)) h0
    exact ⟨b, off, by rw [hx], hb, hc⟩

theorem ints_of (h : DataW.Trod enc Try.prog W 0 (fun _ => true) true 23 (.slice a n c) d p) : ∃ zs, Ints W a n zs ∧ n ≤ maxLen := by
  obtain ⟨fuel, hf⟩ := h
  rcases open_ints Try.underlying23 Try.underlying2 cells2 hf with ⟨hcs, _⟩ | ⟨x, l, cc, zs, hcs, _, hl, hm, hz, _, hcell, hwz⟩
  · simp [Value.cells] at hcs
    obtain ⟨rfl, rfl, rfl⟩ := hcs
    exact ⟨[], fun h => absurd h (by omega), by unfold maxLen; omega⟩
  · simp [Value.cells] at hcs
    obtain ⟨rfl, rfl, rfl⟩ := hcs
    simp only [if_true] at hz
    refine ⟨zs, fun h0 => ?_, by omega⟩
    obtain ⟨b, off, hx, hb, hc⟩ := cell_plain (f := fun i => .int .i64 (zs.getD i 0)) (n := n) (fun i hi => hcell i (by omega)) h0
    exact ⟨b, off, by rw [hx], hb, hc⟩

theorem bools_of (h : DataW.Trod enc Try.prog W 0 (fun _ => true) true 24 (.slice a n c) d p) : ∃ bs, Bools W a n bs ∧ n ≤ maxLen := by
  obtain ⟨fuel, hf⟩ := h
  rcases Deep.open_bools Try.underlying24 Try.underlying4 cells4 hf with ⟨hcs, _⟩ | ⟨x, l, cc, B, hcs, _, hl, hm, _, hcell⟩
  · simp [Value.cells] at hcs
    obtain ⟨rfl, rfl, rfl⟩ := hcs
    exact ⟨[], fun h => absurd h (by omega), by unfold maxLen; omega⟩
  · simp [Value.cells] at hcs
    obtain ⟨rfl, rfl, rfl⟩ := hcs
    refine ⟨(List.range n).map B, fun h0 => ?_, by omega⟩
    obtain ⟨b, off, hx, hb, hc⟩ := cell_plain (f := fun i => .bool (B i)) (n := n) (fun i hi => hcell i (by omega)) h0
    refine ⟨b, off, by rw [hx], hb, fun i hi => ?_⟩
    rw [hc i hi]
    simp [List.getD, hi]
end

set_option maxRecDepth 100000 in
theorem lifted (os : Os) (started : os.Started) (H : Type) (enc : TypeId × Value → H) :
    ReturnsInHanded {} Try.checked os 3 .any (Rows.fnAuditSharesRoundTripSpec.pre6 enc Try.prog Try.f3 Rows.fnAuditSharesRoundTripRow.domain false) (Rows.fnAuditSharesRoundTripSpec.post enc Try.prog Try.f3 false true false false) := by
  refine returnsInHanded_of_change (C := Try.checked) own started (by kernel_rfl) Try.func3
    (ChangeSpec.witness6 (enc := enc) (C := Try.checked) false ⟨#[], #[.slice none 0 0, .slice none 0 0, .slice none 0 0, .slice none 0 0], []⟩ 8 (by kernel_rfl) (by kernel_rfl) (by kernel_rfl) (by kernel_rfl)) ?_
  intro W base args ds gs before hval0 hW hcnd _
  have hval : ∀ (j : Nat) t v, Try.f3.params[j]? = some t → args[j]? = some v → Value.okWide Try.prog W .any base t v := hval0
  have hW' := hW
  obtain ⟨p, q, hA0, hV, rfl, hfz, hnd⟩ := hW
  have hA : DataW.TrodAll enc Try.prog W 0 (fun _ => true) true Try.f3.params.toList args.toList ds p := hA0
  rw [Try.params3] at hA hval
  obtain ⟨v0, vs0, d0, ds0, p0, q0, hargs, rfl, rfl, h0, r0⟩ := trodAll_cons hA
  obtain ⟨v1, vs1, d1, ds1, p1, q1, rfl, rfl, rfl, h1, r1⟩ := trodAll_cons r0
  obtain ⟨v2, vs2, d2, ds2, p2, q2, rfl, rfl, rfl, h2, r2⟩ := trodAll_cons r1
  obtain ⟨v3, vs3, d3, ds3, p3, q3, rfl, rfl, rfl, h3, r3⟩ := trodAll_cons r2
  obtain ⟨rfl, rfl, rfl⟩ := trodAll_nil r3
  obtain rfl : args = #[v0, v1, v2, v3] := by cases args; simp_all
  obtain ⟨rfl, rfl⟩ := trodVars_none hV
  obtain ⟨a0, len0, cap0, rfl⟩ := okWide_slice Try.underlying22 (hval 0 22 v0 rfl rfl)
  obtain ⟨a1, len1, cap1, rfl⟩ := okWide_slice Try.underlying23 (hval 1 23 v1 rfl rfl)
  obtain ⟨a2, len2, cap2, rfl⟩ := okWide_slice Try.underlying24 (hval 2 24 v2 rfl rfl)
  obtain ⟨a3, len3, cap3, rfl⟩ := okWide_slice Try.underlying22 (hval 3 22 v3 rfl rfl)
  have lt0 : ∀ x ∈ p0, x.block < W.heap.size := by obtain ⟨m, hm⟩ := h0; exact DataW.trod_lt m _ _ _ hm
  have lt1 : ∀ x ∈ p1, x.block < W.heap.size := by obtain ⟨m, hm⟩ := h1; exact DataW.trod_lt m _ _ _ hm
  have lt2 : ∀ x ∈ p2, x.block < W.heap.size := by obtain ⟨m, hm⟩ := h2; exact DataW.trod_lt m _ _ _ hm
  have lt3 : ∀ x ∈ p3, x.block < W.heap.size := by obtain ⟨m, hm⟩ := h3; exact DataW.trod_lt m _ _ _ hm
  obtain ⟨ss, s0, m0, z0⟩ := strs_of h0
  obtain ⟨zs, s1, m1⟩ := ints_of h1
  obtain ⟨bs, s2, m2⟩ := bools_of h2
  obtain ⟨ls, s3, m3, z3⟩ := strs_of h3
  clear hA0 hval0
  refine (walk a0 a1 a2 a3 len0 len1 len2 len3 cap0 cap1 cap2 cap3 ss ls zs bs W m0 m1 m2 m3 s0 s1 s2 s3 z0).mono fun e W' ⟨he, bel⟩ => ?_
  subst he
  exact ⟨_, rfl, _, _, _, [], _, [], hW', trodAll_mk1 (shut_bool Try.underlying4 _), (trodAll_cons_mk (Below.trod laidOut (by kernel_rfl) (of_decide_eq_true (by kernel_rfl)) h0 bel lt0) (trodAll_cons_mk (Below.trod laidOut (by kernel_rfl) (of_decide_eq_true (by kernel_rfl)) h1 bel lt1) (trodAll_cons_mk (Below.trod laidOut (by kernel_rfl) (of_decide_eq_true (by kernel_rfl)) h2 bel lt2) (trodAll_cons_mk (Below.trod laidOut (by kernel_rfl) (of_decide_eq_true (by kernel_rfl)) h3 bel lt3) trodAll_mk0)))), rfl, bel.frame _, fun h => by cases h⟩

theorem over : Rows.fnAuditSharesRoundTripRow.holds Try.pinned (OpenSpec.ofChange Rows.fnAuditSharesRoundTripSpec) :=
  OpenClaim.holds_of_wide 3 Try.f3 rfl rfl rfl rfl rfl rfl rfl ⟨rfl, rfl, rfl, rfl, rfl⟩ rfl rfl rfl rfl rfl (by kernel_rfl) Try.func3 (by kernel_rfl)
    (of_decide_eq_true (by kernel_rfl)) (by unfold Func.isWrapper; first | (rw [if_pos (by decide +kernel)]; kernel_rfl) | (rw [if_neg (by decide +kernel)]; exact ⟨rfl, rfl⟩))
    (fun os started H enc _ => lifted os started H enc)

/-- THE STATEMENT -/
theorem proved : Rows.FnAuditSharesRoundTripSaid := over
#print axioms proved
end Go.Proofs.Qxb6605515a.fnAuditSharesRoundTrip
