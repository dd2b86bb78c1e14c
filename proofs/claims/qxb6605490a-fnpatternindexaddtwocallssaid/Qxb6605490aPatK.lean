import Derived.Test.Qxb6605490aRows
import Derived.WalkKit
import Derived.ProofKit
import Derived.Below
import Derived.OpenShut
import Derived.WalkSpells
import Derived.WalkLawsBesides
import Derived.Maps.GroupsBeside
import Derived.Maps.OwnSet
import Derived.DeepKeys4
namespace Go.Proofs.Qxb6605490a.Pat
open Go.ChangeShapes Go.WideShapes Go.ChangeAt Go.RowKit
open Go.Maps (Keyed)
set_option linter.unusedVariables false

theorem hid {p : Prop} (h : p) : Hid p := h

/-- A pattern's key: its kind, its text's bytes. -/
abbrev Key := Int × List UInt8

def bs (l : List UInt8) : ByteArray := ⟨l.toArray⟩
theorem bs_size (l : List UInt8) : (bs l).size = l.length := by simp [bs, ByteArray.size]
theorem bs_data (l : List UInt8) : (bs l).data.toList = l := by simp [bs]
theorem bs_of (s : ByteArray) : bs s.data.toList = s := by cases s; simp [bs]

structure Valid (k : Key) : Prop where
  wf : (Lit.int .i64 k.1).wf = true
  len : k.2.length ≤ maxLen

def klit (k : Key) : Lit := .string (keyBytes [.int .i64 k.1, .string k.2])
def kval (k : Key) : Value := .agg #[.int .i64 k.1, .string (bs k.2)]

theorem laidOut : laidOutB Try.prog = true := by kernel_rfl
theorem law52 : Keyed Try.prog 52 := Keyed.of_law (deep_law_laid laidOut (m := 3) (by omega) (of_decide_eq_true (by kernel_rfl)) (by kernel_rfl) (by kernel_rfl))
theorem law55 : Keyed Try.prog 55 := Keyed.of_law (deep_law_laid laidOut (m := 3) (by omega) (of_decide_eq_true (by kernel_rfl)) (by kernel_rfl) (by kernel_rfl))

theorem fuel : Try.prog.types.size + 1 = 76 + 3 := by kernel_rfl
theorem kt52 : Try.prog.keyType 52 = true := by kernel_rfl
theorem kt55 : Try.prog.keyType 55 = true := by kernel_rfl
theorem cells52 : Try.prog.cellsOf 52 = 2 := by kernel_rfl
theorem cells55 : Try.prog.cellsOf 55 = 2 := by kernel_rfl
theorem cells50 : Try.prog.cellsOf 50 = 1 := by kernel_rfl
theorem cells3 : Try.prog.cellsOf 3 = 1 := by kernel_rfl
theorem cells9 : Try.prog.cellsOf 9 = 1 := by kernel_rfl
theorem cells4 : Try.prog.cellsOf 4 = 1 := by kernel_rfl

theorem lits_int {t : TypeId} (d : Nat) (hu : Try.prog.underlying t = some (.int .i64)) {n : Int} (hw : (Lit.int .i64 n).wf = true) : Try.prog.keyLits (d + 1) t [.int .i64 n] = some [.int .i64 n] := by
  unfold Program.keyLits
  rw [hu]
  simp [hw]
theorem lits_str (d : Nat) {s : ByteArray} (hs : s.size ≤ maxLen) : Try.prog.keyLits (d + 1) 9 [.string s] = some [.string s.data.toList] := by
  unfold Program.keyLits
  rw [Try.underlying9]
  simp [hs]

theorem lits52 (d : Nat) {k : Key} (h : Valid k) : Try.prog.keyLits (d + 2) 52 [.int .i64 k.1, .string (bs k.2)] = some [.int .i64 k.1, .string k.2] := by
  have h1 := lits_int d (t := 50) Try.underlying50 h.wf
  have h2 := lits_str d (s := bs k.2) (by rw [bs_size]; exact h.len)
  rw [bs_data] at h2
  unfold Program.keyLits
  rw [Try.underlying52]
  simp [cells52, cells50, cells9, h1, h2]

theorem lits55 (d : Nat) {k : Key} (h : Valid k) : Try.prog.keyLits (d + 2) 55 [.int .i64 k.1, .string (bs k.2)] = some [.int .i64 k.1, .string k.2] := by
  have h1 := lits_int d (t := 3) Try.underlying3 h.wf
  have h2 := lits_str d (s := bs k.2) (by rw [bs_size]; exact h.len)
  rw [bs_data] at h2
  unfold Program.keyLits
  rw [Try.underlying55]
  simp [cells55, cells3, cells9, h1, h2]

theorem key52 {k : Key} (h : Valid k) : keyOf Try.prog 52 (kval k) = some (klit k) := by
  have e : (kval k).cells.toList = [.int .i64 k.1, .string (bs k.2)] := rfl
  have f : Value.formed Try.prog 52 (kval k) = true := by simp [Value.formed, Try.underlying52, kval, cells52]
  unfold keyOf
  rw [fuel, Try.underlying52, kt52, f, e, show 76 + 3 = 77 + 2 from rfl, lits52 77 h]
  rfl

theorem key55 {k : Key} (h : Valid k) : keyOf Try.prog 55 (kval k) = some (klit k) := by
  have e : (kval k).cells.toList = [.int .i64 k.1, .string (bs k.2)] := rfl
  have f : Value.formed Try.prog 55 (kval k) = true := by simp [Value.formed, Try.underlying55, kval, cells55]
  unfold keyOf
  rw [fuel, Try.underlying55, kt55, f, e, show 76 + 3 = 77 + 2 from rfl, lits55 77 h]
  rfl

theorem klit_inj {k k' : Key} (h : Valid k) (h' : Valid k') (e : klit k = klit k') : k = k' := by
  have h1 := key52 h
  have h2 := key52 h'
  rw [← e] at h2
  have := law52.inj h1 h2
  obtain ⟨a, l⟩ := k
  obtain ⟨a', l'⟩ := k'
  simp [kval, bs] at this
  simp [this.1, this.2]

theorem klit_key {k : Key} (h : Valid k) : WideAt.IsKeyLit (klit k) := law52.key (key52 h)

/-! ### a map[zzPatKey]bool of the call's own: the set of its keys -/
theorem zero4 (w : World) : (zeroValue 4).run Try.prog w = .ok (.bool false) w := by kernel_rfl
theorem zero22 (w : World) : (zeroValue 22).run Try.prog w = .ok (.slice none 0 0) w := by kernel_rfl

theorem plainElem_bool_inv {H : Type} {v : Value} {z : DataW H × List MemPlace} (h : plainElem Try.prog 4 v = some z) : ∃ x, v = .bool x ∧ z = (.lit (.bool x), []) := by
  unfold plainElem at h
  rw [Try.underlying4] at h
  cases v <;> simp at h
  exact ⟨_, rfl, h.symm⟩

/-- BLOCK m IS A MAP THAT HOLDS true AT JUST THE KEYS OF WHICH S HOLDS. -/
def SetAt (w : World) (m n : Nat) (S : Key → Bool) : Prop :=
  ∃ D : DataW Unit, w.ownsMap Try.prog 55 (plainElem Try.prog 4) m n D ∧ ∀ k, Valid k → D.atKey (klit k) (.lit (.bool false)) = .lit (.bool (S k))

theorem SetAt.made (w : World) : SetAt (w.alloc (.map #[] 0)) w.heap.size 0 (fun _ => false) :=
  ⟨.map [], World.ownsMap_made w _ _ _, fun k _ => by simp [DataW.atKey]⟩

theorem SetAt.lt {w : World} {m n : Nat} {S : Key → Bool} (h : SetAt w m n S) : m < w.heap.size := by
  obtain ⟨D, ho, _⟩ := h
  exact ho.lt

theorem SetAt.kept {w w' : World} {m n : Nat} {S : Key → Bool} (h : SetAt w m n S) (hw : w'.heap[m]? = w.heap[m]?) : SetAt w' m n S := by
  obtain ⟨D, ⟨es, clock, hb, r⟩, hD⟩ := h
  exact ⟨D, ⟨es, clock, hw.trans hb, r⟩, hD⟩

theorem SetAt.below {w w' : World} {m n : Nat} {S : Key → Bool} (h : SetAt w m n S) (hb : Below w.heap.size w w') : SetAt w' m n S := h.kept (hb.block m h.lt)

theorem SetAt.mono {w : World} {m n n' : Nat} {S : Key → Bool} (h : SetAt w m n S) (hn : n ≤ n') : SetAt w m n' S := by
  obtain ⟨D, ho, hD⟩ := h
  exact ⟨D, ho.mono hn, hD⟩

theorem SetAt.look {w : World} {m n : Nat} {S : Key → Bool} (h : SetAt w m n S) {k : Key} (hk : Valid k) :
    (Instr.lookup 31 (.map (some m)) (kval k) false).run Try.prog w = .ok (.bool (S k)) w := by
  obtain ⟨D, ho, hD⟩ := h
  obtain ⟨v, ps, hrun, hv⟩ := ho.lookup law55 Try.underlying31 (zero4 w) (plainElem_bool Try.underlying4 false) (key55 hk)
  obtain ⟨x, rfl, hx⟩ := plainElem_bool_inv hv
  simp only [Prod.mk.injEq] at hx
  rw [hD k hk] at hx
  have e : x = S k := by simpa using hx.1.symm
  rw [hrun, e]

theorem look_none {k : Key} (hk : Valid k) (w : World) : (Instr.lookup 31 (.map none) (kval k) false).run Try.prog w = .ok (.bool false) w := by
  have := Maps.look_nil (w := w) false law55 Try.underlying31 (zero4 w) (key55 hk)
  simpa using this

theorem SetAt.put {w : World} {m n : Nat} {S : Key → Bool} (h : SetAt w m n S) {k : Key} (hk : Valid k) (hn : n < maxLen) :
    ∃ w', (Instr.mapUpdate 31 (.map (some m)) (kval k) (.bool true)).run Try.prog w = .ok () w' ∧ SetAt w' m (n + 1) (fun x => if x = k then true else S x) ∧ w.grownBy w' (some m) := by
  obtain ⟨D, ho, hD⟩ := h
  obtain ⟨w', hrun, ho', hg⟩ := ho.update law55 Try.underlying31 hn (key55 hk) (plainElem_bool Try.underlying4 true)
  refine ⟨w', hrun, ⟨_, ho', fun k' hk' => ?_⟩, hg⟩
  by_cases e : k' = k
  · subst e
    rw [Maps.atKey_put_same ho.isMap (klit_key hk)]
    simp
  · rw [Maps.atKey_put_other (fun e' => e (klit_inj hk' hk e')), hD k' hk']
    simp [e]

/-! ### the map[pattern][]int, by what each key's slice holds -/
/-- The datum D holds the places 'P k' at each key; 'Q k': is the key there? 'z': how many are. -/
structure Rep (D : DataW Unit) (P : Key → List Int) (Q : Key → Bool) (z : Nat) : Prop where
  tidy : Maps.Tidy D
  at' : ∀ k, Valid k → (D.atKey (klit k) .nil = .nil ∧ P k = []) ∨ D.atKey (klit k) .nil = .slice (lits .i64 (P k)) []
  has : ∀ k, Valid k → Maps.has D (klit k) = Q k
  size : Maps.size D = z

theorem lits_inj {a b : List Int} (h : lits (H := Unit) .i64 a = lits .i64 b) : a = b := by
  simp only [lits] at h
  exact (List.map_inj_right (fun x y hxy => by simpa using hxy)).1 h

theorem Rep.empty : Rep (.map []) (fun _ => []) (fun _ => false) 0 :=
  ⟨Maps.tidy_empty, fun k _ => .inl ⟨by simp [DataW.atKey], rfl⟩, fun k _ => rfl, rfl⟩

theorem Rep.read {D : DataW Unit} {P : Key → List Int} {Q : Key → Bool} {z : Nat} (h : Rep D P Q z) {k : Key} (hk : Valid k) {w : World} {base : Nat} {e : TypeId} {v : Value} {zs : List Int} (hat : D.atKey (klit k) .nil = rowDatum .i64 v zs) (ho : w.ownsInts base e .i64 v zs) : zs = P k := by
  rcases h.at' k hk with ⟨h1, h2⟩ | h1
  · rw [h1] at hat
    rcases ho.datum (H := Unit) with ⟨_, h3⟩ | h3
    · rw [h3, h2]
    · rw [h3] at hat; cases hat
  · rw [h1] at hat
    rcases ho.datum (H := Unit) with ⟨h3, h4⟩ | h3
    · rw [h3] at hat; cases hat
    · rw [h3] at hat
      simp only [DataW.slice.injEq, and_true] at hat
      exact (lits_inj hat).symm

theorem Rep.put {D : DataW Unit} {P : Key → List Int} {Q : Key → Bool} {z : Nat} (h : Rep D P Q z) {k : Key} (hk : Valid k) (zs : List Int) :
    Rep (D.put (klit k) (.slice (lits .i64 zs) [])) (fun x => if x = k then zs else P x) (fun x => if x = k then true else Q x) (if Q k then z else z + 1) where
  tidy := h.tidy.put (klit_key hk) _
  at' := fun x hx => by
    by_cases e : x = k
    · subst e; right; rw [Maps.atKey_put_same h.tidy.isMap (klit_key hk)]; simp
    · rw [Maps.atKey_put_other (fun e' => e (klit_inj hx hk e'))]
      simp only [e, if_false]
      exact h.at' x hx
  has := fun x hx => by
    by_cases e : x = k
    · subst e; rw [Maps.has_put_same h.tidy.isMap (klit_key hk)]; simp
    · rw [Maps.has_put_other (fun e' => e (klit_inj hx hk e'))]
      simp only [e, if_false]
      exact h.has x hx
  size := by rw [Maps.size_put h.tidy, h.has k hk, h.size]

end Go.Proofs.Qxb6605490a.Pat
