import Derived.Test.Qxb6605515aRows
import Derived.WalkKit
import Derived.ProofKit
import Derived.Below
import Derived.OpenShut
import Derived.WalkSpells
import Derived.WalkLawsBesides
import Derived.Deep.QuietTactic
import Derived.BigQuiet
namespace Go.Proofs.Qxb6605515a.Sh
open Go.ChangeShapes Go.WideShapes Go.ChangeAt Go.RowKit
set_option linter.unusedVariables false

/-- n strings lie from 'a' on (where n is 0 nothing is said of 'a'). -/
def Strs (w : World) (a : Option Addr) (n : Nat) (ss : List ByteArray) : Prop :=
  0 < n → ∃ b off, a = some ⟨b, off, none⟩ ∧ b < w.heap.size ∧ ∀ i, i < n → w.cell? ⟨b, off + i, none⟩ = some (.string (ss.getD i ByteArray.empty))

/-- zzSameLen -/
theorem same_yes (a0 a1 a2 a3 : Option Addr) (n c0 c1 c2 c3 : Nat) (w : World) (hn : n ≤ 65536) :
    Calls Try.prog 6 #[.slice a0 n c0, .slice a1 n c1, .slice a2 n c2, .slice a3 n c3] w fun e w' => e = .returned (.bool true) ∧ w' = w := by
  go_enter Try.func6, Try.ntmps6
  go_wp2
  go_ret
  exact ⟨rfl, rfl⟩

theorem same_no (a0 a1 a2 a3 : Option Addr) (n0 n1 n2 n3 c0 c1 c2 c3 : Nat) (w : World) (h0 : n0 ≤ 65536) (h1 : n1 ≤ 65536) (h2 : n2 ≤ 65536) (h3 : n3 ≤ 65536) (h : ¬ (n1 = n0 ∧ n2 = n0 ∧ n3 = n0)) :
    Calls Try.prog 6 #[.slice a0 n0 c0, .slice a1 n1 c1, .slice a2 n2 c2, .slice a3 n3 c3] w fun e w' => e = .returned (.bool false) ∧ w' = w := by
  by_cases e1 : n1 = n0
  · have e1' : ((n1 : Int) == (n0 : Int)) = true := by simp [e1]
    by_cases e2 : n2 = n0
    · have e2' : ((n2 : Int) == (n0 : Int)) = true := by simp [e2]
      have e3' : ((n3 : Int) == (n0 : Int)) = false := by simp; omega
      clear e1 e2 h
      go_enter Try.func6, Try.ntmps6
      go_wp2
      go_ret
      exact ⟨rfl, rfl⟩
    · have e2' : ((n2 : Int) == (n0 : Int)) = false := by simp; omega
      clear e1 e2 h
      go_enter Try.func6, Try.ntmps6
      go_wp2
      go_ret
      exact ⟨rfl, rfl⟩
  · have e1' : ((n1 : Int) == (n0 : Int)) = false := by simp; omega
    clear e1 h
    go_enter Try.func6, Try.ntmps6
    go_wp2
    go_ret
    exact ⟨rfl, rfl⟩

/-- It returns a bool. -/
def SomeBool (e : Ending) : Prop := ∃ b, e = .returned (.bool b)
theorem someBool (b : Bool) : SomeBool (.returned (.bool b)) := ⟨b, rfl⟩

/-- zzSizeOK: one of the four is too long. -/
theorem size_long (a0 a1 a2 a3 : Option Addr) (n0 n1 n2 n3 c0 c1 c2 c3 : Nat) (w : World) (h : 65536 < n0 ∨ 65536 < n1 ∨ 65536 < n2 ∨ 65536 < n3) :
    Calls Try.prog 5 #[.slice a0 n0 c0, .slice a1 n1 c1, .slice a2 n2 c2, .slice a3 n3 c3] w fun e w' => e = .returned (.bool false) ∧ w' = w := by
  by_cases e0 : 65536 < n0
  · go_enter Try.func5, Try.ntmps5
    go_wp2
    go_ret
    exact ⟨rfl, rfl⟩
  · have d0 : decide ((65536 : Int) < (n0 : Int)) = false := decide_eq_false (by omega)
    by_cases e1 : 65536 < n1
    · clear e0 h
      go_enter Try.func5, Try.ntmps5
      go_wp2
      go_ret
      exact ⟨rfl, rfl⟩
    · have d1 : decide ((65536 : Int) < (n1 : Int)) = false := decide_eq_false (by omega)
      by_cases e2 : 65536 < n2
      · clear e0 e1 h
        go_enter Try.func5, Try.ntmps5
        go_wp2
        go_ret
        exact ⟨rfl, rfl⟩
      · have d2 : decide ((65536 : Int) < (n2 : Int)) = false := decide_eq_false (by omega)
        have e3 : 65536 < n3 := by omega
        clear e0 e1 e2 h
        go_enter Try.func5, Try.ntmps5
        go_wp2
        go_ret
        exact ⟨rfl, rfl⟩

theorem size_any (a0 a1 a2 a3 : Option Addr) (n0 n1 n2 n3 c0 c1 c2 c3 : Nat) (ss ls : List ByteArray) (w : World) (h0 : n0 ≤ 65536) (h1 : n1 ≤ 65536) (h2 : n2 ≤ 65536) (h3 : n3 ≤ 65536) (hs : Strs w a0 n0 ss) (hl : Strs w a3 n3 ls) :
    Calls Try.prog 5 #[.slice a0 n0 c0, .slice a1 n1 c1, .slice a2 n2 c2, .slice a3 n3 c3] w fun e w' => SomeBool e ∧ w' = w := by
  have HS : Hid (Strs w a0 n0 ss) := hs
  have HL : Hid (Strs w a3 n3 ls) := hl
  clear hs hl
  by_cases ht : 16 * (n0 : Int) + 8 * n1 + n2 + 16 * n3 ≤ 1048576
  · go_enter Try.func5, Try.ntmps5
    go_wp2
    go_loop [8, 9, 10] (fun r t i => ∃ (k : Nat) (T : Int), k ≤ n0 ∧ i = .int .i64 k ∧ t = .int .i64 T) (fun _ _ i => n0 - (intOf i).toNat)
    case atStart => exact ⟨0, _, Nat.zero_le _, rfl, rfl⟩
    case round =>
      obtain ⟨k, T, hk, rfl, rfl⟩ := hrel
      by_cases hlt : k < n0
      · obtain ⟨b, off, ha, hb, hc⟩ := HS.out (by omega)
        subst ha
        have hck := hc k hlt
        go_wp2
        · go_ret
          exact ⟨someBool _, rfl⟩
        · go_round
          case rel => exact ⟨k + 1, _, by omega, by go_num, rfl⟩
          case measure => simp [intOf]; omega
      · go_wp2
        go_loop [8, 9, 11] (fun r t i => ∃ (k : Nat) (T : Int), k ≤ n3 ∧ i = .int .i64 k ∧ t = .int .i64 T) (fun _ _ i => n3 - (intOf i).toNat)
        case atStart => exact ⟨0, _, Nat.zero_le _, rfl, rfl⟩
        case round =>
          obtain ⟨k, T, hk, rfl, rfl⟩ := hrel
          by_cases hlt : k < n3
          · obtain ⟨b, off, ha, hb, hc⟩ := HL.out (by omega)
            subst ha
            have hck := hc k hlt
            go_wp2
            · go_ret
              exact ⟨someBool _, rfl⟩
            · go_round
              case rel => exact ⟨k + 1, _, by omega, by go_num, rfl⟩
              case measure => simp [intOf]; omega
          · go_wp2
            go_ret
            exact ⟨someBool _, rfl⟩
  · go_enter Try.func5, Try.ntmps5
    go_wp2
    go_ret
    exact ⟨someBool _, rfl⟩

/-- zzBytes: it returns a bool. -/
theorem bytes_any (a0 a1 a2 a3 : Option Addr) (n0 n1 n2 n3 c0 c1 c2 c3 : Nat) (ss ls : List ByteArray) (w : World) (h0 : n0 ≤ maxLen) (h1 : n1 ≤ maxLen) (h2 : n2 ≤ maxLen) (h3 : n3 ≤ maxLen) (hs : Strs w a0 n0 ss) (hl : Strs w a3 n3 ls) :
    Calls Try.prog 4 #[.slice a0 n0 c0, .slice a1 n1 c1, .slice a2 n2 c2, .slice a3 n3 c3] w fun e w' => SomeBool e ∧ w' = w := by
  unfold maxLen at h0 h1 h2 h3
  have HS : Hid (Strs w a0 n0 ss) := hs
  have HL : Hid (Strs w a3 n3 ls) := hl
  clear hs hl
  by_cases e0 : n0 ≤ 1048576
  · go_enter Try.func4, Try.ntmps4
    go_wp2
    go_loop [8, 9, 10] (fun r t i => ∃ (k : Nat) (T : Int), k ≤ n0 ∧ i = .int .i64 k ∧ t = .int .i64 T) (fun _ _ i => n0 - (intOf i).toNat)
    case atStart => exact ⟨0, _, Nat.zero_le _, rfl, rfl⟩
    case round =>
      obtain ⟨k, T, hk, rfl, rfl⟩ := hrel
      by_cases hlt : k < n0
      · obtain ⟨b, off, ha, hb, hc⟩ := HS.out (by omega)
        subst ha
        have hck := hc k hlt
        go_wp2
        · go_ret
          exact ⟨someBool _, rfl⟩
        · go_ret
          exact ⟨someBool _, rfl⟩
        · go_round
          case rel => exact ⟨k + 1, _, by omega, by go_num, rfl⟩
          case measure => simp [intOf]; omega
      · go_wp2
        iterate 6 (go_ret; exact ⟨someBool _, rfl⟩)
        go_loop [8, 9, 11] (fun r t i => ∃ (k : Nat) (T : Int), k ≤ n3 ∧ i = .int .i64 k ∧ t = .int .i64 T) (fun _ _ i => n3 - (intOf i).toNat)
        case atStart => exact ⟨0, _, Nat.zero_le _, rfl, rfl⟩
        case round =>
          obtain ⟨k, T, hk, rfl, rfl⟩ := hrel
          by_cases hlt : k < n3
          · obtain ⟨b, off, ha, hb, hc⟩ := HL.out (by omega)
            subst ha
            have hck := hc k hlt
            go_wp2
            · go_ret
              exact ⟨someBool _, rfl⟩
            · go_ret
              exact ⟨someBool _, rfl⟩
            · go_round
              case rel => exact ⟨k + 1, _, by omega, by go_num, rfl⟩
              case measure => simp [intOf]; omega
          · go_wp2
            go_ret
            exact ⟨someBool _, rfl⟩
  · go_enter Try.func4, Try.ntmps4
    go_wp2
    go_ret
    exact ⟨someBool _, rfl⟩

end Go.Proofs.Qxb6605515a.Sh
