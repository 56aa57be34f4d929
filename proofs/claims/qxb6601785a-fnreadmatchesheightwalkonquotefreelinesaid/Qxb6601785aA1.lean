import Derived.Test.Qxb6601785aProg
import Derived.Test.Qxb6601785aBase
import Derived.Test.Qxb6601785aPlain
namespace Go.Proofs.Qxb6601785a
open Go.RowKit
set_option linter.unusedSimpArgs false
set_option linter.unusedVariables false

theorem pr_any (x : Int) (w : World) : Calls Try.prog 10 #[.int .u8 x] w fun e w' => e = .returned (.bool (prB x)) ∧ w' = w := by
  by_cases h1 : 32 ≤ x
  · go_enter Try.func10, Try.ntmps10
    go_wp2
    go_ret
    exact ⟨by simp [prB, h1], rfl⟩
  · go_enter Try.func10, Try.ntmps10
    go_wp2
    go_ret
    exact ⟨by simp [prB, h1]; omega, rfl⟩
theorem le_any (x : Int) (w : World) : Calls Try.prog 11 #[.int .u8 x] w fun e w' => e = .returned (.bool (leB x)) ∧ w' = w := by
  by_cases h1 : 129 ≤ x
  · go_enter Try.func11, Try.ntmps11
    go_wp2
    go_ret
    exact ⟨by simp [leB, h1], rfl⟩
  · go_enter Try.func11, Try.ntmps11
    go_wp2
    go_ret
    exact ⟨by simp [leB, h1]; omega, rfl⟩
theorem di_any (x : Int) (w : World) : Calls Try.prog 13 #[.int .u8 x] w fun e w' => e = .returned (.bool (diB x)) ∧ w' = w := by
  by_cases h1 : 48 ≤ x
  · go_enter Try.func13, Try.ntmps13
    go_wp2
    go_ret
    exact ⟨by simp [diB, h1], rfl⟩
  · go_enter Try.func13, Try.ntmps13
    go_wp2
    go_ret
    exact ⟨by simp [diB, h1]; omega, rfl⟩
theorem isDigit_any (x : Int) (w : World) : Calls Try.prog 24 #[.int .u8 x] w fun e w' => e = .returned (.bool (diB x)) ∧ w' = w := by
  by_cases h1 : 48 ≤ x
  · go_enter Try.func24, Try.ntmps24
    go_wp2
    go_ret
    exact ⟨by simp [diB, h1], rfl⟩
  · go_enter Try.func24, Try.ntmps24
    go_wp2
    go_ret
    exact ⟨by simp [diB, h1]; omega, rfl⟩
theorem tr_any (x : Int) (w : World) : Calls Try.prog 12 #[.int .u8 x] w fun e w' => e = .returned (.bool (trB x)) ∧ w' = w := by
  by_cases h1 : 64 ≤ x
  · by_cases h2 : x ≤ 254
    · go_enter Try.func12, Try.ntmps12
      go_wp2
      go_ret
      exact ⟨by simp [trB, h1, h2], rfl⟩
    · go_enter Try.func12, Try.ntmps12
      go_wp2
      go_ret
      exact ⟨by simp [trB, h1, h2]; omega, rfl⟩
  · go_enter Try.func12, Try.ntmps12
    go_wp2
    go_ret
    exact ⟨by simp [trB, h1]; omega, rfl⟩

theorem bytes9_any (s : ByteArray) (w : World) (hs : s.size ≤ maxLen) :
    Calls Try.prog 9 #[.string s] w fun e w' => (e = .returned (.bool false) ∨ e = .returned (.bool true) ∧ s.size ≤ 1048576) ∧ w' = w := by
  unfold maxLen at hs
  go_enter Try.func9, Try.ntmps9
  go_wp2
  all_goals go_ret
  all_goals (first | exact ⟨.inl rfl, rfl⟩ | exact ⟨.inr ⟨rfl, by omega⟩, rfl⟩)


theorem pr_is (x : Int) (r : Bool) (h : prB x = r) (w : World) : Calls Try.prog 10 #[.int .u8 x] w fun e w' => e = .returned (.bool r) ∧ w = w' :=
  (pr_any x w).mono fun e w' ⟨a, b⟩ => ⟨by rw [a, h], b.symm⟩
theorem le_is (x : Int) (r : Bool) (h : leB x = r) (w : World) : Calls Try.prog 11 #[.int .u8 x] w fun e w' => e = .returned (.bool r) ∧ w = w' :=
  (le_any x w).mono fun e w' ⟨a, b⟩ => ⟨by rw [a, h], b.symm⟩
theorem tr_is (x : Int) (r : Bool) (h : trB x = r) (w : World) : Calls Try.prog 12 #[.int .u8 x] w fun e w' => e = .returned (.bool r) ∧ w = w' :=
  (tr_any x w).mono fun e w' ⟨a, b⟩ => ⟨by rw [a, h], b.symm⟩
theorem di_is (x : Int) (r : Bool) (h : diB x = r) (w : World) : Calls Try.prog 13 #[.int .u8 x] w fun e w' => e = .returned (.bool r) ∧ w = w' :=
  (di_any x w).mono fun e w' ⟨a, b⟩ => ⟨by rw [a, h], b.symm⟩
theorem dg_is (x : Int) (r : Bool) (h : diB x = r) (w : World) : Calls Try.prog 24 #[.int .u8 x] w fun e w' => e = .returned (.bool r) ∧ w = w' :=
  (isDigit_any x w).mono fun e w' ⟨a, b⟩ => ⟨by rw [a, h], b.symm⟩

/-- The bytes of a string, as numbers. -/
def byt (s : ByteArray) (k : Nat) : Int := if h : k < s.size then ((s[k].toNat : Nat) : Int) else 0
theorem byt_bounds (s : ByteArray) (k : Nat) : 0 ≤ byt s k ∧ byt s k ≤ 255 := by
  unfold byt
  split
  · have := (s[k]).toNat_lt
    omega
  · omega
theorem byt_run (s : ByteArray) (k : Nat) (i : Int) (hi : i = (k : Int)) (h : k < s.size) : ∀ w, (Instr.index 9 (.string s) (.int .i64 i)).run Try.prog w = .ok (.int .u8 (byt s k)) w := by
  subst hi
  intro w
  rw [run_index_string w 9 s .i64 k Try.underlying9]
  have hh : 0 ≤ (k : Int) ∧ (k : Int) < (s.size : Int) := by omega
  rw [dif_pos hh]
  simp [byt, h]
end Go.Proofs.Qxb6601785a
