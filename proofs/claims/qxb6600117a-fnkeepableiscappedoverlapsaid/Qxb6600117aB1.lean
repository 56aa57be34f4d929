import Derived.Test.Qxb6600117aA1
import Derived.Deep.RegionHeld3
import Derived.BigRegion
namespace Go.Proofs.Qxb6600117a
open Go.RowKit
set_option linter.unusedSimpArgs false
set_option linter.unusedVariables false

theorem bytes19_any (ao bo : Option Addr) (n cap m cap' : Nat) (p q r s t : Value) (w : World) :
    Calls Try.prog 19 #[.slice ao n cap, .slice bo m cap', p, q, r, s, t] w fun e w' => (e = .returned (.bool false) ∨ e = .returned (.bool true) ∧ n ≤ 1048576 ∧ m ≤ 1048576) ∧ w' = w := by
  by_cases h1 : 1048576 < n
  · go_enter Try.func19, Try.ntmps19
    go_wp2
    all_goals go_ret
    all_goals exact ⟨.inl rfl, rfl⟩
  · by_cases h2 : 1048576 < m
    · go_enter Try.func19, Try.ntmps19
      go_wp2
      all_goals go_ret
      all_goals exact ⟨.inl rfl, rfl⟩
    · go_enter Try.func19, Try.ntmps19
      go_wp2
      all_goals go_ret
      all_goals (first | exact ⟨.inl rfl, rfl⟩ | exact ⟨.inr ⟨rfl, by omega, by omega⟩, rfl⟩)

theorem range_any (ao : Option Addr) (n cap : Nat) (lo hi : Int) (w : World) :
    Calls Try.prog 20 #[.slice ao n cap, .int .i64 lo, .int .i64 hi] w fun e w' => (e = .returned (.bool false) ∨ e = .returned (.bool true) ∧ 0 ≤ lo ∧ lo ≤ hi ∧ hi ≤ n) ∧ w' = w := by
  by_cases h1 : 0 ≤ lo
  · by_cases h2 : lo ≤ hi
    · by_cases h3 : hi ≤ (n : Int)
      · go_enter Try.func20, Try.ntmps20
        go_wp2
        go_ret
        exact ⟨.inr ⟨rfl, h1, h2, h3⟩, rfl⟩
      · go_enter Try.func20, Try.ntmps20
        go_wp2
        go_ret
        exact ⟨.inl rfl, rfl⟩
    · go_enter Try.func20, Try.ntmps20
      go_wp2
      go_ret
      exact ⟨.inl rfl, rfl⟩
  · go_enter Try.func20, Try.ntmps20
    go_wp2
    go_ret
    exact ⟨.inl rfl, rfl⟩

set_option maxRecDepth 20000 in
set_option maxHeartbeats 1000000 in
theorem ids_any (ao : Option Addr) (n cap : Nat) (x : Nat → Int) (lo hi m : Nat) (w : World) (hn : n ≤ 1048576) (hl : lo ≤ hi) (hh : hi ≤ n) (hm : m ≤ 65536) (h : RowIn w 0 ao n 1 (fun k _ => .int .i64 (x k))) :
    Calls Try.prog 21 #[.slice ao n cap, .int .i64 lo, .int .i64 hi, .int .i64 m] w fun e w' => ((∃ z : Int, e = .returned (.tuple #[.int .i64 z, .bool false])) ∨ ∃ q : Nat, e = .returned (.tuple #[.int .i64 q, .bool true]) ∧ m ≤ q ∧ q ≤ 65536 ∧ ∀ i, lo ≤ i → i < hi → 0 ≤ x i ∧ x i < q) ∧ w' = w := by
  go_enter Try.func21, Try.ntmps21
  go_wp2_with fail
  go_loop [10, 3] (fun i v => ∃ k q : Nat, lo ≤ k ∧ k ≤ hi ∧ i = .int .i64 k ∧ v = .int .i64 q ∧ m ≤ q ∧ q ≤ 65536 ∧ ∀ i, lo ≤ i → i < k → 0 ≤ x i ∧ x i < q) (fun i _ => hi - (intOf i).toNat)
  case atStart => exact ⟨lo, m, Nat.le_refl _, hl, rfl, rfl, Nat.le_refl _, hm, fun i h1 h2 => by omega⟩
  case round =>
    obtain ⟨k, q, hk1, hk2, rfl, rfl, hq1, hq2, hall⟩ := hrel
    by_cases hlt : k < hi
    · rcases h with h | ⟨b, o, rfl, _, hbl, hcell⟩
      · omega
      · have q0 : w.cell? ⟨b, o + k, none⟩ = some (.int .i64 (x k)) := by simpa using hcell k (by omega) 0 (by omega)
        clear hcell
        by_cases c1 : x k < 0
        · go_wp2
          go_ret2
          exact ⟨.inl ⟨_, rfl⟩, rfl⟩
        · by_cases c2 : 65536 ≤ x k
          · go_wp2
            go_ret2
            exact ⟨.inl ⟨_, rfl⟩, rfl⟩
          · obtain ⟨y, hy⟩ : ∃ y : Nat, x k = (y : Int) := ⟨(x k).toNat, by omega⟩
            rw [hy] at q0 c1 c2
            by_cases c3 : q ≤ y
            · go_wp2
              go_round
              case rel => exact ⟨k + 1, y + 1, by omega, by omega, by go_num, by go_num, by omega, by omega, fun i h1 h2 => by
                by_cases e : i = k
                · subst e; omega
                · have := hall i h1 (by omega); omega⟩
              case measure => simp [intOf]; omega
            · go_wp2
              go_round
              case rel => exact ⟨k + 1, q, by omega, by omega, by go_num, rfl, by omega, by omega, fun i h1 h2 => by
                by_cases e : i = k
                · subst e; omega
                · have := hall i h1 (by omega); omega⟩
              case measure => simp [intOf]; omega
    · have hkn : hi = k := by omega
      subst hkn
      go_wp2
      go_ret2
      exact ⟨.inr ⟨q, rfl, hq1, hq2, hall⟩, rfl⟩
end Go.Proofs.Qxb6600117a
