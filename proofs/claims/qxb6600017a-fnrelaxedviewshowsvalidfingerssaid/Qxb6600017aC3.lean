import Derived.Test.Qxb6600017aA1
import Derived.Test.Qxb6600017aBase2
import Derived.Deep.RegionHeld3
namespace Go.Proofs.Qxb6600017a
open Go.RowKit
set_option linter.unusedSimpArgs false
set_option linter.unusedVariables false

set_option maxHeartbeats 1000000 in
theorem intsEqual_any (ao bo : Option Addr) (n cap cap' : Nat) (x : Nat → Int) (w : World) (hn : n ≤ 1048576) (h : RowIn w 0 ao n 1 (fun k _ => .int .i64 (x k))) (h' : RowIn w 0 bo n 1 (fun k _ => .int .i64 (x k))) :
    Calls Try.prog 25 #[.slice ao n cap, .slice bo n cap'] w fun e w' => e = .returned (.bool true) ∧ Below w.heap.size w w' := by
  go_enter Try.func25, Try.ntmps25
  go_wp2
  go_loopw [5] (fun i wr => ∃ k : Nat, k ≤ n ∧ i = .int .i64 k ∧ Below w.heap.size w wr) (fun i _ => n - (intOf i).toNat)
  case atStart => exact ⟨0, Nat.zero_le _, rfl, Below.refl _ _⟩
  case round =>
    obtain ⟨k, hk, rfl, hbel⟩ := hrel
    by_cases hlt : k < n
    · rcases h with h | ⟨b, o, hab, _, hbl, hc⟩
      · omega
      · rcases h' with h' | ⟨b', o', hab', _, hbl', hc'⟩
        · omega
        · cases hab
          cases hab'
          have HS : ∀ w', Below w.heap.size w w' → w'.cell? ⟨b, o + k, none⟩ = some (.int .i64 (x k)) ∧ w'.cell? ⟨b', o' + k, none⟩ = some (.int .i64 (x k)) ∧ Below w.heap.size w w' := by
            intro w' hb'
            rw [hb'.cell (p := ⟨b, o + k, none⟩) hbl, hb'.cell (p := ⟨b', o' + k, none⟩) hbl']
            exact ⟨by simpa using hc k hlt 0 (by omega), by simpa using hc' k hlt 0 (by omega), hb'⟩
          have hi0 : (0 : Int) ≤ (k : Int) := by omega
          have hi1 : (k : Int) < (n : Int) := by omega
          clear hc hc'
          go_wp2
          go_region_held3 (fun w' => w'.cell? ⟨b, o + k, none⟩ = some (.int .i64 (x k)) ∧ w'.cell? ⟨b', o' + k, none⟩ = some (.int .i64 (x k)) ∧ Below w.heap.size w w')
            (with_reducible exact HS _ hbel.drew)
            (fail)
          go_wp2
          go_roundw
          case rel => exact ⟨k + 1, by omega, by go_num, hbel.drew⟩
          case measure => simp [intOf]; omega
    · go_wp2
      go_ret
      exact ⟨rfl, hbel⟩

set_option maxHeartbeats 1000000 in
theorem bytes1_any (c0 c1 c2 c3 : Value) (fo fa ba : Option Addr) (n cap m mcap l lcap : Nat) (w : World) :
    Calls Try.prog 21 #[.agg #[c0, c1, c2, c3, .slice fo n cap, .slice fa m mcap, .slice ba l lcap]] w fun e w' => ∃ r, e = .returned (.bool r) ∧ (r = true → n + m + l ≤ 1048576) ∧ Below w.heap.size w w' := by
  go_enter Try.func21, Try.ntmps21
  go_wp2
  all_goals (go_ret; refine ⟨_, rfl, ?_, (Below.refl _ _).alloc (Nat.le_refl _) _⟩)
  all_goals (first | (intro h; cases h; done) | (intro _; omega))

set_option maxHeartbeats 1000000 in
theorem tableBytes_any (c0 c1 c2 c3 : Value) (fo fa ba : Option Addr) (n cap m mcap l lcap : Nat) (w : World) (hn : n ≤ 1048576) (hm : m ≤ 1048576) (hl : l ≤ 1048576) :
    Calls Try.prog 22 #[.agg #[c0, c1, c2, c3, .slice fo n cap, .slice fa m mcap, .slice ba l lcap]] w fun e w' => e = .returned (.int .i64 (96 + 4 * (n : Int) + 8 * (m : Int) + 8 * (l : Int))) ∧ Below w.heap.size w w' := by
  have d1 : decide ((1048576 : Int) < (n : Int)) = false := by simp; omega
  have d2 : decide ((1048576 : Int) < (m : Int)) = false := by simp; omega
  have d3 : decide ((1048576 : Int) < (l : Int)) = false := by simp; omega
  go_enter Try.func22, Try.ntmps22
  go_wp2
  go_ret
  refine ⟨?_, (Below.refl _ _).alloc (Nat.le_refl _) _⟩
  rfl
end Go.Proofs.Qxb6600017a
