import Derived.Test.Qxb6600017aProg
import Derived.Test.Qxb6600017aBase
namespace Go.Proofs.Qxb6600017a
open Go.RowKit

theorem info3 : (Try.prog.info? 3).map (fun i => (i.zero, i.size, i.bytes)) = some (some (.int .i64 0), 1, 8) := by kernel_rfl

set_option maxHeartbeats 400000 in
theorem intList_some (a : Addr) (n cap : Nat) (x : Nat → Int) (w : World) (hn : n ≤ 1048576) (h : RowIn w 0 (some a) n 1 (fun k _ => .int .i64 (x k))) :
    Calls Try.prog 44 #[.slice (some a) n cap] w fun e w' => ∃ v, e = .returned v ∧ IsSl w' w.heap.size v n 1 (fun k _ => .int .i64 (x k)) ∧ Below w.heap.size w w' := by
  have hnil := fun w => Lib.run_eql_slice_nil (P := Try.prog) w 34 3 (some a) n cap 0 0 Try.underlying34
  have hmk := run_make_any (P := Try.prog) 34 3 (.int .i64 0) 1 8 Try.underlying34 info3 .i64 .i64 n (by omega) (by omega)
  go_enter Try.func44, Try.ntmps44
  go_wp2
  clear hnil hmk
  go_loopw [4] (fun i wr => ∃ k : Nat, k ≤ n ∧ i = .int .i64 k ∧ (∃ f, wr.rowIs w.heap.size 3 n f ∧ ∀ j, j < k → f j = .int .i64 (x j)) ∧ Below w.heap.size w wr) (fun i _ => n - (intOf i).toNat)
  case atStart =>
    have h1 := rowIs_made_any w #[.int .i64 0] n 3
    exact ⟨0, Nat.zero_le _, rfl, ⟨_, h1, fun j hj => by omega⟩, (Below.refl _ _).alloc (Nat.le_refl _) _⟩
  case round =>
    obtain ⟨k, hk, rfl, ⟨f, hrow, hf⟩, hbel⟩ := hrel
    by_cases hlt : k < n
    · rcases h with h | ⟨b, o, hab, _, hbl, hc⟩
      · omega
      · cases hab
        have hck : wr.cell? ⟨b, o + k, none⟩ = some (.int .i64 (x k)) := by
          rw [hbel.cell (p := ⟨b, o + k, none⟩) hbl]
          have := hc k hlt 0 (by omega)
          simpa using this
        have hok : wr.cell? ⟨w.heap.size, k, none⟩ = some (f k) := hrow.cell hlt
        have hof : wr.frozen? ⟨w.heap.size, k, none⟩ = false := hrow.frozen k
        clear hc
        go_wp2
        go_roundw
        case rel =>
          refine ⟨k + 1, by omega, by go_num, ⟨_, hrow.set k (.int .i64 (x k)), fun j hj => ?_⟩, hbel.setCell (Nat.le_refl _) _⟩
          by_cases hjk : j = k
          · simp [hjk]
          · simp [hjk]; exact hf j (by omega)
        case measure => simp [intOf]; omega
    · go_wp2
      go_ret
      exact ⟨_, rfl, isSl_of_rowIs (s := 1) (by simpa using hrow) _ (Nat.le_refl _) (fun j hj c hc => by
        have : c = 0 := by omega
        subst this; simpa using hf j (by omega)), hbel⟩

theorem intList_any (ao : Option Addr) (n cap : Nat) (x : Nat → Int) (w : World) (hn : n ≤ 1048576) (hnl : ao = none → n = 0 ∧ cap = 0) (h : RowIn w 0 ao n 1 (fun k _ => .int .i64 (x k))) :
    Calls Try.prog 44 #[.slice ao n cap] w fun e w' => ∃ v, e = .returned v ∧ IsSl w' w.heap.size v n 1 (fun k _ => .int .i64 (x k)) ∧ Below w.heap.size w w' := by
  cases ao with
  | some a => exact intList_some a n cap x w hn h
  | none =>
    obtain ⟨rfl, rfl⟩ := hnl rfl
    have hnil := fun w => Lib.run_eql_slice_nil (P := Try.prog) w 34 3 none 0 0 0 0 Try.underlying34
    go_enter Try.func44, Try.ntmps44
    go_wp2
    go_ret
    exact ⟨_, rfl, IsSl.nil _ _ _ _, Below.refl _ _⟩
end Go.Proofs.Qxb6600017a
