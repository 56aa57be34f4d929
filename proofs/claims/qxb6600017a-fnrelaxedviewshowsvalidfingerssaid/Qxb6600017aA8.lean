import Derived.Test.Qxb6600017aA1
import Derived.Test.Qxb6600017aBase2
import Derived.Deep.RegionHeld3
namespace Go.Proofs.Qxb6600017a
open Go.RowKit
set_option linter.unusedSimpArgs false
set_option linter.unusedVariables false

theorem info65 : (Try.prog.info? 65).map (fun i => (i.zero, i.size, i.bytes)) = some (some (.agg #[.int .i64 0, .int .i64 0]), 2, 16) := by kernel_rfl

def pairV (y z : Nat → Int) (k c : Nat) : Value := if c = 0 then .int .i64 (y k) else .int .i64 (z k)

theorem pair_store {w : World} {g t n k : Nat} {f : Nat → Value} {y z : Nat → Int} (h : w.rowIs g t n f) (hf : ∀ j, j < k → ∀ c, c < 2 → f (j * 2 + c) = pairV y z j c) :
    ∃ f', ((w.setCell ⟨g, k * 2, none⟩ (.int .i64 (y k))).setCell ⟨g, k * 2 + 1, none⟩ (.int .i64 (z k))).rowIs g t n f' ∧ ∀ j, j < k + 1 → ∀ c, c < 2 → f' (j * 2 + c) = pairV y z j c := by
  refine ⟨_, (h.set _ _).set _ _, fun j hj c hc => ?_⟩
  by_cases hjk : j = k
  · subst hjk
    rcases (by omega : c = 0 ∨ c = 1) with rfl | rfl <;> simp [pairV]
  · have e0 : ∀ d, d < 2 → j * 2 + c ≠ k * 2 + d := fun d hd => by omega
    rw [← hf j (by omega) c hc]
    simp [e0 1]
    exact fun h => absurd h (e0 0 (by omega))

set_option maxHeartbeats 1000000 in
theorem fingerList_some (a : Addr) (n cap : Nat) (y z : Nat → Int) (w : World) (hn : n ≤ 1048576) (h : RowIn w 0 (some a) n 2 (pairV y z)) :
    Calls Try.prog 45 #[.slice (some a) n cap] w fun e w' => ∃ v, e = .returned v ∧ IsSl w' w.heap.size v n 2 (pairV y z) ∧ Below w.heap.size w w' := by
  have hnil := fun w => Lib.run_eql_slice_nil (P := Try.prog) w 73 92 (some a) n cap 0 0 Try.underlying73
  have hmk := run_make_any (P := Try.prog) 35 65 _ 2 16 Try.underlying35 info65 .i64 .i64 n (by omega) (by omega)
  go_enter Try.func45, Try.ntmps45
  go_wp2
  clear hnil hmk
  go_loopw [4] (fun i wr => ∃ k : Nat, k ≤ n ∧ i = .int .i64 k ∧ (∃ f, wr.rowIs w.heap.size 65 (n * 2) f ∧ ∀ j, j < k → ∀ c, c < 2 → f (j * 2 + c) = pairV y z j c) ∧ Below w.heap.size w wr) (fun i _ => n - (intOf i).toNat)
  case atStart =>
    have h1 := rowIs_made_any w #[.int .i64 0, .int .i64 0] (n * 2) 65
    exact ⟨0, Nat.zero_le _, rfl, ⟨_, h1, fun j hj => by omega⟩, (Below.refl _ _).alloc (Nat.le_refl _) _⟩
  case round =>
    obtain ⟨k, hk, rfl, ⟨f, hrow, hf⟩, hbel⟩ := hrel
    by_cases hlt : k < n
    · rcases h with h | ⟨b, o, hab, _, hbl, hc⟩
      · omega
      · cases hab
        have HS : ∀ w', Below w.heap.size w w' → w'.cell? ⟨b, o + k * 2, none⟩ = some (.int .i64 (y k)) ∧ w'.cell? ⟨b, o + k * 2 + 1, none⟩ = some (.int .i64 (z k)) ∧ Below w.heap.size w w' := by
          intro w' hb'
          rw [hb'.cell (p := ⟨b, o + k * 2, none⟩) hbl, hb'.cell (p := ⟨b, o + k * 2 + 1, none⟩) hbl]
          exact ⟨by simpa [pairV] using hc k hlt 0 (by omega), by simpa [pairV] using hc k hlt 1 (by omega), hb'⟩
        have hi0 : (0 : Int) ≤ (k : Int) := by omega
        have hi1 : (k : Int) < (n : Int) := by omega
        have q0 : wr.cell? ⟨w.heap.size, k * 2, none⟩ = some (f (k * 2)) := hrow.cell (by omega)
        have q1 : wr.cell? ⟨w.heap.size, k * 2 + 1, none⟩ = some (f (k * 2 + 1)) := hrow.cell (by omega)
        have qf : ∀ i, wr.frozen? ⟨w.heap.size, i, none⟩ = false := fun i => hrow.frozen i
        have R : Hid _ := pair_store hrow hf
        have hb2 := (hbel.setCell (p := ⟨w.heap.size, k * 2, none⟩) (Nat.le_refl _) (.int .i64 (y k))).setCell (p := ⟨w.heap.size, k * 2 + 1, none⟩) (Nat.le_refl _) (.int .i64 (z k))
        clear hc hf
        go_wp2
        go_region_held3 (fun w' => w'.cell? ⟨b, o + k * 2, none⟩ = some (.int .i64 (y k)) ∧ w'.cell? ⟨b, o + k * 2 + 1, none⟩ = some (.int .i64 (z k)) ∧ Below w.heap.size w w')
          (first | with_reducible exact HS _ hbel.drew | with_reducible exact HS _ hb2.drew)
          (fail)
        go_wp2
        go_roundw
        case rel => exact ⟨k + 1, by omega, by go_num, R.out, hb2.drew⟩
        case measure => simp [intOf]; omega
    · go_wp2
      go_ret
      exact ⟨_, rfl, isSl_of_rowIs hrow _ (Nat.le_refl _) (fun j hj c hc => hf j (by omega) c hc), hbel⟩

theorem fingerList_any (ao : Option Addr) (n cap : Nat) (y z : Nat → Int) (w : World) (hn : n ≤ 1048576) (hnl : ao = none → n = 0 ∧ cap = 0) (h : RowIn w 0 ao n 2 (pairV y z)) :
    Calls Try.prog 45 #[.slice ao n cap] w fun e w' => ∃ v, e = .returned v ∧ IsSl w' w.heap.size v n 2 (pairV y z) ∧ Below w.heap.size w w' := by
  cases ao with
  | some a => exact fingerList_some a n cap y z w hn h
  | none =>
    obtain ⟨rfl, rfl⟩ := hnl rfl
    have hnil := fun w => Lib.run_eql_slice_nil (P := Try.prog) w 73 92 none 0 0 0 0 Try.underlying73
    go_enter Try.func45, Try.ntmps45
    go_wp2
    go_ret
    exact ⟨_, rfl, IsSl.nil _ _ _ _, Below.refl _ _⟩
end Go.Proofs.Qxb6600017a
