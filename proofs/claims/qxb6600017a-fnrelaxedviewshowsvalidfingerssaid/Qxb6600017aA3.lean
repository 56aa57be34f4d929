import Derived.Test.Qxb6600017aA1
import Derived.Deep.RegionHeld3
namespace Go.Proofs.Qxb6600017a
open Go.RowKit

theorem info70 : (Try.prog.info? 70).map (fun i => (i.zero, i.size, i.bytes)) = some (some (.agg #[.int .u64 0, .int .u64 0, .int .u64 0, .int .i32 0, .bool false]), 5, 40) := by kernel_rfl

/-- A finger as the law draws it: address, valid. -/
def zfV (x : Nat → Int) (bv : Nat → Bool) (k c : Nat) : Value := if c = 0 then .int .i32 (x k) else .bool (bv k)
/-- A finger of the library's: the peer's id (zero), its address, valid. -/
def fgV (x : Nat → Int) (bv : Nat → Bool) (k c : Nat) : Value := if c = 3 then .int .i32 (x k) else if c = 4 then .bool (bv k) else .int .u64 0

theorem fg_store {w : World} {g t n k : Nat} {f : Nat → Value} {x : Nat → Int} {bv : Nat → Bool} (h : w.rowIs g t n f) (hf : ∀ j, j < k → ∀ c, c < 5 → f (j * 5 + c) = fgV x bv j c) :
    ∃ f', (((((w.setCell ⟨g, k * 5, none⟩ (.int .u64 0)).setCell ⟨g, k * 5 + 1, none⟩ (.int .u64 0)).setCell ⟨g, k * 5 + 2, none⟩ (.int .u64 0)).setCell ⟨g, k * 5 + 3, none⟩ (.int .i32 (x k))).setCell ⟨g, k * 5 + 4, none⟩ (.bool (bv k))).rowIs g t n f' ∧
      ∀ j, j < k + 1 → ∀ c, c < 5 → f' (j * 5 + c) = fgV x bv j c := by
  refine ⟨_, ((((h.set _ _).set _ _).set _ _).set _ _).set _ _, fun j hj c hc => ?_⟩
  by_cases hjk : j = k
  · subst hjk
    rcases (by omega : c = 0 ∨ c = 1 ∨ c = 2 ∨ c = 3 ∨ c = 4) with rfl | rfl | rfl | rfl | rfl <;> simp [fgV]
  · have e0 : ∀ d, d < 5 → j * 5 + c ≠ k * 5 + d := fun d hd => by omega
    rw [← hf j (by omega) c hc]
    simp [e0 1, e0 2, e0 3, e0 4]
    exact fun h => absurd h (e0 0 (by omega))

set_option maxHeartbeats 400000 in
theorem fingers_some (a : Addr) (n cap : Nat) (x : Nat → Int) (bv : Nat → Bool) (w : World) (hn : n ≤ 1048576) (h : RowIn w 0 (some a) n 2 (zfV x bv)) :
    Calls Try.prog 39 #[.slice (some a) n cap] w fun e w' => ∃ v, e = .returned v ∧ IsSl w' w.heap.size v n 5 (fgV x bv) ∧ Below w.heap.size w w' := by
  have hnil := fun w => Lib.run_eql_slice_nil (P := Try.prog) w 31 81 (some a) n cap 0 0 Try.underlying31
  have hmk := run_make_any (P := Try.prog) 51 70 _ 5 40 Try.underlying51 info70 .i64 .i64 n (by omega) (by omega)
  go_enter Try.func39, Try.ntmps39
  go_wp2
  clear hnil hmk
  go_loopw [4] (fun i wr => ∃ k : Nat, k ≤ n ∧ i = .int .i64 k ∧ (∃ f, wr.rowIs w.heap.size 70 (n * 5) f ∧ ∀ j, j < k → ∀ c, c < 5 → f (j * 5 + c) = fgV x bv j c) ∧ Below w.heap.size w wr) (fun i _ => n - (intOf i).toNat)
  case atStart =>
    have h1 := rowIs_made_any w #[.int .u64 0, .int .u64 0, .int .u64 0, .int .i32 0, .bool false] (n * 5) 70
    exact ⟨0, Nat.zero_le _, rfl, ⟨_, h1, fun j hj => by omega⟩, (Below.refl _ _).alloc (Nat.le_refl _) _⟩
  case round =>
    obtain ⟨k, hk, rfl, ⟨f, hrow, hf⟩, hbel⟩ := hrel
    by_cases hlt : k < n
    · rcases h with h | ⟨b, o, hab, _, hbl, hc⟩
      · omega
      · cases hab
        have HS : ∀ w', Below w.heap.size w w' → w'.cell? ⟨b, o + k * 2, none⟩ = some (.int .i32 (x k)) ∧ w'.cell? ⟨b, o + k * 2 + 1, none⟩ = some (.bool (bv k)) ∧ Below w.heap.size w w' := by
          intro w' hb'
          rw [hb'.cell (p := ⟨b, o + k * 2, none⟩) hbl, hb'.cell (p := ⟨b, o + k * 2 + 1, none⟩) hbl]
          exact ⟨by simpa [zfV] using hc k hlt 0 (by omega), by simpa [zfV] using hc k hlt 1 (by omega), hb'⟩
        have hi0 : (0 : Int) ≤ (k : Int) := by omega
        have hi1 : (k : Int) < (n : Int) := by omega
        clear hc
        go_wp2
        go_region_held3 (fun w' => w'.cell? ⟨b, o + k * 2, none⟩ = some (.int .i32 (x k)) ∧ w'.cell? ⟨b, o + k * 2 + 1, none⟩ = some (.bool (bv k)) ∧ Below w.heap.size w w')
          (first | with_reducible exact HS _ hbel.drew | with_reducible exact HS _ hbel1 | with_reducible exact HS _ (((((hbel1.setCell (Nat.le_refl _) _).setCell (Nat.le_refl _) _).setCell (Nat.le_refl _) _).setCell (Nat.le_refl _) _).setCell (Nat.le_refl _) _))
          (first | (go_at_call 41; refine (peer_any _ _).mono ?_; rintro e w1 ⟨rfl, hb1⟩; have hbel1 : Below w.heap.size w w1 := hbel.drew.trans (hb1.mono hbel.size); have hrow1 : w1.rowIs w.heap.size 70 (n * 5) f := hrow.of_block (hb1.block _ hrow.lt); have q0 : w1.cell? ⟨w.heap.size, k * 5, none⟩ = some (f (k * 5)) := hrow1.cell (by omega); have q1 : w1.cell? ⟨w.heap.size, k * 5 + 1, none⟩ = some (f (k * 5 + 1)) := hrow1.cell (by omega); have q2 : w1.cell? ⟨w.heap.size, k * 5 + 2, none⟩ = some (f (k * 5 + 2)) := hrow1.cell (by omega); have q3 : w1.cell? ⟨w.heap.size, k * 5 + 3, none⟩ = some (f (k * 5 + 3)) := hrow1.cell (by omega); have q4 : w1.cell? ⟨w.heap.size, k * 5 + 4, none⟩ = some (f (k * 5 + 4)) := hrow1.cell (by omega); have qf : ∀ i, w1.frozen? ⟨w.heap.size, i, none⟩ = false := fun i => hrow1.frozen i))
        have R := fg_store hrow1 hf
        clear q0 q1 q2 q3 q4 qf hrow1 hf hrow
        go_wp2
        go_roundw
        case rel => exact ⟨k + 1, by omega, by go_num, R, ((((hbel1.setCell (Nat.le_refl _) _).setCell (Nat.le_refl _) _).setCell (Nat.le_refl _) _).setCell (Nat.le_refl _) _).setCell (Nat.le_refl _) _⟩
        case measure => simp [intOf]; omega
    · go_wp2
      go_ret
      exact ⟨_, rfl, isSl_of_rowIs hrow _ (Nat.le_refl _) (fun j hj c hc => hf j (by omega) c hc), hbel⟩

theorem fingers_any (ao : Option Addr) (n cap : Nat) (x : Nat → Int) (bv : Nat → Bool) (w : World) (hn : n ≤ 1048576) (hnl : ao = none → n = 0 ∧ cap = 0) (h : RowIn w 0 ao n 2 (zfV x bv)) :
    Calls Try.prog 39 #[.slice ao n cap] w fun e w' => ∃ v, e = .returned v ∧ IsSl w' w.heap.size v n 5 (fgV x bv) ∧ Below w.heap.size w w' := by
  cases ao with
  | some a => exact fingers_some a n cap x bv w hn h
  | none =>
    obtain ⟨rfl, rfl⟩ := hnl rfl
    have hnil := fun w => Lib.run_eql_slice_nil (P := Try.prog) w 31 81 none 0 0 0 0 Try.underlying31
    go_enter Try.func39, Try.ntmps39
    go_wp2
    go_ret
    exact ⟨_, rfl, IsSl.nil _ _ _ _, Below.refl _ _⟩
end Go.Proofs.Qxb6600017a
