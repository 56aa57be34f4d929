import Derived.Test.Qxb6600017aProg
import Derived.Test.Qxb6600017aBase
namespace Go.Proofs.Qxb6600017a
open Go.RowKit

/-- A peer's cells: the id's three words, all zero, and the address. -/
def peerV (x : Int) : Value := .agg #[.int .u64 0, .int .u64 0, .int .u64 0, .int .i32 x]

theorem peer_any (x : Int) (w : World) :
    Calls Try.prog 41 #[.int .i32 x] w fun e w' => e = .returned (.agg #[.int .u64 0, .int .u64 0, .int .u64 0, .int .i32 x]) ∧ Below w.heap.size w w' := by
  go_enter Try.func41, Try.ntmps41
  go_wp2
  refine bodyPost_ret (v := .agg #[.int .u64 0, .int .u64 0, .int .u64 0, .int .i32 x]) (by simp [results, Try.results41, go_sem]) rfl ⟨rfl, ?_⟩
  exact (Below.refl _ _).alloc (Nat.le_refl _) _

theorem bits_any (c1 c2 c3 : Value) (n : Int) (w : World) :
    Calls Try.prog 16 #[.agg #[.int .i64 n, c1, c2, c3]] w fun e w' => e = .returned (.int .i64 n) ∧ Below w.heap.size w w' := by
  go_enter Try.func16, Try.ntmps16
  go_wp2
  go_ret
  exact ⟨rfl, (Below.refl _ _).alloc (Nat.le_refl _) _⟩
end Go.Proofs.Qxb6600017a
