import Derived.Test.Qxb6600017aC1
import Derived.Test.Qxb6600017aC2
namespace Go.Proofs.Qxb6600017a
open Go.RowKit
set_option linter.unusedSimpArgs false
set_option linter.unusedVariables false

theorem isSl_row {w : World} {lo : Nat} {ao : Option Addr} {n cap s : Nat} {g : Nat → Nat → Value} (h : IsSl w lo (.slice ao n cap) n s g) : RowIn w 0 ao n s g := by
  obtain ⟨a', c', e, _, hr⟩ := h
  simp only [Value.slice.injEq] at e
  obtain ⟨rfl, _, rfl⟩ := e
  exact hr.lower (Nat.zero_le _)

theorem chord1 (np qp : Bool) (p s fg : Int) (ao1 : Option Addr) (n cap1 : Nat) (x : Nat → Int) (ao2 : Option Addr) (m cap2 : Nat) (fx : Nat → Int) (fb : Nat → Bool) (W : World) (blk lo1 lo2 : Nat)
    (hT : W.heap[blk]? = some (.cells #[.int .u64 0, .int .u64 0, .int .u64 0, .int .u64 0, .int .u64 0, .int .u64 0, .int .i32 p, .int .u64 0, .int .u64 0, .int .u64 0, .int .i32 s, .bool np, .bool qp, .slice ao1 n cap1, .slice ao2 m cap2] 53 (0, 0)))
    (K1 : IsSl W lo1 (.slice ao1 n cap1) n 4 (prV x)) (K2 : IsSl W lo2 (.slice ao2 m cap2) m 5 (fgV fx fb))
    (hp : -2147483648 ≤ p ∧ p ≤ 2147483647) (hs : -2147483648 ≤ s ∧ s ≤ 2147483647)
    (hn : n ≤ 1048576) (hx : ∀ k, -2147483648 ≤ x k ∧ x k ≤ 2147483647) (hm : m ≤ 1048576) (hfx : ∀ k, -2147483648 ≤ fx k ∧ fx k ≤ 2147483647) :
    Calls Try.prog 12 #[.slice (some ⟨blk, 0, none⟩) 1 1, .agg #[.int .i64 0, .int .u64 0, .int .u64 0, .int .u64 0], .int .i64 fg, .int .i64 0] W fun e w' => ∃ v1 v2 v3, e = .returned (.agg #[.int .i64 s, .int .i64 (prShown np p), v1, v2, v3]) ∧
      IsSl w' W.heap.size v1 n 1 (fun k _ => .int .i64 (x k)) ∧ IsSl w' W.heap.size v2 (vl fb m).length 2 (fiV (-(m : Int)) fx (vl fb m)) ∧ IsSl w' W.heap.size v3 0 2 (pairV (fun _ => 0) (fun _ => 0)) ∧ Below W.heap.size W w' :=
  zzChord_any np 1 1 0 blk 0 p s fg ao1 n cap1 x ao2 m cap2 fx fb W (by omega) (by omega) (lt_of_block hT) (cell_at hT) (cell_at hT) (cell_at hT) (cell_at hT) (cell_at hT) hp hs hn (isSl_row K1) hx hm (isSl_row K2) hfx

theorem rel1 (np qp : Bool) (p s : Int) (ao1 : Option Addr) (n cap1 : Nat) (x : Nat → Int) (ao2 : Option Addr) (m cap2 : Nat) (fx : Nat → Int) (fb : Nat → Bool) (ao3 : Option Addr) (l cap3 : Nat) (bx : Nat → Int) (bb : Nat → Bool) (W : World) (blk lo1 lo2 lo3 : Nat)
    (hT : W.heap[blk]? = some (.cells #[.int .u64 0, .int .u64 0, .int .u64 0, .int .u64 0, .int .u64 0, .int .u64 0, .int .i32 p, .int .u64 0, .int .u64 0, .int .u64 0, .int .i32 s, .bool np, .bool qp, .slice ao1 n cap1, .slice ao2 m cap2, .slice ao3 l cap3] 60 (0, 0)))
    (K1 : IsSl W lo1 (.slice ao1 n cap1) n 4 (prV x)) (K2 : IsSl W lo2 (.slice ao2 m cap2) m 5 (fgV fx fb)) (K3 : IsSl W lo3 (.slice ao3 l cap3) l 5 (fgV bx bb))
    (hp : -2147483648 ≤ p ∧ p ≤ 2147483647) (hs : -2147483648 ≤ s ∧ s ≤ 2147483647)
    (hn : n ≤ 1048576) (hx : ∀ k, -2147483648 ≤ x k ∧ x k ≤ 2147483647) (hm : m ≤ 1048576) (hfx : ∀ k, -2147483648 ≤ fx k ∧ fx k ≤ 2147483647) (hl : l ≤ 1048576) (hbx : ∀ k, -2147483648 ≤ bx k ∧ bx k ≤ 2147483647) :
    Calls Try.prog 23 #[.slice (some ⟨blk, 0, none⟩) 1 1, .int .i64 0] W fun e w' => ∃ v1 v2 v3, e = .returned (.agg #[.int .i64 s, .int .i64 (prShown np p), v1, v2, v3]) ∧
      IsSl w' W.heap.size v1 n 1 (fun k _ => .int .i64 (x k)) ∧ IsSl w' W.heap.size v2 (vl fb m).length 2 (fiV 0 fx (vl fb m)) ∧ IsSl w' W.heap.size v3 (vl bb l).length 2 (fiV 0 bx (vl bb l)) ∧ Below W.heap.size W w' :=
  zzRel_any np 1 1 0 blk 0 p s ao1 n cap1 x ao2 m cap2 fx fb ao3 l cap3 bx bb W (by omega) (by omega) (lt_of_block hT) (cell_at hT) (cell_at hT) (cell_at hT) (cell_at hT) (cell_at hT) (cell_at hT) hp hs hn (isSl_row K1) hx hm (isSl_row K2) hfx hl (isSl_row K3) hbx
end Go.Proofs.Qxb6600017a
