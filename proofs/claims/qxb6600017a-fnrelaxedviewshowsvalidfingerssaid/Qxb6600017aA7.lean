import Derived.Test.Qxb6600017aA3
import Derived.Test.Qxb6600017aBase2
namespace Go.Proofs.Qxb6600017a
open Go.RowKit
set_option linter.unusedSimpArgs false
set_option linter.unusedVariables false

theorem info92 : (Try.prog.info? 92).map (fun i => (i.zero, i.size, i.bytes)) = some (some (.agg #[.int .i64 0, .int .i64 0]), 2, 16) := by kernel_rfl

set_option maxHeartbeats 1000000 in
theorem valid_any (ao : Option Addr) (n cap : Nat) (x : Nat → Int) (bv : Nat → Bool) (w : World) (hn : n ≤ 1048576) (hx : ∀ k, -2147483648 ≤ x k ∧ x k ≤ 2147483647) (h : RowIn w 0 ao n 5 (fgV x bv)) :
    Calls Try.prog 46 #[.slice ao n cap] w fun e w' => ∃ v, e = .returned v ∧ IsSl w' w.heap.size v (vl bv n).length 2 (fiV 0 x (vl bv n)) ∧ Below w.heap.size w w' := by
  obtain ⟨i0, hi, hz0, hz1, hz2⟩ := info_parts info92
  go_enter Try.func46, Try.ntmps46
  go_wp2
  go_loopw [3, 8] (fun v i wr => ∃ k : Nat, k ≤ n ∧ i = .int .i64 k ∧ wr.ownsRow w.heap.size 92 2 v (vl bv k).length (fiL 0 x (vl bv k)) ∧ Below w.heap.size w wr) (fun _ i _ => n - (intOf i).toNat)
  case atStart => exact ⟨0, Nat.zero_le _, rfl, World.ownsRow_nil _ _ _ _, Below.refl _ _⟩
  case round =>
    obtain ⟨k, hk, rfl, hown, hbel⟩ := hrel
    have hvl := vl_le bv k
    by_cases hlt : k < n
    · rcases h with h | ⟨b, o, hab, _, hbl, hc⟩
      · omega
      · cases hab
        have hcc : ∀ c, c < 5 → wr.cell? ⟨b, o + k * 5 + c, none⟩ = some (fgV x bv k c) := fun c hc5 => by
          rw [hbel.cell (p := ⟨b, o + k * 5 + c, none⟩) hbl]
          exact hc k hlt c hc5
        have c0 : wr.cell? ⟨b, o + k * 5, none⟩ = some (.int .u64 0) := hcc 0 (by omega)
        have c1 : wr.cell? ⟨b, o + k * 5 + 1, none⟩ = some (.int .u64 0) := hcc 1 (by omega)
        have c2 : wr.cell? ⟨b, o + k * 5 + 2, none⟩ = some (.int .u64 0) := hcc 2 (by omega)
        have c3 : wr.cell? ⟨b, o + k * 5 + 3, none⟩ = some (.int .i32 (x k)) := hcc 3 (by omega)
        have c4 : wr.cell? ⟨b, o + k * 5 + 4, none⟩ = some (.bool (bv k)) := hcc 4 (by omega)
        have hxk := hx k
        clear hc hcc hx
        cases hbv : bv k
        · have HV : Hid _ := vl_miss bv k hbv
          rw [hbv] at c4
          clear hbv
          go_wp2
          go_roundw
          case rel => exact ⟨k + 1, by omega, by go_num, by rw [HV.out]; exact hown.alloc _, hbel.alloc hbel.size _⟩
          case measure => simp [intOf]; omega
        · have HV : Hid _ := vl_hit bv k hbv
          rw [hbv] at c4
          clear hbv
          go_wp2_with (first
            | (at_builtin; refine wpList_append_own _ rfl _ _ 73 rfl w.heap.size 92 i0 (.agg #[.int .i64 0, .int .i64 0]) 2 16 Try.underlying73 hi hz0 hz1 hz2 rfl (by decide) _ _ _ rfl ((hown.alloc _).alloc _) ⟨wr.heap.size + 1, 0, none⟩ 1 1 [.int .i64 (k : Int), .int .i64 (x k)] rfl rfl ?c1 ?c2 ?c3 ?c4 ?c5 ?_)
            | go_in)
          case c1 => exact news_block (blk_new _ _ (by simp))
          case c2 => intro u hu; simp at hu; rcases hu with rfl | rfl <;> rfl
          case c3 => unfold maxLen; omega
          case c4 => omega
          case c5 => have := hbel.size; simp; omega
          · intro v' w1 hown' hgrow _
            have hb1 : Below w.heap.size w w1 := ((hbel.alloc hbel.size _).alloc (by have := hbel.size; simp; omega) _).grown hgrow (by have := hbel.size; simp; omega) (fun j hj => (hown.lt j hj).1)
            clear c0 c1 c2 c3 c4 hown hgrow
            go_wp2
            go_roundw
            case rel => exact ⟨k + 1, by omega, by go_num, by rw [HV.out, fiL_snoc, List.length_append]; simpa using hown', hb1⟩
            case measure => simp [intOf]; omega
    · have hkn : k = n := by omega
      subst hkn
      go_wp2
      go_ret
      exact ⟨_, rfl, isSl_of_owns hown (fiL_get 0 x (vl bv k)), hbel⟩
end Go.Proofs.Qxb6600017a
