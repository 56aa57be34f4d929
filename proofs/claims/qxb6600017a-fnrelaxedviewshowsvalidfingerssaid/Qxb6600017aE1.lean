import Derived.Test.Qxb6600017aA1
import Derived.Test.Qxb6600017aA3
import Derived.Test.Qxb6600017aBase2
import Derived.Test.Qxb6600017aC1
import Derived.Deep.RegionHeld3
namespace Go.Proofs.Qxb6600017a
open Go.RowKit
set_option linter.unusedSimpArgs false
set_option linter.unusedVariables false

theorem vl_mono (bv : Nat → Bool) (k i j : Nat) (hij : i < j) (hj : j < (vl bv k).length) : (vl bv k).getD i 0 < (vl bv k).getD j 0 := by
  have hp : (vl bv k).Pairwise (· < ·) := List.Pairwise.filter _ List.pairwise_lt_range
  have := List.pairwise_iff_getElem.1 hp i j (by omega) hj hij
  simpa [List.getD, hj, show i < (vl bv k).length by omega] using this

theorem predShown_any (np qp : Bool) (p : Int) (c1 fo fw bk : Value) (w : World) (hp : -2147483648 ≤ p ∧ p ≤ 2147483647) :
    Calls Try.prog 14 #[.int .i64 (prShown np p), .agg #[.int .i32 p, c1, .bool np, .bool qp, fo, fw, bk]] w fun e w' => e = .returned (.bool true) ∧ Below w.heap.size w w' := by
  cases np
  · have hpp : prShown false p = p := rfl
    rw [hpp]
    go_enter Try.func14, Try.ntmps14
    go_wp2
    go_ret
    exact ⟨by simp, (Below.refl _ _).alloc (Nat.le_refl _) _⟩
  · have hpp : prShown true p = -1 := rfl
    rw [hpp]
    go_enter Try.func14, Try.ntmps14
    go_wp2
    go_ret
    exact ⟨by simp, (Below.refl _ _).alloc (Nat.le_refl _) _⟩

set_option maxHeartbeats 1000000 in
theorem followShown_any (ao bo : Option Addr) (n cap cap' : Nat) (x : Nat → Int) (w : World) (hn : n ≤ 1048576) (hx : ∀ k, -2147483648 ≤ x k ∧ x k ≤ 2147483647) (h : RowIn w 0 ao n 1 (fun k _ => .int .i64 (x k))) (h' : RowIn w 0 bo n 1 (fun k _ => .int .i32 (x k))) :
    Calls Try.prog 15 #[.slice ao n cap, .slice bo n cap'] w fun e w' => e = .returned (.bool true) ∧ Below w.heap.size w w' := by
  go_enter Try.func15, Try.ntmps15
  go_wp2
  go_loopw [5] (fun i wr => ∃ k : Nat, k ≤ n ∧ i = .int .i64 k ∧ Below w.heap.size w wr) (fun i _ => n - (intOf i).toNat)
  case atStart => exact ⟨0, Nat.zero_le _, rfl, Below.refl _ _⟩
  case round =>
    obtain ⟨k, hk, rfl, hbel⟩ := hrel
    by_cases hlt : k < n
    · rcases h with h | ⟨b, o, hab, _, hbl, hc⟩
      · omega
      · rcases h' with h' | ⟨b', o', hab', _, hbl', hc'⟩
        · omega
        · cases hab
          cases hab'
          have HS : ∀ w', Below w.heap.size w w' → w'.cell? ⟨b, o + k, none⟩ = some (.int .i64 (x k)) ∧ w'.cell? ⟨b', o' + k, none⟩ = some (.int .i32 (x k)) ∧ Below w.heap.size w w' := by
            intro w' hb'
            rw [hb'.cell (p := ⟨b, o + k, none⟩) hbl, hb'.cell (p := ⟨b', o' + k, none⟩) hbl']
            exact ⟨by simpa using hc k hlt 0 (by omega), by simpa using hc' k hlt 0 (by omega), hb'⟩
          have hi0 : (0 : Int) ≤ (k : Int) := by omega
          have hi1 : (k : Int) < (n : Int) := by omega
          have hwx : IntKind.i64.wrap (x k) = x k := by have := hx k; rw [IntKind.wrap_i64]; omega
          clear hc hc' hx
          go_wp2
          go_region_held3 (fun w' => w'.cell? ⟨b, o + k, none⟩ = some (.int .i64 (x k)) ∧ w'.cell? ⟨b', o' + k, none⟩ = some (.int .i32 (x k)) ∧ Below w.heap.size w w')
            (with_reducible exact HS _ hbel.drew)
            (fail)
          go_wp2
          go_roundw
          case rel => exact ⟨k + 1, by omega, by go_num, hbel.drew⟩
          case measure => simp [intOf]; omega
    · go_wp2
      go_ret
      exact ⟨rfl, hbel⟩

set_option maxHeartbeats 1000000 in
theorem validCount_any (ao : Option Addr) (n cap : Nat) (x : Nat → Int) (bv : Nat → Bool) (w : World) (hn : n ≤ 1048576) (h : RowIn w 0 ao n 2 (zfV x bv)) :
    Calls Try.prog 37 #[.slice ao n cap] w fun e w' => e = .returned (.int .i64 ((vl bv n).length : Nat)) ∧ w' = w := by
  go_enter Try.func37, Try.ntmps37
  go_wp2
  go_loop [3, 4] (fun c i => ∃ k : Nat, k ≤ n ∧ i = .int .i64 k ∧ c = .int .i64 ((vl bv k).length : Nat)) (fun _ i => n - (intOf i).toNat)
  case atStart => exact ⟨0, Nat.zero_le _, rfl, rfl⟩
  case round =>
    obtain ⟨k, hk, rfl, rfl⟩ := hrel
    have hvl := vl_le bv k
    by_cases hlt : k < n
    · rcases h with h | ⟨b, o, hab, _, hbl, hc⟩
      · omega
      · cases hab
        have c1 : w.cell? ⟨b, o + k * 2 + 1, none⟩ = some (.bool (bv k)) := by simpa [zfV] using hc k hlt 1 (by omega)
        clear hc
        cases hbv : bv k
        · have HV : Hid _ := vl_miss bv k hbv
          rw [hbv] at c1
          clear hbv
          go_wp2
          go_round
          case rel => exact ⟨k + 1, by omega, by go_num, by rw [HV.out]⟩
          case measure => simp [intOf]; omega
        · have HV : Hid _ := vl_hit bv k hbv
          rw [hbv] at c1
          clear hbv
          go_wp2
          go_round
          case rel => exact ⟨k + 1, by omega, by go_num, by rw [HV.out, List.length_append]; simp⟩
          case measure => simp [intOf]; omega
    · have hkn : k = n := by omega
      subst hkn
      go_wp2
      go_ret
      exact ⟨rfl, rfl⟩

set_option maxHeartbeats 2000000 in
theorem sideShown_any (ao fa : Option Addr) (m cap mcap : Nat) (first : Int) (fx : Nat → Int) (fb : Nat → Bool) (w : World) (hm : m ≤ 1048576) (hf : -1048576 ≤ first ∧ first ≤ 1048576) (hfx : ∀ k, -2147483648 ≤ fx k ∧ fx k ≤ 2147483647)
    (h1 : RowIn w 0 ao (vl fb m).length 2 (fiV first fx (vl fb m))) (h2 : RowIn w 0 fa m 2 (zfV fx fb)) :
    Calls Try.prog 17 #[.slice ao (vl fb m).length cap, .slice fa m mcap, .int .i64 first] w fun e w' => e = .returned (.bool true) ∧ Below w.heap.size w w' := by
  go_enter Try.func17, Try.ntmps17
  go_wp2_with fail
  refine (validCount_any fa m mcap fx fb _ hm h2).mono ?_
  rintro e w' ⟨rfl, rfl⟩
  have hvl := vl_le fb m
  go_wp2
  go_loopw [7] (fun i wr => ∃ k : Nat, k ≤ (vl fb m).length ∧ i = .int .i64 k ∧ Below w'.heap.size w' wr) (fun i _ => (vl fb m).length - (intOf i).toNat)
  case atStart => exact ⟨0, Nat.zero_le _, rfl, Below.refl _ _⟩
  case round =>
    obtain ⟨k, hk, rfl, hbel⟩ := hrel
    by_cases hlt : k < (vl fb m).length
    · rcases h1 with h1 | ⟨b1, o1, rfl, _, hl1, hc1⟩
      · omega
      · have hv := vl_lt fb m k hlt
        obtain ⟨q, hq⟩ : ∃ q : Nat, q = (vl fb m).getD k 0 := ⟨_, rfl⟩
        rw [← hq] at hv
        rcases h2 with h2 | ⟨b2, o2, rfl, _, hl2, hc2⟩
        · omega
        · have e10 : w'.cell? ⟨b1, o1 + k * 2, none⟩ = some (.int .i64 (first + (q : Int))) := by rw [hq]; exact hc1 k hlt 0 (by omega)
          have e11 : w'.cell? ⟨b1, o1 + k * 2 + 1, none⟩ = some (.int .i64 (fx q)) := by rw [hq]; exact hc1 k hlt 1 (by omega)
          have e20 : w'.cell? ⟨b2, o2 + q * 2, none⟩ = some (.int .i32 (fx q)) := by simpa [zfV] using hc2 q hv.1 0 (by omega)
          have e21 : w'.cell? ⟨b2, o2 + q * 2 + 1, none⟩ = some (.bool true) := by simpa [zfV, hv.2] using hc2 q hv.1 1 (by omega)
          have HS : Hid (∀ W, Below w'.heap.size w' W → W.cell? ⟨b1, o1 + k * 2 + 1, none⟩ = some (.int .i64 (fx q)) ∧ W.cell? ⟨b2, o2 + q * 2, none⟩ = some (.int .i32 (fx q)) ∧ Below w'.heap.size w' W) := fun W hb' =>
            ⟨(hb'.cell (p := ⟨b1, o1 + k * 2 + 1, none⟩) hl1).trans e11, (hb'.cell (p := ⟨b2, o2 + q * 2, none⟩) hl2).trans e20, hb'⟩
          have g10 : wr.cell? ⟨b1, o1 + k * 2, none⟩ = some (.int .i64 (first + (q : Int))) := (hbel.cell (p := ⟨b1, o1 + k * 2, none⟩) hl1).trans e10
          have g21 : wr.cell? ⟨b2, o2 + q * 2 + 1, none⟩ = some (.bool true) := (hbel.cell (p := ⟨b2, o2 + q * 2 + 1, none⟩) hl2).trans e21
          have hi0 : (0 : Int) ≤ (k : Int) := by omega
          have hi1 : (k : Int) < ((vl fb m).length : Int) := by omega
          have hq0 : (0 : Int) ≤ (q : Int) := by omega
          have hq1 : (q : Int) < (m : Int) := by omega
          have hwx : IntKind.i64.wrap (fx q) = fx q := by have := hfx q; rw [IntKind.wrap_i64]; omega
          have hqq : first + (q : Int) - first = (q : Int) := by omega
          have hv2 := hv.1
          by_cases hk0 : k = 0
          · have hd : (k : Int) ≤ 0 := by omega
            clear hc1 hc2 e10 e11 e20 e21 hv hq hfx hk0
            go_wp2
            go_region_held3 (fun W => W.cell? ⟨b1, o1 + k * 2 + 1, none⟩ = some (.int .i64 (fx q)) ∧ W.cell? ⟨b2, o2 + q * 2, none⟩ = some (.int .i32 (fx q)) ∧ Below w'.heap.size w' W)
              (with_reducible exact HS.out _ hbel.drew)
              (fail)
            go_wp2
            go_roundw
            case rel => exact ⟨k + 1, by omega, by go_num, hbel.drew⟩
            case measure => simp [intOf]; omega
          · obtain ⟨r, hr⟩ : ∃ r : Nat, r = (vl fb m).getD (k - 1) 0 := ⟨_, rfl⟩
            have hrq : r < q := by rw [hr, hq]; exact vl_mono fb m (k - 1) k (by omega) hlt
            have e00 : wr.cell? ⟨b1, o1 + (k - 1) * 2, none⟩ = some (.int .i64 (first + (r : Int))) := by
              rw [hbel.cell (p := ⟨b1, o1 + (k - 1) * 2, none⟩) hl1, hr]; exact hc1 (k - 1) (by omega) 0 (by omega)
            have hk1 : (0 : Int) < (k : Int) := by omega
            have hkn : ((k : Int) - 1).toNat = k - 1 := by omega
            clear hc1 hc2 e10 e11 e20 e21 hv hq hr hfx
            go_wp2
            go_region_held3 (fun W => W.cell? ⟨b1, o1 + k * 2 + 1, none⟩ = some (.int .i64 (fx q)) ∧ W.cell? ⟨b2, o2 + q * 2, none⟩ = some (.int .i32 (fx q)) ∧ Below w'.heap.size w' W)
              (with_reducible exact HS.out _ hbel.drew)
              (fail)
            go_wp2
            go_roundw
            case rel => exact ⟨k + 1, by omega, by go_num, hbel.drew⟩
            case measure => simp [intOf]; omega
    · go_wp2
      go_ret
      exact ⟨rfl, hbel⟩
end Go.Proofs.Qxb6600017a
