import Derived.Test.Qxb6600017aC2
import Derived.Test.Qxb6600017aC4
import Derived.Test.Qxb6600017aE1
import Derived.Test.Qxb6600017aE2
import Derived.Test.Qxb6600017aE4
namespace Go.Proofs.Qxb6600017a
open Go.RowKit
set_option linter.unusedSimpArgs false
set_option linter.unusedVariables false

set_option maxHeartbeats 2000000 in
theorem bytes26_any (ao : Option Addr) (tn tcap : Nat) (T : Nat → Tab) (nd : Value) (w : World) (h : RowIn w 0 ao tn 7 (fun k c => (T k).cell c)) :
    Calls Try.prog 26 #[.slice ao tn tcap, nd] w fun e w' => (e = .returned (.bool false) ∨ e = .returned (.bool true) ∧ tn ≤ 1048576 ∧ ∀ i, i < tn → (T i).Fits) ∧ w' = w := by
  by_cases hbig : 1048576 < tn
  · go_enter Try.func26, Try.ntmps26
    go_wp2
    go_ret
    exact ⟨.inl rfl, rfl⟩
  · go_enter Try.func26, Try.ntmps26
    go_wp2
    go_loop [5, 6] (fun z i => ∃ k : Nat, k ≤ tn ∧ i = .int .i64 k ∧ (∃ zn : Nat, zn ≤ 1048576 ∧ z = .int .i64 zn) ∧ ∀ i, i < k → (T i).Fits) (fun _ i => tn - (intOf i).toNat)
    case atStart => exact ⟨0, Nat.zero_le _, rfl, ⟨tn, by omega, rfl⟩, fun i hi => by omega⟩
    case round =>
      obtain ⟨k, hk, rfl, ⟨zn, hz, rfl⟩, hfit⟩ := hrel
      by_cases hlt : k < tn
      · rcases h with h | ⟨b, o, hab, _, hbl, hc⟩
        · omega
        · cases hab
          obtain ⟨_, _, _, _, c4, c5, c6⟩ := tab_cells hc k hlt
          have HF : Hid _ := hfit
          clear hc hfit
          go_wp2
          all_goals (first | (go_ret; exact ⟨.inl rfl, rfl⟩) | skip)
          go_round
          case rel =>
            refine ⟨k + 1, by omega, by go_num, ⟨zn + (T k).n + (T k).m + (T k).l, by omega, by go_num⟩, fun i hi => ?_⟩
            by_cases hik : i = k
            · subst hik; exact ⟨by omega, by omega, by omega⟩
            · exact HF.out i (by omega)
          case measure => simp [intOf]; omega
      · have hkn : k = tn := by omega
        subst hkn
        go_wp2
        go_ret
        exact ⟨.inr ⟨rfl, by omega, hfit⟩, rfl⟩


set_option maxRecDepth 20000 in
set_option maxHeartbeats 4000000 in
theorem relLaw (ao : Option Addr) (tn tcap : Nat) (T : Nat → Tab) (nd : Int) (w : World) (h : RowIn w 0 ao tn 7 (fun k c => (T k).cell c)) (hok : ∀ i, i < tn → (T i).Ok w) (hnd : -9223372036854775808 ≤ nd ∧ nd ≤ 9223372036854775807) :
    Calls Try.prog 6 #[.slice ao tn tcap, .int .i64 nd] w fun e w' => e = .returned (.bool true) ∧ Below w.heap.size w w' := by
  go_enter Try.func6, Try.ntmps6
  go_wp2_with fail
  refine (bytes26_any ao tn tcap T _ _ h).mono ?_
  rintro e w1 ⟨he, hw1⟩
  subst hw1
  rcases he with rfl | ⟨rfl, htn, hfit⟩
  · go_wp2
    go_ret
    exact ⟨rfl, Below.refl _ _⟩
  · go_wp2_with fail
    refine (fit_any ao tn tcap T _ h hfit).mono ?_
    rintro e w2 ⟨he, hb2⟩
    rcases he with rfl | rfl
    · go_wp2
      go_ret
      exact ⟨rfl, hb2⟩
    · by_cases hlo : nd < 0
      · go_wp2
        go_ret
        exact ⟨rfl, hb2⟩
      · by_cases hhi : (tn : Int) ≤ nd
        · go_wp2
          go_ret
          exact ⟨rfl, hb2⟩
        · obtain ⟨k, rfl⟩ : ∃ k : Nat, nd = (k : Int) := ⟨nd.toNat, by omega⟩
          have hk : k < tn := by omega
          rcases h with hz | ⟨b, o, rfl, hlo0, hbl, hc⟩
          · omega
          · have h : RowIn w1 0 (some ⟨b, o, none⟩) tn 7 (fun k c => (T k).cell c) := .inr ⟨b, o, rfl, hlo0, hbl, hc⟩
            obtain ⟨c0, c1, c2, c3, c4, c5, c6⟩ := tab_cells (w := w2) (fun k hk c hc' => (hb2.cell (p := ⟨b, o + k * 7 + c, none⟩) hbl).trans (hc k hk c hc')) k hk
            have okk := hok k hk
            obtain ⟨f1, f2, f3⟩ := hfit k hk
            have hi0 : (0 : Int) ≤ (k : Int) := by omega
            have hi1 : (k : Int) < (tn : Int) := by omega
            have hbl2 : b < w2.heap.size := Nat.lt_of_lt_of_le hbl hb2.size
            clear hc hlo hhi
            go_wp2_with fail
            have hbel : Below w1.heap.size w1 (w2.alloc (.cells #[.int .i32 (T k).p, .int .i32 (T k).s, .bool (T k).np, .bool (T k).qp, .slice (T k).fo (T k).n (T k).cap, .slice (T k).fa (T k).m (T k).mcap, .slice (T k).ba (T k).l (T k).lcap] 33)) := hb2.alloc hb2.size _
            have hbx : (w2.alloc (.cells #[.int .i32 (T k).p, .int .i32 (T k).s, .bool (T k).np, .bool (T k).qp, .slice (T k).fo (T k).n (T k).cap, .slice (T k).fa (T k).m (T k).mcap, .slice (T k).ba (T k).l (T k).lcap] 33)).heap[w2.heap.size]? = some (.cells #[.int .i32 (T k).p, .int .i32 (T k).s, .bool (T k).np, .bool (T k).qp, .slice (T k).fo (T k).n (T k).cap, .slice (T k).fa (T k).m (T k).mcap, .slice (T k).ba (T k).l (T k).lcap] 33 (0, 0)) := blk_new _ _ rfl
            clear c0 c1 c2 c3 c4 c5 c6 hb2 hbl2
            generalize (w2.alloc (.cells #[.int .i32 (T k).p, .int .i32 (T k).s, .bool (T k).np, .bool (T k).qp, .slice (T k).fo (T k).n (T k).cap, .slice (T k).fa (T k).m (T k).mcap, .slice (T k).ba (T k).l (T k).lcap] 33)) = wr at hbel hbx ⊢
            generalize w2.heap.size = bx at hbx ⊢
            refine (relTables_any _ tn tcap k T _ hk htn (h.below hbel (Nat.le_refl _)) (fun i hi => (hok i hi).below hbel) hfit).mono ?_
            rintro e w3 ⟨g, ao1, cap1, ao2, cap2, ao3, cap3, rfl, hg, t6, t10, t11, t13, t14, t15, i1, i2, i3, hb3⟩
            go_wp2_with fail
            refine (zzRel_any (T k).np tn tn k g 0 (T k).p (T k).s ao1 (T k).n cap1 (T k).x ao2 (T k).m cap2 (T k).fx (T k).fb ao3 (T k).l cap3 (T k).bx (T k).bb w3 hk htn hg (by rw [Nat.zero_add]; exact t6) (by rw [Nat.zero_add]; exact t10) (by rw [Nat.zero_add]; exact t11) (by rw [Nat.zero_add]; exact t13) (by rw [Nat.zero_add]; exact t14) (by rw [Nat.zero_add]; exact t15) okk.p okk.s f1 (isSl_row i1) okk.bx' f2 (isSl_row i2) okk.bf f3 (isSl_row i3) okk.bb).mono ?_
            rintro e w4 ⟨u1, u2, u3, rfl, ⟨bo1, bp1, rfl, ky1⟩, ⟨bo2, bp2, rfl, ky2⟩, ⟨bo3, bp3, rfl, ky3⟩, hb4⟩
            have K1 : IsSl w4 _ (.slice bo1 (T k).n bp1) (T k).n 1 (fun j _ => .int .i64 ((T k).x j)) := ⟨_, _, rfl, ky1⟩
            have K2 : IsSl w4 _ (.slice bo2 (vl (T k).fb (T k).m).length bp2) (vl (T k).fb (T k).m).length 2 (fiV 0 (T k).fx (vl (T k).fb (T k).m)) := ⟨_, _, rfl, ky2⟩
            have K3 : IsSl w4 _ (.slice bo3 (vl (T k).bb (T k).l).length bp3) (vl (T k).bb (T k).l).length 2 (fiV 0 (T k).bx (vl (T k).bb (T k).l)) := ⟨_, _, rfl, ky3⟩
            have hbr4 : Below wr.heap.size wr w4 := hb3.trans (hb4.mono hb3.size)
            have hbel4 := hbel.trans (hbr4.mono hbel.size)
            have hbx4 := blk_keep hbx hbr4 (Nat.le_refl _)
            have hbl4 := lt_of_block hbx4
            have hcB : ∀ i, w4.cell? ⟨bx, i, none⟩ = (#[.int .i32 (T k).p, .int .i32 (T k).s, .bool (T k).np, .bool (T k).qp, .slice (T k).fo (T k).n (T k).cap, .slice (T k).fa (T k).m (T k).mcap, .slice (T k).ba (T k).l (T k).lcap] : Array Value)[i]? := fun i => cell_at hbx4
            have hs' := okk.s
            clear t6 t10 t11 t13 t14 t15 i1 i2 i3 ky1 ky2 ky3 hb3 hb4 hbr4 hbel hbx hg h hok hfit
            go_wp2_with fail
            have hb5 : Below w4.heap.size w4 (w4.alloc (.cells #[.int .i64 (T k).s, .int .i64 (prShown (T k).np (T k).p), .slice bo1 (T k).n bp1, .slice bo2 (vl (T k).fb (T k).m).length bp2, .slice bo3 (vl (T k).bb (T k).l).length bp3] 37)) := (Below.refl _ _).alloc (Nat.le_refl _) _
            have hvr : (w4.alloc (.cells #[.int .i64 (T k).s, .int .i64 (prShown (T k).np (T k).p), .slice bo1 (T k).n bp1, .slice bo2 (vl (T k).fb (T k).m).length bp2, .slice bo3 (vl (T k).bb (T k).l).length bp3] 37)).heap[w4.heap.size]? = some (.cells #[.int .i64 (T k).s, .int .i64 (prShown (T k).np (T k).p), .slice bo1 (T k).n bp1, .slice bo2 (vl (T k).fb (T k).m).length bp2, .slice bo3 (vl (T k).bb (T k).l).length bp3] 37 (0, 0)) := blk_new _ _ rfl
            have K1' := (K1.below hb5 (Nat.le_refl _)).lower (Nat.zero_le _)
            have K2' := (K2.below hb5 (Nat.le_refl _)).lower (Nat.zero_le _)
            have K3' := (K3.below hb5 (Nat.le_refl _)).lower (Nat.zero_le _)
            have hbx5 := blk_keep hbx4 hb5 (Nat.le_refl _)
            have hbel5 := hbel4.trans (hb5.mono hbel4.size)
            clear hb5 K1 K2 K3 hbx4 hbel4 hcB hbl4
            generalize w4.alloc (.cells #[.int .i64 (T k).s, .int .i64 (prShown (T k).np (T k).p), .slice bo1 (T k).n bp1, .slice bo2 (vl (T k).fb (T k).m).length bp2, .slice bo3 (vl (T k).bb (T k).l).length bp3] 37) = wa at hvr K1' K2' K3' hbx5 hbel5 ⊢
            generalize w4.heap.size = gv at hvr ⊢
            refine (predShown_any (T k).np (T k).qp (T k).p _ _ _ _ _ okk.p).mono ?_
            rintro e w5 ⟨rfl, hb5⟩
            have J1 := K1'.below hb5 (Nat.le_refl _)
            have J2 := K2'.below hb5 (Nat.le_refl _)
            have J3 := K3'.below hb5 (Nat.le_refl _)
            have hbx6 := blk_keep hbx5 hb5 (Nat.le_refl _)
            have hv6 := blk_keep hvr hb5 (Nat.le_refl _)
            have hbel6 := hbel5.trans (hb5.mono hbel5.size)
            have ok6 := okk.below hbel6
            clear hb5 K1' K2' K3' hbx5 hvr hbel5
            have hcB : ∀ i, w5.cell? ⟨bx, i, none⟩ = (#[.int .i32 (T k).p, .int .i32 (T k).s, .bool (T k).np, .bool (T k).qp, .slice (T k).fo (T k).n (T k).cap, .slice (T k).fa (T k).m (T k).mcap, .slice (T k).ba (T k).l (T k).lcap] : Array Value)[i]? := fun i => cell_at hbx6
            have hcg : ∀ i, w5.cell? ⟨gv, i, none⟩ = (#[.int .i64 (T k).s, .int .i64 (prShown (T k).np (T k).p), .slice bo1 (T k).n bp1, .slice bo2 (vl (T k).fb (T k).m).length bp2, .slice bo3 (vl (T k).bb (T k).l).length bp3] : Array Value)[i]? := fun i => cell_at hv6
            go_wp2_with fail
            refine (followShown_any bo1 (T k).fo (T k).n bp1 (T k).cap (T k).x _ f1 okk.bx' (isSl_row J1) ok6.rx).mono ?_
            rintro e w7 ⟨rfl, hb7⟩
            have I2 := J2.below hb7 (Nat.le_refl _)
            have I3 := J3.below hb7 (Nat.le_refl _)
            have hbx7 := blk_keep hbx6 hb7 (Nat.le_refl _)
            have hv7 := blk_keep hv6 hb7 (Nat.le_refl _)
            have hbel7 := hbel6.trans (hb7.mono hbel6.size)
            have ok7 := ok6.below hb7
            clear hb7 J1 J2 J3 hbx6 hv6 hbel6 ok6 hcB hcg
            have hcB : ∀ i, w7.cell? ⟨bx, i, none⟩ = (#[.int .i32 (T k).p, .int .i32 (T k).s, .bool (T k).np, .bool (T k).qp, .slice (T k).fo (T k).n (T k).cap, .slice (T k).fa (T k).m (T k).mcap, .slice (T k).ba (T k).l (T k).lcap] : Array Value)[i]? := fun i => cell_at hbx7
            have hcg : ∀ i, w7.cell? ⟨gv, i, none⟩ = (#[.int .i64 (T k).s, .int .i64 (prShown (T k).np (T k).p), .slice bo1 (T k).n bp1, .slice bo2 (vl (T k).fb (T k).m).length bp2, .slice bo3 (vl (T k).bb (T k).l).length bp3] : Array Value)[i]? := fun i => cell_at hv7
            go_wp2_with fail
            refine (sideShown_any bo2 (T k).fa (T k).m bp2 (T k).mcap 0 (T k).fx (T k).fb _ f2 (by omega) okk.bf (isSl_row I2) ok7.rf).mono ?_
            rintro e w8 ⟨rfl, hb8⟩
            have I38 := I3.below hb8 (Nat.le_refl _)
            have hbx8 := blk_keep hbx7 hb8 (Nat.le_refl _)
            have hv8 := blk_keep hv7 hb8 (Nat.le_refl _)
            have hbel8 := hbel7.trans (hb8.mono hbel7.size)
            have ok8 := ok7.below hb8
            clear hb8 I2 I3 hbx7 hv7 hbel7 ok7 hcB hcg
            have hcB : ∀ i, w8.cell? ⟨bx, i, none⟩ = (#[.int .i32 (T k).p, .int .i32 (T k).s, .bool (T k).np, .bool (T k).qp, .slice (T k).fo (T k).n (T k).cap, .slice (T k).fa (T k).m (T k).mcap, .slice (T k).ba (T k).l (T k).lcap] : Array Value)[i]? := fun i => cell_at hbx8
            have hcg : ∀ i, w8.cell? ⟨gv, i, none⟩ = (#[.int .i64 (T k).s, .int .i64 (prShown (T k).np (T k).p), .slice bo1 (T k).n bp1, .slice bo2 (vl (T k).fb (T k).m).length bp2, .slice bo3 (vl (T k).bb (T k).l).length bp3] : Array Value)[i]? := fun i => cell_at hv8
            go_wp2_with fail
            refine (sideShown_any bo3 (T k).ba (T k).l bp3 (T k).lcap 0 (T k).bx (T k).bb _ f3 (by omega) okk.bb (isSl_row I38) ok8.rb).mono ?_
            rintro e w9 ⟨rfl, hb9⟩
            go_wp2
            go_ret
            exact ⟨rfl, hbel8.trans (hb9.mono hbel8.size)⟩
end Go.Proofs.Qxb6600017a
