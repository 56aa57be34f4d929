import Derived.Test.Qxb6600017aC1
import Derived.Test.Qxb6600017aC4
import Derived.Test.Qxb6600017aE1
import Derived.Test.Qxb6600017aE2
import Derived.Test.Qxb6600017aE3
import Derived.Deep.DeepCutAuto
namespace Go.Proofs.Qxb6600017a
open Go.RowKit
set_option linter.unusedSimpArgs false
set_option linter.unusedVariables false

/-- Table k of a row of Chord tables at block g is table t. -/
def ChordAt (W : World) (g k : Nat) (t : Tab) : Prop :=
  ∃ ao1 cap1 ao2 cap2, g < W.heap.size ∧ W.cell? ⟨g, k * 15 + 6, none⟩ = some (.int .i32 t.p) ∧ W.cell? ⟨g, k * 15 + 10, none⟩ = some (.int .i32 t.s) ∧ W.cell? ⟨g, k * 15 + 11, none⟩ = some (.bool t.np) ∧
    W.cell? ⟨g, k * 15 + 13, none⟩ = some (.slice ao1 t.n cap1) ∧ W.cell? ⟨g, k * 15 + 14, none⟩ = some (.slice ao2 t.m cap2) ∧ IsSl W 0 (.slice ao1 t.n cap1) t.n 4 (prV t.x) ∧ IsSl W 0 (.slice ao2 t.m cap2) t.m 5 (fgV t.fx t.fb)

theorem ChordAt.below {W W' : World} {g k : Nat} {t : Tab} (h : ChordAt W g k t) (hb : Below W.heap.size W W') : ChordAt W' g k t := by
  obtain ⟨ao1, cap1, ao2, cap2, hg, t6, t10, t11, t13, t14, i1, i2⟩ := h
  exact ⟨ao1, cap1, ao2, cap2, Nat.lt_of_lt_of_le hg hb.size, (hb.cell (p := ⟨g, k * 15 + 6, none⟩) hg).trans t6, (hb.cell (p := ⟨g, k * 15 + 10, none⟩) hg).trans t10, (hb.cell (p := ⟨g, k * 15 + 11, none⟩) hg).trans t11,
    (hb.cell (p := ⟨g, k * 15 + 13, none⟩) hg).trans t13, (hb.cell (p := ⟨g, k * 15 + 14, none⟩) hg).trans t14, i1.below hb (Nat.le_refl _), i2.below hb (Nat.le_refl _)⟩
theorem ChordAt.alloc {W : World} {g k : Nat} {t : Tab} (h : ChordAt W g k t) (o : Obj) : ChordAt (W.alloc o) g k t := h.below ((Below.refl _ _).alloc (Nat.le_refl _) _)

theorem chordN (tn k g : Nat) (t : Tab) (fg : Int) (W : World) (hk : k < tn) (htn : tn ≤ 1048576) (h : ChordAt W g k t) (hp : -2147483648 ≤ t.p ∧ t.p ≤ 2147483647) (hs : -2147483648 ≤ t.s ∧ t.s ≤ 2147483647)
    (hn : t.n ≤ 1048576) (hx : ∀ k, -2147483648 ≤ t.x k ∧ t.x k ≤ 2147483647) (hm : t.m ≤ 1048576) (hfx : ∀ k, -2147483648 ≤ t.fx k ∧ t.fx k ≤ 2147483647) :
    Calls Try.prog 12 #[.slice (some ⟨g, 0, none⟩) tn tn, .agg #[.int .i64 0, .int .u64 0, .int .u64 0, .int .u64 0], .int .i64 fg, .int .i64 k] W fun e w' => ∃ v1 v2 v3, e = .returned (.agg #[.int .i64 t.s, .int .i64 (prShown t.np t.p), v1, v2, v3]) ∧
      IsSl w' W.heap.size v1 t.n 1 (fun k _ => .int .i64 (t.x k)) ∧ IsSl w' W.heap.size v2 (vl t.fb t.m).length 2 (fiV (-(t.m : Int)) t.fx (vl t.fb t.m)) ∧ IsSl w' W.heap.size v3 0 2 (pairV (fun _ => 0) (fun _ => 0)) ∧ Below W.heap.size W w' := by
  obtain ⟨ao1, cap1, ao2, cap2, hg, t6, t10, t11, t13, t14, i1, i2⟩ := h
  exact zzChord_any t.np tn tn k g 0 t.p t.s fg ao1 t.n cap1 t.x ao2 t.m cap2 t.fx t.fb W hk htn hg (by rw [Nat.zero_add]; exact t6) (by rw [Nat.zero_add]; exact t10) (by rw [Nat.zero_add]; exact t11) (by rw [Nat.zero_add]; exact t13) (by rw [Nat.zero_add]; exact t14) hp hs hn (isSl_row i1) hx hm (isSl_row i2) hfx

set_option maxRecDepth 20000 in
set_option maxHeartbeats 4000000 in
theorem chordLaw (ao : Option Addr) (tn tcap : Nat) (T : Nat → Tab) (nd : Int) (w : World) (h : RowIn w 0 ao tn 7 (fun k c => (T k).cell c)) (hok : ∀ i, i < tn → (T i).Ok w) (hnd : -9223372036854775808 ≤ nd ∧ nd ≤ 9223372036854775807) :
    Calls Try.prog 3 #[.slice ao tn tcap, .int .i64 nd] w fun e w' => e = .returned (.bool true) ∧ Below w.heap.size w w' := by
  go_enter Try.func3, Try.ntmps3
  go_wp2_with fail
  refine (bytes10_any ao tn tcap T _ _ h).mono ?_
  rintro e w1 ⟨he, hw1⟩
  subst hw1
  rcases he with rfl | ⟨rfl, htn, hfit⟩
  · go_wp2
    go_ret
    exact ⟨rfl, Below.refl _ _⟩
  · go_wp2_with fail
    refine (fit_any ao tn tcap T _ h hfit).mono ?_
    rintro e w2 ⟨he, hb2⟩
    rcases he with rfl | rfl
    · go_wp2
      go_ret
      exact ⟨rfl, hb2⟩
    · by_cases hlo : nd < 0
      · go_wp2
        go_ret
        exact ⟨rfl, hb2⟩
      · by_cases hhi : (tn : Int) ≤ nd
        · go_wp2
          go_ret
          exact ⟨rfl, hb2⟩
        · obtain ⟨k, rfl⟩ : ∃ k : Nat, nd = (k : Int) := ⟨nd.toNat, by omega⟩
          have hk : k < tn := by omega
          rcases h with hz | ⟨b, o, rfl, hlo0, hbl, hc⟩
          · omega
          · have h : RowIn w1 0 (some ⟨b, o, none⟩) tn 7 (fun k c => (T k).cell c) := .inr ⟨b, o, rfl, hlo0, hbl, hc⟩
            obtain ⟨c0, c1, c2, c3, c4, c5, c6⟩ := tab_cells (w := w2) (fun k hk c hc' => (hb2.cell (p := ⟨b, o + k * 7 + c, none⟩) hbl).trans (hc k hk c hc')) k hk
            have okk := hok k hk
            obtain ⟨f1, f2, f3⟩ := hfit k hk
            have hi0 : (0 : Int) ≤ (k : Int) := by omega
            have hi1 : (k : Int) < (tn : Int) := by omega
            have hbl2 : b < w2.heap.size := Nat.lt_of_lt_of_le hbl hb2.size
            clear hc hlo hhi
            go_wp2
            have hbel : Below w1.heap.size w1 ((w2.alloc (.cells #[.int .i64 0, .int .u64 0, .int .u64 0, .int .u64 0] 29)).alloc (.cells #[.int .i32 (T k).p, .int .i32 (T k).s, .bool (T k).np, .bool (T k).qp, .slice (T k).fo (T k).n (T k).cap, .slice (T k).fa (T k).m (T k).mcap, .slice (T k).ba (T k).l (T k).lcap] 33)) := (hb2.alloc hb2.size _).alloc (by have := hb2.size; simp; omega) _
            have hsp : ((w2.alloc (.cells #[.int .i64 0, .int .u64 0, .int .u64 0, .int .u64 0] 29)).alloc (.cells #[.int .i32 (T k).p, .int .i32 (T k).s, .bool (T k).np, .bool (T k).qp, .slice (T k).fo (T k).n (T k).cap, .slice (T k).fa (T k).m (T k).mcap, .slice (T k).ba (T k).l (T k).lcap] 33)).heap[w2.heap.size]? = some (.cells #[.int .i64 0, .int .u64 0, .int .u64 0, .int .u64 0] 29 (0, 0)) := blk_alloc (blk_new _ _ rfl) _
            have hbx : ((w2.alloc (.cells #[.int .i64 0, .int .u64 0, .int .u64 0, .int .u64 0] 29)).alloc (.cells #[.int .i32 (T k).p, .int .i32 (T k).s, .bool (T k).np, .bool (T k).qp, .slice (T k).fo (T k).n (T k).cap, .slice (T k).fa (T k).m (T k).mcap, .slice (T k).ba (T k).l (T k).lcap] 33)).heap[w2.heap.size + 1]? = some (.cells #[.int .i32 (T k).p, .int .i32 (T k).s, .bool (T k).np, .bool (T k).qp, .slice (T k).fo (T k).n (T k).cap, .slice (T k).fa (T k).m (T k).mcap, .slice (T k).ba (T k).l (T k).lcap] 33 (0, 0)) := blk_new _ _ (by simp)
            clear c0 c1 c2 c3 c4 c5 c6 hb2 hbl2
            generalize ((w2.alloc (.cells #[.int .i64 0, .int .u64 0, .int .u64 0, .int .u64 0] 29)).alloc (.cells #[.int .i32 (T k).p, .int .i32 (T k).s, .bool (T k).np, .bool (T k).qp, .slice (T k).fo (T k).n (T k).cap, .slice (T k).fa (T k).m (T k).mcap, .slice (T k).ba (T k).l (T k).lcap] 33)) = wr at hbel hsp hbx ⊢
            generalize w2.heap.size + 1 = bx at hbx ⊢
            generalize w2.heap.size = sp at hsp ⊢
            have HS : Hid (∀ w', Below wr.heap.size wr w' → w'.cell? ⟨sp, 0, none⟩ = some (.int .i64 0) ∧ w'.cell? ⟨sp, 1, none⟩ = some (.int .u64 0) ∧ w'.cell? ⟨sp, 2, none⟩ = some (.int .u64 0) ∧ w'.cell? ⟨sp, 3, none⟩ = some (.int .u64 0) ∧ w'.cell? ⟨bx, 5, none⟩ = some (.slice (T k).fa (T k).m (T k).mcap) ∧ Below wr.heap.size wr w') := fun w' hb' => by
              have i1 := blk_keep hsp hb' (Nat.le_refl _)
              have i2 := blk_keep hbx hb' (Nat.le_refl _)
              exact ⟨cell_at i1, cell_at i1, cell_at i1, cell_at i1, cell_at i2, hb'⟩
            have hbr := Below.refl wr.heap.size wr
            have HA : Hid (∀ W ob, Below wr.heap.size wr W → Below wr.heap.size wr (W.alloc ob)) := fun W ob h => h.alloc h.size _
            go_cut [7] (fun p7 wc => ∃ gv bo1 bp1 bo2 bp2 bo3 bp3, p7 = .pointer (some ⟨gv, 0, none⟩) ∧ Below wr.heap.size wr wc ∧ wc.heap[gv]? = some (.cells #[.int .i64 (T k).s, .int .i64 (prShown (T k).np (T k).p), .slice bo1 (T k).n bp1, .slice bo2 (vl (T k).fb (T k).m).length bp2, .slice bo3 0 bp3] 37 (0, 0)) ∧ IsSl wc 0 (.slice bo1 (T k).n bp1) (T k).n 1 (fun j _ => .int .i64 ((T k).x j)) ∧ IsSl wc 0 (.slice bo2 (vl (T k).fb (T k).m).length bp2) (vl (T k).fb (T k).m).length 2 (fiV (-((T k).m : Int)) (T k).fx (vl (T k).fb (T k).m)))
            case first =>
              go_region_held3 (fun w' => w'.cell? ⟨sp, 0, none⟩ = some (.int .i64 0) ∧ w'.cell? ⟨sp, 1, none⟩ = some (.int .u64 0) ∧ w'.cell? ⟨sp, 2, none⟩ = some (.int .u64 0) ∧ w'.cell? ⟨sp, 3, none⟩ = some (.int .u64 0) ∧ w'.cell? ⟨bx, 5, none⟩ = some (.slice (T k).fa (T k).m (T k).mcap) ∧ Below wr.heap.size wr w')
                (first | with_reducible exact HS.out _ hbr.drew | with_reducible exact HS.out _ (HA.out _ _ hbr).drew | with_reducible exact HS.out _ hbelM | with_reducible exact HS.out _ hbelN | with_reducible exact HS.out _ (HA.out _ _ hbelN) | with_reducible exact HS.out _ (HA.out _ _ hbelM) | with_reducible exact HS.out _ (below_set5z hbelM (Nat.le_refl _)) | with_reducible exact HS.out _ (below_set5z hbelM hbelN.size))
                (first | (go_at_call 13; refine (chordTables_any _ tn tcap k T _ hk htn (h.below (hbel.trans ((‹_ ∧ _ ∧ _ ∧ _ ∧ _ ∧ Below wr.heap.size wr _›).2.2.2.2.2.mono hbel.size)) (Nat.le_refl _)) (fun i hi => (hok i hi).below (hbel.trans ((‹_ ∧ _ ∧ _ ∧ _ ∧ _ ∧ Below wr.heap.size wr _›).2.2.2.2.2.mono hbel.size))) hfit).mono ?_; rintro e w3 ⟨g, ao1, cap1, ao2, cap2, rfl, hg, t6, t10, t11, t13, t14, i1, i2, hb3⟩; (have hCA : ChordAt w3 g k (T k) := ⟨ao1, cap1, ao2, cap2, hg, t6, t10, t11, t13, t14, i1.lower (Nat.zero_le _), i2.lower (Nat.zero_le _)⟩); clear t6 t10 t11 t13 t14 i1 i2; (have hbelN : Below wr.heap.size wr w3 := (‹_ ∧ _ ∧ _ ∧ _ ∧ _ ∧ Below wr.heap.size wr _›).2.2.2.2.2.trans (hb3.mono (‹_ ∧ _ ∧ _ ∧ _ ∧ _ ∧ Below wr.heap.size wr _›).2.2.2.2.2.size)); (try (have hvN : w3.heap[wr.heap.size]? = some (.cells #[.int .i64 0, .int .i64 0, .slice none 0 0, .slice none 0 0, .slice none 0 0] 37 (0, 0)) := blk_keep (blk_drew (blk_new wr _ rfl)) hb3 (Nat.le_refl _)))) | (go_at_call 12; refine (chordN tn k g (T k) _ _ hk htn (by first | exact hCA | exact hCA.alloc _) okk.p okk.s f1 okk.bx' f2 okk.bf).mono ?_; rintro e w4 ⟨u1, u2, u3, rfl, ⟨bo1, bp1, rfl, ky1⟩, ⟨bo2, bp2, rfl, ky2⟩, ⟨bo3, bp3, rfl, ky3⟩, hb4⟩; (have K1 : IsSl w4 _ (.slice bo1 (T k).n bp1) (T k).n 1 (fun j _ => .int .i64 ((T k).x j)) := ⟨_, _, rfl, ky1⟩); (have K2 : IsSl w4 _ (.slice bo2 (vl (T k).fb (T k).m).length bp2) (vl (T k).fb (T k).m).length 2 (fiV (-((T k).m : Int)) (T k).fx (vl (T k).fb (T k).m)) := ⟨_, _, rfl, ky2⟩); (have hbelM : Below wr.heap.size wr w4 := (‹_ ∧ _ ∧ _ ∧ _ ∧ _ ∧ Below wr.heap.size wr _›).2.2.2.2.2.trans (hb4.mono (‹_ ∧ _ ∧ _ ∧ _ ∧ _ ∧ Below wr.heap.size wr _›).2.2.2.2.2.size)); (first | ((have hvM : w4.heap[wr.heap.size]? = some (.cells #[.int .i64 0, .int .i64 0, .slice none 0 0, .slice none 0 0, .slice none 0 0] 37 (0, 0)) := blk_keep hvN hb4 (Nat.le_refl _)); (have qc : ∀ i, w4.cell? ⟨wr.heap.size, i, none⟩ = (#[.int .i64 0, .int .i64 0, .slice none 0 0, .slice none 0 0, .slice none 0 0] : Array Value)[i]? := fun i => cell_at hvM); (have qf : ∀ i, w4.frozen? ⟨wr.heap.size, i, none⟩ = false := fun i => free_at hvM)) | ((have hvM : w4.heap[w3.heap.size]? = some (.cells #[.int .i64 0, .int .i64 0, .slice none 0 0, .slice none 0 0, .slice none 0 0] 37 (0, 0)) := blk_keep (blk_new _ _ rfl) hb4 (Nat.le_refl _)); (have qc : ∀ i, w4.cell? ⟨w3.heap.size, i, none⟩ = (#[.int .i64 0, .int .i64 0, .slice none 0 0, .slice none 0 0, .slice none 0 0] : Array Value)[i]? := fun i => cell_at hvM); (have qf : ∀ i, w4.frozen? ⟨w3.heap.size, i, none⟩ = false := fun i => free_at hvM)) | skip)))
              · go_wp2
                go_meet
                case rel => exact ⟨w4.heap.size, bo1, bp1, bo2, bp2, bo3, bp3, rfl, HA.out _ _ hbelM, blk_new _ _ rfl, (K1.alloc _).lower (Nat.zero_le _), (K2.alloc _).lower (Nat.zero_le _)⟩
              · go_wp2
                go_meet
                case rel => exact ⟨w3.heap.size, bo1, bp1, bo2, bp2, bo3, bp3, rfl, below_set5z hbelM hbelN.size, blk_full5 hvM, (isSl_set5z K1 (by simp)).lower (Nat.zero_le _), (isSl_set5z K2 (by simp)).lower (Nat.zero_le _)⟩
              · have z3 := lt_of_block hvN
                go_wp2
                go_meet
                case rel => exact ⟨wr.heap.size, bo1, bp1, bo2, bp2, bo3, bp3, rfl, below_set5z hbelM (Nat.le_refl _), blk_full5 hvM, (isSl_set5z K1 (by omega)).lower (Nat.zero_le _), (isSl_set5z K2 (by omega)).lower (Nat.zero_le _)⟩
            case rest =>
              obtain ⟨gv, bo1, bp1, bo2, bp2, bo3, bp3, rfl, hbC, hv37, K1, K2⟩ := hcut
              have hbelC := hbel.trans (hbC.mono hbel.size)
              have hspC := blk_keep hsp hbC (Nat.le_refl _)
              have hbxC := blk_keep hbx hbC (Nat.le_refl _)
              have hcB : ∀ i, wc.cell? ⟨bx, i, none⟩ = (#[.int .i32 (T k).p, .int .i32 (T k).s, .bool (T k).np, .bool (T k).qp, .slice (T k).fo (T k).n (T k).cap, .slice (T k).fa (T k).m (T k).mcap, .slice (T k).ba (T k).l (T k).lcap] : Array Value)[i]? := fun i => cell_at hbxC
              have hcg : ∀ i, wc.cell? ⟨gv, i, none⟩ = (#[.int .i64 (T k).s, .int .i64 (prShown (T k).np (T k).p), .slice bo1 (T k).n bp1, .slice bo2 (vl (T k).fb (T k).m).length bp2, .slice bo3 0 bp3] : Array Value)[i]? := fun i => cell_at hv37
              have okC := okk.below hbelC
              have hs' := okk.s
              clear HS HA hbr hbC hsp hbx hbel h hok hfit
              go_wp2_with fail
              refine (predShown_any (T k).np (T k).qp (T k).p _ _ _ _ _ okk.p).mono ?_
              rintro e w5 ⟨rfl, hb5⟩
              have K1' := K1.below hb5 (Nat.le_refl _)
              have K2' := K2.below hb5 (Nat.le_refl _)
              have hbx5 := blk_keep hbxC hb5 (Nat.le_refl _)
              have hsp5 := blk_keep hspC hb5 (Nat.le_refl _)
              have hv5 := blk_keep hv37 hb5 (Nat.le_refl _)
              have ok5 := okC.below hb5
              have hbel5 := hbelC.trans (hb5.mono hbelC.size)
              clear hcB hcg hbxC hspC hv37 K1 K2 okC hb5 hbelC
              have hcB : ∀ i, w5.cell? ⟨bx, i, none⟩ = (#[.int .i32 (T k).p, .int .i32 (T k).s, .bool (T k).np, .bool (T k).qp, .slice (T k).fo (T k).n (T k).cap, .slice (T k).fa (T k).m (T k).mcap, .slice (T k).ba (T k).l (T k).lcap] : Array Value)[i]? := fun i => cell_at hbx5
              have hcg : ∀ i, w5.cell? ⟨gv, i, none⟩ = (#[.int .i64 (T k).s, .int .i64 (prShown (T k).np (T k).p), .slice bo1 (T k).n bp1, .slice bo2 (vl (T k).fb (T k).m).length bp2, .slice bo3 0 bp3] : Array Value)[i]? := fun i => cell_at hv5
              go_wp2_with fail
              refine (followShown_any bo1 (T k).fo (T k).n bp1 (T k).cap (T k).x _ f1 okk.bx' (isSl_row K1') ok5.rx).mono ?_
              rintro e wd ⟨rfl, hb6⟩
              have K2d := K2'.below hb6 (Nat.le_refl _)
              have hbxd := blk_keep hbx5 hb6 (Nat.le_refl _)
              have hspd := blk_keep hsp5 hb6 (Nat.le_refl _)
              have hvd := blk_keep hv5 hb6 (Nat.le_refl _)
              have okd := ok5.below hb6
              have hbeld := hbel5.trans (hb6.mono hbel5.size)
              clear hcB hcg hbx5 hsp5 hv5 K1' K2' ok5 hb6 hbel5
              have hcg : ∀ i, wd.cell? ⟨gv, i, none⟩ = (#[.int .i64 (T k).s, .int .i64 (prShown (T k).np (T k).p), .slice bo1 (T k).n bp1, .slice bo2 (vl (T k).fb (T k).m).length bp2, .slice bo3 0 bp3] : Array Value)[i]? := fun i => cell_at hvd
              go_wp2
              clear hcg
              have HS : Hid (∀ w', Below wd.heap.size wd w' → w'.cell? ⟨sp, 0, none⟩ = some (.int .i64 0) ∧ w'.cell? ⟨sp, 1, none⟩ = some (.int .u64 0) ∧ w'.cell? ⟨sp, 2, none⟩ = some (.int .u64 0) ∧ w'.cell? ⟨sp, 3, none⟩ = some (.int .u64 0) ∧ w'.cell? ⟨bx, 5, none⟩ = some (.slice (T k).fa (T k).m (T k).mcap) ∧ Below wd.heap.size wd w') := fun w' hb' => by
                have i1 := blk_keep hspd hb' (Nat.le_refl _)
                have i2 := blk_keep hbxd hb' (Nat.le_refl _)
                exact ⟨cell_at i1, cell_at i1, cell_at i1, cell_at i1, cell_at i2, hb'⟩
              have hbr := Below.refl wd.heap.size wd
              have hwm1 : IntKind.i64.wrap (-((T k).m : Int)) = -((T k).m : Int) := by rw [IntKind.wrap_i64]; omega
              go_region_held3 (fun w' => w'.cell? ⟨sp, 0, none⟩ = some (.int .i64 0) ∧ w'.cell? ⟨sp, 1, none⟩ = some (.int .u64 0) ∧ w'.cell? ⟨sp, 2, none⟩ = some (.int .u64 0) ∧ w'.cell? ⟨sp, 3, none⟩ = some (.int .u64 0) ∧ w'.cell? ⟨bx, 5, none⟩ = some (.slice (T k).fa (T k).m (T k).mcap) ∧ Below wd.heap.size wd w')
                (first | with_reducible exact HS.out _ hbr.drew | with_reducible exact HS.out _ hb9)
                (first | (go_at_call 16; refine (bits_any _ _ _ 0 _).mono ?_; rintro e w9 ⟨rfl, hb9'⟩; (have hb9 : Below wd.heap.size wd w9 := hbr.drew.trans hb9')))
              have K29 := K2d.below hb9 (Nat.le_refl _)
              have hbx9 := blk_keep hbxd hb9 (Nat.le_refl _)
              have hv9 := blk_keep hvd hb9 (Nat.le_refl _)
              have ok9 := okd.below hb9
              have hbel9 := hbeld.trans (hb9.mono hbeld.size)
              have hc5 : w9.cell? ⟨bx, 5, none⟩ = some (.slice (T k).fa (T k).m (T k).mcap) := cell_at hbx9
              have hc3 : w9.cell? ⟨gv, 3, none⟩ = some (.slice bo2 (vl (T k).fb (T k).m).length bp2) := cell_at hv9
              clear HS hbr hwm1 hb9 hb9' K2d hbxd hspd hvd okd hbeld
              go_wp2_with fail
              refine (sideShown_any bo2 (T k).fa (T k).m bp2 (T k).mcap (-((T k).m : Int)) (T k).fx (T k).fb _ f2 (by omega) okk.bf (isSl_row K29) ok9.rf).mono ?_
              rintro e w10 ⟨rfl, hb10⟩
              go_wp2
              go_ret
              exact ⟨rfl, hbel9.trans (hb10.mono hbel9.size)⟩
end Go.Proofs.Qxb6600017a
