import Derived.Test.Qxb6600017aA5
import Derived.Test.Qxb6600017aA6
import Derived.Test.Qxb6600017aC3
import Derived.Test.Qxb6600017aC4
import Derived.Deep.DeepCutAuto
namespace Go.Proofs.Qxb6600017a
open Go.RowKit
set_option linter.unusedSimpArgs false
set_option linter.unusedVariables false

set_option maxRecDepth 20000 in
set_option maxHeartbeats 4000000 in
theorem agree_walk (p s : Int) (np qp : Bool) (fo : Option Addr) (n cap : Nat) (x : Nat → Int) (fa : Option Addr) (m mcap : Nat) (fx : Nat → Int) (fb : Nat → Bool) (ba : Option Addr) (l lcap : Nat) (bx : Nat → Int) (bb : Nat → Bool) (w : World)
    (hp : -2147483648 ≤ p ∧ p ≤ 2147483647) (hs : -2147483648 ≤ s ∧ s ≤ 2147483647)
    (hnl : fo = none → n = 0 ∧ cap = 0) (h1 : RowIn w 0 fo n 1 (fun k _ => .int .i32 (x k))) (hx : ∀ k, -2147483648 ≤ x k ∧ x k ≤ 2147483647)
    (hml : fa = none → m = 0 ∧ mcap = 0) (h2 : RowIn w 0 fa m 2 (zfV fx fb)) (hfx : ∀ k, -2147483648 ≤ fx k ∧ fx k ≤ 2147483647)
    (hll : ba = none → l = 0 ∧ lcap = 0) (h3 : RowIn w 0 ba l 2 (zfV bx bb)) (hbx : ∀ k, -2147483648 ≤ bx k ∧ bx k ≤ 2147483647) :
    Calls Try.prog 5 #[.agg #[.int .i32 p, .int .i32 s, .bool np, .bool qp, .slice fo n cap, .slice fa m mcap, .slice ba l lcap]] w fun e w' => e = .returned (.bool true) ∧ Below w.heap.size w w' := by
  go_enter Try.func5, Try.ntmps5
  go_wp2_with fail
  refine (bytes1_any _ _ _ _ fo fa ba n cap m mcap l lcap _).mono ?_
  rintro e w1 ⟨r, rfl, hr, hb1⟩
  have hbox : (w.alloc (.cells #[.int .i32 p, .int .i32 s, .bool np, .bool qp, .slice fo n cap, .slice fa m mcap, .slice ba l lcap] 33)).heap[w.heap.size]? = some (.cells #[.int .i32 p, .int .i32 s, .bool np, .bool qp, .slice fo n cap, .slice fa m mcap, .slice ba l lcap] 33 (0, 0)) := blk_new _ _ rfl
  have hbel1 : Below w.heap.size w w1 := ((Below.refl _ _).alloc (Nat.le_refl _) _).trans (hb1.mono (by simp))
  have hbox1 := blk_keep hbox hb1 (Nat.le_refl _)
  have hc1 : ∀ i, w1.cell? ⟨w.heap.size, i, none⟩ = (#[.int .i32 p, .int .i32 s, .bool np, .bool qp, .slice fo n cap, .slice fa m mcap, .slice ba l lcap] : Array Value)[i]? := fun i => cell_at hbox1
  clear hbox hb1
  cases r
  · go_wp2
    go_ret
    exact ⟨rfl, hbel1⟩
  · have hr := hr rfl
    go_wp2_with fail
    refine (tableBytes_any _ _ _ _ fo fa ba n cap m mcap l lcap _ (by omega) (by omega) (by omega)).mono ?_
    rintro e w2 ⟨rfl, hb2⟩
    have hbel2 : Below w.heap.size w w2 := hbel1.trans (hb2.mono hbel1.size)
    have hbox2 := blk_keep hbox1 hb2 (Nat.le_refl _)
    clear hc1 hbox1 hb2 hbel1
    by_cases hbig : (1048576 : Int) < 96 + 4 * (n : Int) + 8 * (m : Int) + 8 * (l : Int)
    · go_wp2
      go_ret
      exact ⟨rfl, hbel2⟩
    · go_wp2
      have hn : n ≤ 1048576 := by omega
      have hm : m ≤ 1048576 := by omega
      have hl : l ≤ 1048576 := by omega
      have hbel : Below w.heap.size w (w2.alloc (.cells #[.int .i64 0, .int .u64 0, .int .u64 0, .int .u64 0] 29)) := hbel2.alloc hbel2.size _
      have hbox : (w2.alloc (.cells #[.int .i64 0, .int .u64 0, .int .u64 0, .int .u64 0] 29)).heap[w.heap.size]? = some (.cells #[.int .i32 p, .int .i32 s, .bool np, .bool qp, .slice fo n cap, .slice fa m mcap, .slice ba l lcap] 33 (0, 0)) := blk_alloc hbox2 _
      have hsp : (w2.alloc (.cells #[.int .i64 0, .int .u64 0, .int .u64 0, .int .u64 0] 29)).heap[w2.heap.size]? = some (.cells #[.int .i64 0, .int .u64 0, .int .u64 0, .int .u64 0] 29 (0, 0)) := blk_new _ _ rfl
      clear hbel2 hbox2 hbig hr
      generalize w2.alloc (.cells #[.int .i64 0, .int .u64 0, .int .u64 0, .int .u64 0] 29) = wr at hbel hbox hsp ⊢
      generalize w2.heap.size = sp at hsp ⊢
      have HS : Hid (∀ w', Below wr.heap.size wr w' → w'.cell? ⟨w.heap.size, 0, none⟩ = some (.int .i32 p) ∧ w'.cell? ⟨w.heap.size, 1, none⟩ = some (.int .i32 s) ∧ w'.cell? ⟨w.heap.size, 2, none⟩ = some (.bool np) ∧ w'.cell? ⟨w.heap.size, 3, none⟩ = some (.bool qp) ∧ w'.cell? ⟨w.heap.size, 4, none⟩ = some (.slice fo n cap) ∧ w'.cell? ⟨w.heap.size, 5, none⟩ = some (.slice fa m mcap) ∧ w'.cell? ⟨w.heap.size, 6, none⟩ = some (.slice ba l lcap) ∧ w'.cell? ⟨sp, 0, none⟩ = some (.int .i64 0) ∧ w'.cell? ⟨sp, 1, none⟩ = some (.int .u64 0) ∧ w'.cell? ⟨sp, 2, none⟩ = some (.int .u64 0) ∧ w'.cell? ⟨sp, 3, none⟩ = some (.int .u64 0) ∧ Below wr.heap.size wr w') := fun w' hb' => by
        have i1 := blk_keep hbox hb' (Nat.le_refl _)
        have i2 := blk_keep hsp hb' (Nat.le_refl _)
        exact ⟨cell_at i1, cell_at i1, cell_at i1, cell_at i1, cell_at i1, cell_at i1, cell_at i1, cell_at i2, cell_at i2, cell_at i2, cell_at i2, hb'⟩
      have hbr := Below.refl wr.heap.size wr
      have HA : Hid (∀ W ob, Below wr.heap.size wr W → Below wr.heap.size wr (W.alloc ob)) := fun W ob h => h.alloc h.size _
      go_cut [4] (fun p4 wc => ∃ gv v1 v2 v3, p4 = .pointer (some ⟨gv, 0, none⟩) ∧ Below wr.heap.size wr wc ∧ wc.heap[gv]? = some (.cells #[.int .i64 s, .int .i64 (prShown np p), v1, v2, v3] 37 (0, 0)) ∧ IsSl wc 0 v1 n 1 (fun k _ => .int .i64 (x k)) ∧ IsSl wc 0 v2 (vl fb m).length 2 (fiV (-(m : Int)) fx (vl fb m)))
      case first =>
        go_region_held3 (fun w' => w'.cell? ⟨w.heap.size, 0, none⟩ = some (.int .i32 p) ∧ w'.cell? ⟨w.heap.size, 1, none⟩ = some (.int .i32 s) ∧ w'.cell? ⟨w.heap.size, 2, none⟩ = some (.bool np) ∧ w'.cell? ⟨w.heap.size, 3, none⟩ = some (.bool qp) ∧ w'.cell? ⟨w.heap.size, 4, none⟩ = some (.slice fo n cap) ∧ w'.cell? ⟨w.heap.size, 5, none⟩ = some (.slice fa m mcap) ∧ w'.cell? ⟨w.heap.size, 6, none⟩ = some (.slice ba l lcap) ∧ w'.cell? ⟨sp, 0, none⟩ = some (.int .i64 0) ∧ w'.cell? ⟨sp, 1, none⟩ = some (.int .u64 0) ∧ w'.cell? ⟨sp, 2, none⟩ = some (.int .u64 0) ∧ w'.cell? ⟨sp, 3, none⟩ = some (.int .u64 0) ∧ Below wr.heap.size wr w')
          (first | with_reducible exact HS.out _ hbr.drew | with_reducible exact HS.out _ (HA.out _ _ hbr).drew | with_reducible exact HS.out _ hbelM | with_reducible exact HS.out _ hbelN | with_reducible exact HS.out _ (HA.out _ _ hbelN) | with_reducible exact HS.out _ (HA.out _ _ (HA.out _ _ hbelN)) | with_reducible exact HS.out _ (HA.out _ _ hbelM) | with_reducible exact HS.out _ (below_set5z hbelM (Nat.le_refl _)) | with_reducible exact HS.out _ (below_set5z hbelM hbelN.size) | with_reducible exact HS.out _ (below_set5z hbelM (Nat.le_succ_of_le hbelN.size)))
          (first | (go_at_call 19; refine (chordTable_any p s np qp fo n cap x fa m mcap fx fb ba l lcap bx bb _ hn hnl (h1.below (hbel.trans ((‹_ ∧ _ ∧ _ ∧ _ ∧ _ ∧ _ ∧ _ ∧ _ ∧ _ ∧ _ ∧ _ ∧ Below wr.heap.size wr _›).2.2.2.2.2.2.2.2.2.2.2.mono hbel.size)) (Nat.le_refl _)) hm hml (h2.below (hbel.trans ((‹_ ∧ _ ∧ _ ∧ _ ∧ _ ∧ _ ∧ _ ∧ _ ∧ _ ∧ _ ∧ _ ∧ Below wr.heap.size wr _›).2.2.2.2.2.2.2.2.2.2.2.mono hbel.size)) (Nat.le_refl _))).mono ?_; rintro e w3 ⟨v1, v2, rfl, ⟨ao1, cap1, rfl, hx1⟩, ⟨ao2, cap2, rfl, hx2⟩, hb3⟩; (have hv1 : IsSl w3 _ (.slice ao1 n cap1) n 4 (prV x) := ⟨_, _, rfl, hx1⟩); (have hv2 : IsSl w3 _ (.slice ao2 m cap2) m 5 (fgV fx fb) := ⟨_, _, rfl, hx2⟩); (have hbelN : Below wr.heap.size wr w3 := (‹_ ∧ _ ∧ _ ∧ _ ∧ _ ∧ _ ∧ _ ∧ _ ∧ _ ∧ _ ∧ _ ∧ Below wr.heap.size wr _›).2.2.2.2.2.2.2.2.2.2.2.trans (hb3.mono (‹_ ∧ _ ∧ _ ∧ _ ∧ _ ∧ _ ∧ _ ∧ _ ∧ _ ∧ _ ∧ _ ∧ Below wr.heap.size wr _›).2.2.2.2.2.2.2.2.2.2.2.size)); (try (have hvN : w3.heap[wr.heap.size]? = some (.cells #[.int .i64 0, .int .i64 0, .slice none 0 0, .slice none 0 0, .slice none 0 0] 37 (0, 0)) := blk_keep (blk_drew (blk_new wr _ rfl)) hb3 (Nat.le_refl _)))) | (go_at_call 12; refine (chord1 np qp p s _ ao1 n cap1 x ao2 m cap2 fx fb _ _ _ _ (by first | exact blk_new _ _ rfl | exact blk_alloc (blk_new _ _ rfl) _ | exact blk_new _ _ (by simp)) (by first | exact hv1.alloc _ | exact (hv1.alloc _).alloc _) (by first | exact hv2.alloc _ | exact (hv2.alloc _).alloc _) hp hs hn hx hm hfx).mono ?_; rintro e w4 ⟨u1, u2, u3, rfl, ⟨bo1, bp1, rfl, ky1⟩, ⟨bo2, bp2, rfl, ky2⟩, ⟨bo3, bp3, rfl, ky3⟩, hb4⟩; (have K1 : IsSl w4 _ (.slice bo1 n bp1) n 1 (fun k _ => .int .i64 (x k)) := ⟨_, _, rfl, ky1⟩); (have K2 : IsSl w4 _ (.slice bo2 (vl fb m).length bp2) (vl fb m).length 2 (fiV (-(m : Int)) fx (vl fb m)) := ⟨_, _, rfl, ky2⟩); (have hbelM : Below wr.heap.size wr w4 := (‹_ ∧ _ ∧ _ ∧ _ ∧ _ ∧ _ ∧ _ ∧ _ ∧ _ ∧ _ ∧ _ ∧ Below wr.heap.size wr _›).2.2.2.2.2.2.2.2.2.2.2.trans (hb4.mono (‹_ ∧ _ ∧ _ ∧ _ ∧ _ ∧ _ ∧ _ ∧ _ ∧ _ ∧ _ ∧ _ ∧ Below wr.heap.size wr _›).2.2.2.2.2.2.2.2.2.2.2.size)); (first | ((have hvM : w4.heap[wr.heap.size]? = some (.cells #[.int .i64 0, .int .i64 0, .slice none 0 0, .slice none 0 0, .slice none 0 0] 37 (0, 0)) := blk_keep (blk_alloc hvN _) hb4 (Nat.le_refl _)); (have qc : ∀ i, w4.cell? ⟨wr.heap.size, i, none⟩ = (#[.int .i64 0, .int .i64 0, .slice none 0 0, .slice none 0 0, .slice none 0 0] : Array Value)[i]? := fun i => cell_at hvM); (have qf : ∀ i, w4.frozen? ⟨wr.heap.size, i, none⟩ = false := fun i => free_at hvM)) | ((have hvM : w4.heap[w3.heap.size + 1]? = some (.cells #[.int .i64 0, .int .i64 0, .slice none 0 0, .slice none 0 0, .slice none 0 0] 37 (0, 0)) := blk_keep (blk_new _ _ (by simp)) hb4 (Nat.le_refl _)); (have qc : ∀ i, w4.cell? ⟨w3.heap.size + 1, i, none⟩ = (#[.int .i64 0, .int .i64 0, .slice none 0 0, .slice none 0 0, .slice none 0 0] : Array Value)[i]? := fun i => cell_at hvM); (have qf : ∀ i, w4.frozen? ⟨w3.heap.size + 1, i, none⟩ = false := fun i => free_at hvM)) | ((have hvM : w4.heap[w3.heap.size]? = some (.cells #[.int .i64 0, .int .i64 0, .slice none 0 0, .slice none 0 0, .slice none 0 0] 37 (0, 0)) := blk_keep (blk_alloc (blk_new _ _ rfl) _) hb4 (Nat.le_refl _)); (have qc : ∀ i, w4.cell? ⟨w3.heap.size, i, none⟩ = (#[.int .i64 0, .int .i64 0, .slice none 0 0, .slice none 0 0, .slice none 0 0] : Array Value)[i]? := fun i => cell_at hvM); (have qf : ∀ i, w4.frozen? ⟨w3.heap.size, i, none⟩ = false := fun i => free_at hvM)) | skip)))
        · go_wp2
          go_meet
          case rel => exact ⟨w4.heap.size, _, _, _, rfl, HA.out _ _ hbelM, blk_new _ _ rfl, (K1.alloc _).lower (Nat.zero_le _), (K2.alloc _).lower (Nat.zero_le _)⟩
        · go_wp2
          go_meet
          case rel => exact ⟨w3.heap.size + 1, _, _, _, rfl, below_set5z hbelM (Nat.le_succ_of_le hbelN.size), blk_full5 hvM, (isSl_set5z K1 (by simp)).lower (Nat.zero_le _), (isSl_set5z K2 (by simp)).lower (Nat.zero_le _)⟩
        · go_wp2
          go_meet
          case rel => exact ⟨w3.heap.size, _, _, _, rfl, below_set5z hbelM hbelN.size, blk_full5 hvM, (isSl_set5z K1 (by simp; omega)).lower (Nat.zero_le _), (isSl_set5z K2 (by simp; omega)).lower (Nat.zero_le _)⟩
        · have z3 := lt_of_block hvN
          go_wp2
          go_meet
          case rel => exact ⟨wr.heap.size, _, _, _, rfl, below_set5z hbelM (Nat.le_refl _), blk_full5 hvM, (isSl_set5z K1 (by simp; omega)).lower (Nat.zero_le _), (isSl_set5z K2 (by simp; omega)).lower (Nat.zero_le _)⟩
      case rest =>
        obtain ⟨gv, v1, v2, v3, rfl, hbC, hv37, ⟨ao1, cap1, rfl, kx1⟩, ⟨ao2, cap2, rfl, kx2⟩⟩ := hcut
        have K1 : IsSl wc 0 (.slice ao1 n cap1) n 1 (fun k _ => .int .i64 (x k)) := ⟨_, _, rfl, kx1⟩
        have K2 : IsSl wc 0 (.slice ao2 (vl fb m).length cap2) (vl fb m).length 2 (fiV (-(m : Int)) fx (vl fb m)) := ⟨_, _, rfl, kx2⟩
        have hbelC := hbel.trans (hbC.mono hbel.size)
        have hboxC := blk_keep hbox hbC (Nat.le_refl _)
        have hspC := blk_keep hsp hbC (Nat.le_refl _)
        have hcB : ∀ i, wc.cell? ⟨w.heap.size, i, none⟩ = (#[.int .i32 p, .int .i32 s, .bool np, .bool qp, .slice fo n cap, .slice fa m mcap, .slice ba l lcap] : Array Value)[i]? := fun i => cell_at hboxC
        clear kx1 kx2 HS HA hbr hbC hbox hsp hbel
        go_wp2_with fail
        refine (relaxedTable_any p s np qp fo n cap x fa m mcap fx fb ba l lcap bx bb _ hn hnl (h1.below hbelC (Nat.le_refl _)) hm hml (h2.below hbelC (Nat.le_refl _)) hl hll (h3.below hbelC (Nat.le_refl _))).mono ?_
        rintro e w5 ⟨t1, t2, t3, rfl, ⟨bo1, bp1, rfl, kx1⟩, ⟨bo2, bp2, rfl, kx2⟩, ⟨bo3, bp3, rfl, kx3⟩, hb5⟩
        have T1 : IsSl w5 _ (.slice bo1 n bp1) n 4 (prV x) := ⟨_, _, rfl, kx1⟩
        have T2 : IsSl w5 _ (.slice bo2 m bp2) m 5 (fgV fx fb) := ⟨_, _, rfl, kx2⟩
        have T3 : IsSl w5 _ (.slice bo3 l bp3) l 5 (fgV bx bb) := ⟨_, _, rfl, kx3⟩
        clear hcB kx1 kx2 kx3
        go_wp2_with fail
        refine (rel1 np qp p s bo1 n bp1 x bo2 m bp2 fx fb bo3 l bp3 bx bb _ _ _ _ _ (blk_new _ _ rfl) (T1.alloc _) (T2.alloc _) (T3.alloc _) hp hs hn hx hm hfx hl hbx).mono ?_
        rintro e w6 ⟨t1, t2, t3, rfl, ⟨co1, cp1, rfl, kx1⟩, ⟨co2, cp2, rfl, kx2⟩, ⟨co3, cp3, rfl, kx3⟩, hb6⟩
        have hb6' : Below wc.heap.size wc w6 := (hb5.alloc hb5.size _).trans (hb6.mono (by have := hb5.size; simp; omega))
        have R1 : IsSl w6 _ (.slice co1 n cp1) n 1 (fun k _ => .int .i64 (x k)) := ⟨_, _, rfl, kx1⟩
        have R2 : IsSl w6 _ (.slice co2 (vl fb m).length cp2) (vl fb m).length 2 (fiV 0 fx (vl fb m)) := ⟨_, _, rfl, kx2⟩
        have K1' := K1.below hb6' (Nat.le_refl _)
        have K2' := K2.below hb6' (Nat.le_refl _)
        have hbel6 := hbelC.trans (hb6'.mono hbelC.size)
        have hbox6 := blk_keep hboxC hb6' (Nat.le_refl _)
        have hsp6 := blk_keep hspC hb6' (Nat.le_refl _)
        have hv6 := blk_keep hv37 hb6' (Nat.le_refl _)
        have hgl := lt_of_block hv6
        have hcg : ∀ i, w6.cell? ⟨gv, i, none⟩ = (#[.int .i64 s, .int .i64 (prShown np p), .slice ao1 n cap1, .slice ao2 (vl fb m).length cap2, v3] : Array Value)[i]? := fun i => cell_at hv6
        clear kx1 kx2 kx3 T1 T2 T3 hb5 hb6 hb6' K1 K2 hbelC hboxC hspC hv37
        have hne1 : (s != s) = false := by simp
        have hne2 : (prShown np p != prShown np p) = false := by simp
        go_wp2_with fail
        have K2' := K2'
        refine (intsEqual_any ao1 co1 n cap1 cp1 x _ hn (isSl_row (K1'.alloc _)) (isSl_row (R1.alloc _))).mono ?_
        rintro e w8 ⟨rfl, hb8⟩
        have hb68 : Below w6.heap.size w6 w8 := ((Below.refl _ _).alloc (Nat.le_refl _) _).trans (hb8.mono (by simp))
        have K8 := K2'.below hb68 (Nat.le_refl _)
        have R8 := (R2.below hb68 (Nat.le_refl _)).lower (Nat.zero_le _)
        have hv8 := blk_keep hv6 hb68 (Nat.le_refl _)
        have hg8 := blk_keep (blk_new w6 _ rfl) hb8 (Nat.le_refl _)
        have hbox8 := blk_keep hbox6 hb68 (Nat.le_refl _)
        have hsp8 := blk_keep hsp6 hb68 (Nat.le_refl _)
        have hbel8 := hbel6.trans (hb68.mono hbel6.size)
        clear hcg hgl hv6 hbox6 hsp6 hbel6 K1' K2' R1 R2 hb8 hb68 hne1 hne2
        generalize w6.heap.size = g5 at hg8 ⊢
        have hcg : w8.cell? ⟨gv, 3, none⟩ = some (.slice ao2 (vl fb m).length cap2) := cell_at hv8
        have hc5 : w8.cell? ⟨g5, 3, none⟩ = some (.slice co2 (vl fb m).length cp2) := cell_at hg8
        go_wp2
        clear hcg hc5
        have HS : Hid (∀ w', Below w8.heap.size w8 w' → w'.cell? ⟨sp, 0, none⟩ = some (.int .i64 0) ∧ w'.cell? ⟨sp, 1, none⟩ = some (.int .u64 0) ∧ w'.cell? ⟨sp, 2, none⟩ = some (.int .u64 0) ∧ w'.cell? ⟨sp, 3, none⟩ = some (.int .u64 0) ∧ w'.cell? ⟨w.heap.size, 5, none⟩ = some (.slice fa m mcap) ∧ Below w8.heap.size w8 w') := fun w' hb' => by
          have i1 := blk_keep hbox8 hb' (Nat.le_refl _)
          have i2 := blk_keep hsp8 hb' (Nat.le_refl _)
          exact ⟨cell_at i2, cell_at i2, cell_at i2, cell_at i2, cell_at i1, hb'⟩
        have hbr := Below.refl w8.heap.size w8
        have hwm1 : IntKind.i64.wrap (-(m : Int)) = -(m : Int) := by rw [IntKind.wrap_i64]; omega
        go_region_held3 (fun w' => w'.cell? ⟨sp, 0, none⟩ = some (.int .i64 0) ∧ w'.cell? ⟨sp, 1, none⟩ = some (.int .u64 0) ∧ w'.cell? ⟨sp, 2, none⟩ = some (.int .u64 0) ∧ w'.cell? ⟨sp, 3, none⟩ = some (.int .u64 0) ∧ w'.cell? ⟨w.heap.size, 5, none⟩ = some (.slice fa m mcap) ∧ Below w8.heap.size w8 w')
          (first | with_reducible exact HS.out _ hbr.drew | with_reducible exact HS.out _ hb9)
          (first | (go_at_call 16; refine (bits_any _ _ _ 0 _).mono ?_; rintro e w9 ⟨rfl, hb9'⟩; (have hb9 : Below w8.heap.size w8 w9 := hbr.drew.trans hb9')))
        have K9 := K8.below hb9 (Nat.le_refl _)
        have R9 := R8.below hb9 (Nat.le_refl _)
        have hv9 := blk_keep hv8 hb9 (Nat.le_refl _)
        have hg9 := blk_keep hg8 hb9 (Nat.le_refl _)
        have hbel9 := hbel8.trans (hb9.mono hbel8.size)
        clear HS hbr hwm1 hb9 hb9' K8 R8 hv8 hg8 hbox8 hsp8 hbel8
        go_wp2
        have hvl := vl_le fb m
        go_loopw [7] (fun i wr => ∃ k : Nat, k ≤ (vl fb m).length ∧ i = .int .i64 k ∧ Below w9.heap.size w9 wr) (fun i _ => (vl fb m).length - (intOf i).toNat)
        case atStart => exact ⟨0, Nat.zero_le _, rfl, Below.refl _ _⟩
        case round =>
          obtain ⟨k, hk, rfl, hbr⟩ := hrel
          have hvr := blk_keep hv9 hbr (Nat.le_refl _)
          have hgr := blk_keep hg9 hbr (Nat.le_refl _)
          have hcg : wr.cell? ⟨gv, 3, none⟩ = some (.slice ao2 (vl fb m).length cap2) := cell_at hvr
          by_cases hlt : k < (vl fb m).length
          · rcases isSl_row K9 with hz | ⟨b1, o1, rfl, _, hl1, hc1⟩
            · omega
            · rcases isSl_row R9 with hz | ⟨b2, o2, rfl, _, hl2, hc2⟩
              · omega
              · obtain ⟨q, hq⟩ : ∃ q : Nat, q = (vl fb m).getD k 0 := ⟨_, rfl⟩
                have hqm : q < m := by rw [hq]; exact (vl_lt fb m k hlt).1
                have e10 : w9.cell? ⟨b1, o1 + k * 2, none⟩ = some (.int .i64 (-(m : Int) + (q : Int))) := by rw [hq]; exact hc1 k hlt 0 (by omega)
                have e11 : w9.cell? ⟨b1, o1 + k * 2 + 1, none⟩ = some (.int .i64 (fx q)) := by rw [hq]; exact hc1 k hlt 1 (by omega)
                have e20 : w9.cell? ⟨b2, o2 + k * 2, none⟩ = some (.int .i64 (q : Int)) := by
                  have := hc2 k hlt 0 (by omega)
                  rw [hq]; simpa [fiV] using this
                have e21 : w9.cell? ⟨b2, o2 + k * 2 + 1, none⟩ = some (.int .i64 (fx q)) := by rw [hq]; exact hc2 k hlt 1 (by omega)
                have HS : Hid (∀ w', Below w9.heap.size w9 w' → w'.cell? ⟨gv, 3, none⟩ = some (.slice (some ⟨b1, o1, none⟩) (vl fb m).length cap2) ∧ w'.cell? ⟨g5, 3, none⟩ = some (.slice (some ⟨b2, o2, none⟩) (vl fb m).length cp2) ∧ w'.cell? ⟨b1, o1 + k * 2, none⟩ = some (.int .i64 (-(m : Int) + (q : Int))) ∧ w'.cell? ⟨b1, o1 + k * 2 + 1, none⟩ = some (.int .i64 (fx q)) ∧ w'.cell? ⟨b2, o2 + k * 2, none⟩ = some (.int .i64 (q : Int)) ∧ w'.cell? ⟨b2, o2 + k * 2 + 1, none⟩ = some (.int .i64 (fx q)) ∧ Below w9.heap.size w9 w') := fun w' hb' => by
                  have i1 := blk_keep hv9 hb' (Nat.le_refl _)
                  have i2 := blk_keep hg9 hb' (Nat.le_refl _)
                  exact ⟨cell_at i1, cell_at i2, (hb'.cell (p := ⟨b1, o1 + k * 2, none⟩) hl1).trans e10, (hb'.cell (p := ⟨b1, o1 + k * 2 + 1, none⟩) hl1).trans e11, (hb'.cell (p := ⟨b2, o2 + k * 2, none⟩) hl2).trans e20, (hb'.cell (p := ⟨b2, o2 + k * 2 + 1, none⟩) hl2).trans e21, hb'⟩
                have hi0 : (0 : Int) ≤ (k : Int) := by omega
                have hi1 : (k : Int) < ((vl fb m).length : Int) := by omega
                have hcmp : ((-(m : Int) + (q : Int)) != ((q : Int) + -(m : Int))) = false := by simp; omega
                have hwq : IntKind.i64.wrap ((q : Int) + -(m : Int)) = (q : Int) + -(m : Int) := by rw [IntKind.wrap_i64]; omega
                clear hc1 hc2 e10 e11 e20 e21 hq hvr hgr K9 R9 hv9 hg9 hx hfx hbx h1 h2 h3
                go_wp2
                go_region_held3 (fun w' => w'.cell? ⟨gv, 3, none⟩ = some (.slice (some ⟨b1, o1, none⟩) (vl fb m).length cap2) ∧ w'.cell? ⟨g5, 3, none⟩ = some (.slice (some ⟨b2, o2, none⟩) (vl fb m).length cp2) ∧ w'.cell? ⟨b1, o1 + k * 2, none⟩ = some (.int .i64 (-(m : Int) + (q : Int))) ∧ w'.cell? ⟨b1, o1 + k * 2 + 1, none⟩ = some (.int .i64 (fx q)) ∧ w'.cell? ⟨b2, o2 + k * 2, none⟩ = some (.int .i64 (q : Int)) ∧ w'.cell? ⟨b2, o2 + k * 2 + 1, none⟩ = some (.int .i64 (fx q)) ∧ Below w9.heap.size w9 w')
                  (with_reducible exact HS.out _ hbr.drew)
                  (fail)
                go_wp2
                go_region_held3 (fun w' => w'.cell? ⟨gv, 3, none⟩ = some (.slice (some ⟨b1, o1, none⟩) (vl fb m).length cap2) ∧ w'.cell? ⟨g5, 3, none⟩ = some (.slice (some ⟨b2, o2, none⟩) (vl fb m).length cp2) ∧ w'.cell? ⟨b1, o1 + k * 2, none⟩ = some (.int .i64 (-(m : Int) + (q : Int))) ∧ w'.cell? ⟨b1, o1 + k * 2 + 1, none⟩ = some (.int .i64 (fx q)) ∧ w'.cell? ⟨b2, o2 + k * 2, none⟩ = some (.int .i64 (q : Int)) ∧ w'.cell? ⟨b2, o2 + k * 2 + 1, none⟩ = some (.int .i64 (fx q)) ∧ Below w9.heap.size w9 w')
                  (with_reducible exact HS.out _ hbr.drew.drew)
                  (fail)
                go_wp2
                go_roundw
                case rel => exact ⟨k + 1, by omega, by go_num, hbr.drew.drew⟩
                case measure => simp [intOf]; omega
          · go_wp2
            go_ret
            exact ⟨rfl, hbel9.trans (hbr.mono hbel9.size)⟩
end Go.Proofs.Qxb6600017a
