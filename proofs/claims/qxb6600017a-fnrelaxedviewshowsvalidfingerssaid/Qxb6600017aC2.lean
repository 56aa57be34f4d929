import Derived.Test.Qxb6600017aA9
import Derived.Test.Qxb6600017aB3
import Derived.Test.Qxb6600017aB4
import Derived.Test.Qxb6600017aC1
namespace Go.Proofs.Qxb6600017a
open Go.RowKit
set_option linter.unusedSimpArgs false
set_option linter.unusedVariables false

theorem relView_any (np : Bool) (tn tcap nd b o : Nat) (p s : Int) (fo : Option Addr) (n cap : Nat) (x : Nat → Int) (fa : Option Addr) (m mcap : Nat) (fx : Nat → Int) (fb : Nat → Bool) (ba : Option Addr) (l lcap : Nat) (bx : Nat → Int) (bb : Nat → Bool) (w : World)
    (hnd : nd < tn) (htn : tn ≤ 1048576) (hb : b < w.heap.size)
    (t6 : w.cell? ⟨b, o + nd * 16 + 6, none⟩ = some (.int .i32 p)) (t10 : w.cell? ⟨b, o + nd * 16 + 10, none⟩ = some (.int .i32 s)) (t11 : w.cell? ⟨b, o + nd * 16 + 11, none⟩ = some (.bool np))
    (t13 : w.cell? ⟨b, o + nd * 16 + 13, none⟩ = some (.slice fo n cap)) (t14 : w.cell? ⟨b, o + nd * 16 + 14, none⟩ = some (.slice fa m mcap)) (t15 : w.cell? ⟨b, o + nd * 16 + 15, none⟩ = some (.slice ba l lcap))
    (hp : -2147483648 ≤ p ∧ p ≤ 2147483647) (hs : -2147483648 ≤ s ∧ s ≤ 2147483647)
    (hn : n ≤ 1048576) (h1 : RowIn w 0 fo n 4 (prV x)) (hx : ∀ k, -2147483648 ≤ x k ∧ x k ≤ 2147483647) (hm : m ≤ 1048576) (h2 : RowIn w 0 fa m 5 (fgV fx fb)) (hfx : ∀ k, -2147483648 ≤ fx k ∧ fx k ≤ 2147483647)
    (hl : l ≤ 1048576) (h3 : RowIn w 0 ba l 5 (fgV bx bb)) (hbx : ∀ k, -2147483648 ≤ bx k ∧ bx k ≤ 2147483647) :
    Calls Try.prog 40 #[.slice (some ⟨b, o, none⟩) tn tcap, .int .i64 nd] w fun e w' => ∃ v1 v2 v3, e = .returned (.agg #[.int .i64 s, .int .i64 (prShown np p), v1, v2, v3]) ∧
      IsSl w' w.heap.size v1 n 1 (fun k _ => .int .i64 (x k)) ∧ IsSl w' w.heap.size v2 (vl fb m).length 2 (fiV 0 fx (vl fb m)) ∧ IsSl w' w.heap.size v3 (vl bb l).length 2 (fiV 0 bx (vl bb l)) ∧ Below w.heap.size w w' := by
  cases np
  · exact relView_false tn tcap nd b o p s fo n cap x fa m mcap fx fb ba l lcap bx bb w hnd htn hb t6 t10 t11 t13 t14 t15 hp hs hn h1 hx hm h2 hfx hl h3 hbx
  · exact relView_true tn tcap nd b o p s fo n cap x fa m mcap fx fb ba l lcap bx bb w hnd htn hb t6 t10 t11 t13 t14 t15 hp hs hn h1 hx hm h2 hfx hl h3 hbx

set_option maxHeartbeats 1000000 in
theorem zzRel_any (np : Bool) (tn tcap nd b o : Nat) (p s : Int) (fo : Option Addr) (n cap : Nat) (x : Nat → Int) (fa : Option Addr) (m mcap : Nat) (fx : Nat → Int) (fb : Nat → Bool) (ba : Option Addr) (l lcap : Nat) (bx : Nat → Int) (bb : Nat → Bool) (w : World)
    (hnd : nd < tn) (htn : tn ≤ 1048576) (hb : b < w.heap.size)
    (t6 : w.cell? ⟨b, o + nd * 16 + 6, none⟩ = some (.int .i32 p)) (t10 : w.cell? ⟨b, o + nd * 16 + 10, none⟩ = some (.int .i32 s)) (t11 : w.cell? ⟨b, o + nd * 16 + 11, none⟩ = some (.bool np))
    (t13 : w.cell? ⟨b, o + nd * 16 + 13, none⟩ = some (.slice fo n cap)) (t14 : w.cell? ⟨b, o + nd * 16 + 14, none⟩ = some (.slice fa m mcap)) (t15 : w.cell? ⟨b, o + nd * 16 + 15, none⟩ = some (.slice ba l lcap))
    (hp : -2147483648 ≤ p ∧ p ≤ 2147483647) (hs : -2147483648 ≤ s ∧ s ≤ 2147483647)
    (hn : n ≤ 1048576) (h1 : RowIn w 0 fo n 4 (prV x)) (hx : ∀ k, -2147483648 ≤ x k ∧ x k ≤ 2147483647) (hm : m ≤ 1048576) (h2 : RowIn w 0 fa m 5 (fgV fx fb)) (hfx : ∀ k, -2147483648 ≤ fx k ∧ fx k ≤ 2147483647)
    (hl : l ≤ 1048576) (h3 : RowIn w 0 ba l 5 (fgV bx bb)) (hbx : ∀ k, -2147483648 ≤ bx k ∧ bx k ≤ 2147483647) :
    Calls Try.prog 23 #[.slice (some ⟨b, o, none⟩) tn tcap, .int .i64 nd] w fun e w' => ∃ v1 v2 v3, e = .returned (.agg #[.int .i64 s, .int .i64 (prShown np p), v1, v2, v3]) ∧
      IsSl w' w.heap.size v1 n 1 (fun k _ => .int .i64 (x k)) ∧ IsSl w' w.heap.size v2 (vl fb m).length 2 (fiV 0 fx (vl fb m)) ∧ IsSl w' w.heap.size v3 (vl bb l).length 2 (fiV 0 bx (vl bb l)) ∧ Below w.heap.size w w' := by
  go_enter Try.func23, Try.ntmps23
  have hvl := vl_le fb m
  have hvb := vl_le bb l
  go_wp2_with fail
  have hbel : Below w.heap.size w (w.alloc (.cells #[.int .i64 0, .int .i64 0, .slice none 0 0, .slice none 0 0, .slice none 0 0] 37)) := (Below.refl _ _).alloc (Nat.le_refl _) _
  have h37 : (w.alloc (.cells #[.int .i64 0, .int .i64 0, .slice none 0 0, .slice none 0 0, .slice none 0 0] 37)).heap[w.heap.size]? = some (.cells #[.int .i64 0, .int .i64 0, .slice none 0 0, .slice none 0 0, .slice none 0 0] 37 (0, 0)) := blk_new _ _ rfl
  generalize (w.alloc (.cells #[.int .i64 0, .int .i64 0, .slice none 0 0, .slice none 0 0, .slice none 0 0] 37)) = wr at hbel h37 ⊢
  have u6 := ((hbel.cell (p := ⟨b, o + nd * 16 + 6, none⟩) hb).trans t6)
  have u10 := ((hbel.cell (p := ⟨b, o + nd * 16 + 10, none⟩) hb).trans t10)
  have u11 := ((hbel.cell (p := ⟨b, o + nd * 16 + 11, none⟩) hb).trans t11)
  have u13 := ((hbel.cell (p := ⟨b, o + nd * 16 + 13, none⟩) hb).trans t13)
  have u14 := ((hbel.cell (p := ⟨b, o + nd * 16 + 14, none⟩) hb).trans t14)
  have u15 := ((hbel.cell (p := ⟨b, o + nd * 16 + 15, none⟩) hb).trans t15)
  refine (relView_any np tn tcap nd b o p s fo n cap x fa m mcap fx fb ba l lcap bx bb wr hnd htn (Nat.lt_of_lt_of_le hb hbel.size) u6 u10 u11 u13 u14 u15 hp hs hn (h1.below hbel (Nat.le_refl _)) hx hm (h2.below hbel (Nat.le_refl _)) hfx hl (h3.below hbel (Nat.le_refl _)) hbx).mono ?_
  rintro e w1 ⟨v1, v2, v3, rfl, ⟨ao1, cap1, rfl, hn1, hr1⟩, ⟨ao2, cap2, rfl, hn2, hr2⟩, ⟨ao3, cap3, rfl, hn3, hr3⟩, hb1⟩
  have hbelN := hbel.trans (hb1.mono hbel.size)
  have h37N := blk_keep h37 hb1 (Nat.le_refl _)
  clear u6 u10 u11 u13 u14 u15 t6 t10 t11 t13 t14 t15 h1 h2 h3
  go_wp2_with fail
  refine (nodeTable_any s (prShown np p) ao1 n cap1 x ao2 (vl fb m).length cap2 (fun i => (0 : Int) + (((vl fb m).getD i 0 : Nat) : Int)) (fun i => fx ((vl fb m).getD i 0)) ao3 (vl bb l).length cap3 (fun i => (0 : Int) + (((vl bb l).getD i 0 : Nat) : Int)) (fun i => bx ((vl bb l).getD i 0)) w1 hn hn1 (hr1.lower (Nat.zero_le _)) (Nat.le_trans hvl hm) hn2 (hr2.lower (Nat.zero_le _)) (Nat.le_trans hvb hl) hn3 (hr3.lower (Nat.zero_le _))).mono ?_
  rintro e w2 ⟨u1, u2, u3, rfl, ⟨bo1, bp1, rfl, kn1⟩, ⟨bo2, bp2, rfl, kn2⟩, ⟨bo3, bp3, rfl, kn3⟩, hb2⟩
  have K1 : IsSl w2 _ (.slice bo1 n bp1) n 1 (fun k _ => .int .i64 (x k)) := ⟨_, _, rfl, kn1⟩
  have K2 : IsSl w2 _ (.slice bo2 (vl fb m).length bp2) (vl fb m).length 2 (fiV 0 fx (vl fb m)) := ⟨_, _, rfl, kn2⟩
  have K3 : IsSl w2 _ (.slice bo3 (vl bb l).length bp3) (vl bb l).length 2 (fiV 0 bx (vl bb l)) := ⟨_, _, rfl, kn3⟩
  have h37M := blk_keep h37N hb2 (Nat.le_refl _)
  have hbelM := hbelN.trans (hb2.mono hbelN.size)
  have zz := lt_of_block h37N
  have qc : ∀ i, w2.cell? ⟨w.heap.size, i, none⟩ = (#[.int .i64 0, .int .i64 0, .slice none 0 0, .slice none 0 0, .slice none 0 0] : Array Value)[i]? := fun i => cell_at h37M
  have qf : ∀ i, w2.frozen? ⟨w.heap.size, i, none⟩ = false := fun i => free_at h37M
  have R := blk_full5 (v0 := .int .i64 s) (v1 := .int .i64 (prShown np p)) (v2 := .slice bo1 n bp1) (v3 := .slice bo2 (vl fb m).length bp2) (v4 := .slice bo3 (vl bb l).length bp3) h37M
  go_wp2
  exact bodyPost_ret (results_cell_row (P := Try.prog) (fn := Try.f23) (by rfl) _ _ (w.heap.size) 37 _ (0, 0) _ (by rfl) R Try.underlying37 rfl (by kernel_rfl)) rfl ⟨_, _, _, rfl, (isSl_set5z K1 (by omega)).lower (by omega), (isSl_set5z K2 (by omega)).lower (by omega), (isSl_set5z K3 (by omega)).lower (by omega), below_set5z hbelM (by omega)⟩
end Go.Proofs.Qxb6600017a
