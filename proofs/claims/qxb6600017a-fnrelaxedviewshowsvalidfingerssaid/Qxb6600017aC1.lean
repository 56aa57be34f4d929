import Derived.Test.Qxb6600017aA9
import Derived.Test.Qxb6600017aB1
import Derived.Test.Qxb6600017aB2
namespace Go.Proofs.Qxb6600017a
open Go.RowKit
set_option linter.unusedSimpArgs false
set_option linter.unusedVariables false

def prShown (np : Bool) (p : Int) : Int := if np then -1 else p

theorem chordView_any (np : Bool) (tn tcap nd b o : Nat) (p s : Int) (c5 c6 c7 c8 : Value) (fo : Option Addr) (n cap : Nat) (x : Nat → Int) (fa : Option Addr) (m mcap : Nat) (fx : Nat → Int) (fb : Nat → Bool) (w : World)
    (hnd : nd < tn) (htn : tn ≤ 1048576) (hb : b < w.heap.size)
    (t6 : w.cell? ⟨b, o + nd * 15 + 6, none⟩ = some (.int .i32 p)) (t10 : w.cell? ⟨b, o + nd * 15 + 10, none⟩ = some (.int .i32 s)) (t11 : w.cell? ⟨b, o + nd * 15 + 11, none⟩ = some (.bool np))
    (t13 : w.cell? ⟨b, o + nd * 15 + 13, none⟩ = some (.slice fo n cap)) (t14 : w.cell? ⟨b, o + nd * 15 + 14, none⟩ = some (.slice fa m mcap))
    (hp : -2147483648 ≤ p ∧ p ≤ 2147483647) (hs : -2147483648 ≤ s ∧ s ≤ 2147483647)
    (hn : n ≤ 1048576) (h1 : RowIn w 0 fo n 4 (prV x)) (hx : ∀ k, -2147483648 ≤ x k ∧ x k ≤ 2147483647) (hm : m ≤ 1048576) (h2 : RowIn w 0 fa m 5 (fgV fx fb)) (hfx : ∀ k, -2147483648 ≤ fx k ∧ fx k ≤ 2147483647) :
    Calls Try.prog 36 #[.agg #[.slice (some ⟨b, o, none⟩) tn tcap, .int .i64 0, c5, c6, c7, c8], .int .i64 nd] w fun e w' => ∃ v1 v2, e = .returned (.agg #[.int .i64 s, .int .i64 (prShown np p), v1, v2, .slice none 0 0]) ∧
      IsSl w' w.heap.size v1 n 1 (fun k _ => .int .i64 (x k)) ∧ IsSl w' w.heap.size v2 (vl fb m).length 2 (fiV (-(m : Int)) fx (vl fb m)) ∧ Below w.heap.size w w' := by
  cases np
  · exact chordView_false tn tcap nd b o p s c5 c6 c7 c8 fo n cap x fa m mcap fx fb w hnd htn hb t6 t10 t11 t13 t14 hp hs hn h1 hx hm h2 hfx
  · exact chordView_true tn tcap nd b o p s c5 c6 c7 c8 fo n cap x fa m mcap fx fb w hnd htn hb t6 t10 t11 t13 t14 hp hs hn h1 hx hm h2 hfx

set_option maxHeartbeats 1000000 in
theorem zzChord_any (np : Bool) (tn tcap nd b o : Nat) (p s fg : Int) (fo : Option Addr) (n cap : Nat) (x : Nat → Int) (fa : Option Addr) (m mcap : Nat) (fx : Nat → Int) (fb : Nat → Bool) (w : World)
    (hnd : nd < tn) (htn : tn ≤ 1048576) (hb : b < w.heap.size)
    (t6 : w.cell? ⟨b, o + nd * 15 + 6, none⟩ = some (.int .i32 p)) (t10 : w.cell? ⟨b, o + nd * 15 + 10, none⟩ = some (.int .i32 s)) (t11 : w.cell? ⟨b, o + nd * 15 + 11, none⟩ = some (.bool np))
    (t13 : w.cell? ⟨b, o + nd * 15 + 13, none⟩ = some (.slice fo n cap)) (t14 : w.cell? ⟨b, o + nd * 15 + 14, none⟩ = some (.slice fa m mcap))
    (hp : -2147483648 ≤ p ∧ p ≤ 2147483647) (hs : -2147483648 ≤ s ∧ s ≤ 2147483647)
    (hn : n ≤ 1048576) (h1 : RowIn w 0 fo n 4 (prV x)) (hx : ∀ k, -2147483648 ≤ x k ∧ x k ≤ 2147483647) (hm : m ≤ 1048576) (h2 : RowIn w 0 fa m 5 (fgV fx fb)) (hfx : ∀ k, -2147483648 ≤ fx k ∧ fx k ≤ 2147483647) :
    Calls Try.prog 12 #[.slice (some ⟨b, o, none⟩) tn tcap, .agg #[.int .i64 0, .int .u64 0, .int .u64 0, .int .u64 0], .int .i64 fg, .int .i64 nd] w fun e w' => ∃ v1 v2 v3, e = .returned (.agg #[.int .i64 s, .int .i64 (prShown np p), v1, v2, v3]) ∧
      IsSl w' w.heap.size v1 n 1 (fun k _ => .int .i64 (x k)) ∧ IsSl w' w.heap.size v2 (vl fb m).length 2 (fiV (-(m : Int)) fx (vl fb m)) ∧ IsSl w' w.heap.size v3 0 2 (pairV (fun _ => 0) (fun _ => 0)) ∧ Below w.heap.size w w' := by
  go_enter Try.func12, Try.ntmps12
  have hvl := vl_le fb m
  go_wp2_with fail
  have hbel : Below w.heap.size w ((w.alloc (.cells #[.int .i64 0, .int .u64 0, .int .u64 0, .int .u64 0] 29)).alloc (.cells #[.int .i64 0, .int .i64 0, .slice none 0 0, .slice none 0 0, .slice none 0 0] 37)) := ((Below.refl _ _).alloc (Nat.le_refl _) _).alloc (by simp) _
  have h37 : ((w.alloc (.cells #[.int .i64 0, .int .u64 0, .int .u64 0, .int .u64 0] 29)).alloc (.cells #[.int .i64 0, .int .i64 0, .slice none 0 0, .slice none 0 0, .slice none 0 0] 37)).heap[w.heap.size + 1]? = some (.cells #[.int .i64 0, .int .i64 0, .slice none 0 0, .slice none 0 0, .slice none 0 0] 37 (0, 0)) := blk_new _ _ (by simp)
  generalize ((w.alloc (.cells #[.int .i64 0, .int .u64 0, .int .u64 0, .int .u64 0] 29)).alloc (.cells #[.int .i64 0, .int .i64 0, .slice none 0 0, .slice none 0 0, .slice none 0 0] 37)) = wr at hbel h37 ⊢
  have u6 := ((hbel.cell (p := ⟨b, o + nd * 15 + 6, none⟩) hb).trans t6)
  have u10 := ((hbel.cell (p := ⟨b, o + nd * 15 + 10, none⟩) hb).trans t10)
  have u11 := ((hbel.cell (p := ⟨b, o + nd * 15 + 11, none⟩) hb).trans t11)
  have u13 := ((hbel.cell (p := ⟨b, o + nd * 15 + 13, none⟩) hb).trans t13)
  have u14 := ((hbel.cell (p := ⟨b, o + nd * 15 + 14, none⟩) hb).trans t14)
  refine (chordView_any np tn tcap nd b o p s _ _ _ _ fo n cap x fa m mcap fx fb wr hnd htn (Nat.lt_of_lt_of_le hb hbel.size) u6 u10 u11 u13 u14 hp hs hn (h1.below hbel (Nat.le_refl _)) hx hm (h2.below hbel (Nat.le_refl _)) hfx).mono ?_
  rintro e w1 ⟨v1, v2, rfl, ⟨ao1, cap1, rfl, hn1, hr1⟩, ⟨ao2, cap2, rfl, hn2, hr2⟩, hb1⟩
  have hbelN := hbel.trans (hb1.mono hbel.size)
  have h37N := blk_keep h37 hb1 (Nat.le_refl _)
  clear u6 u10 u11 u13 u14 t6 t10 t11 t13 t14 h1 h2
  go_wp2_with fail
  refine (nodeTable_any s (prShown np p) ao1 n cap1 x ao2 (vl fb m).length cap2 (fun i => (-(m : Int)) + (((vl fb m).getD i 0 : Nat) : Int)) (fun i => fx ((vl fb m).getD i 0)) none 0 0 (fun _ => 0) (fun _ => 0) w1 hn hn1 (hr1.lower (Nat.zero_le _)) (Nat.le_trans hvl hm) hn2 (hr2.lower (Nat.zero_le _)) (Nat.zero_le _) (fun _ => ⟨rfl, rfl⟩) (.inl rfl)).mono ?_
  rintro e w2 ⟨u1, u2, u3, rfl, ⟨bo1, bp1, rfl, kn1⟩, ⟨bo2, bp2, rfl, kn2⟩, ⟨bo3, bp3, rfl, kn3⟩, hb2⟩
  have K1 : IsSl w2 _ (.slice bo1 n bp1) n 1 (fun k _ => .int .i64 (x k)) := ⟨_, _, rfl, kn1⟩
  have K2 : IsSl w2 _ (.slice bo2 (vl fb m).length bp2) (vl fb m).length 2 (fiV (-(m : Int)) fx (vl fb m)) := ⟨_, _, rfl, kn2⟩
  have K3 : IsSl w2 _ (.slice bo3 0 bp3) 0 2 (pairV (fun _ => 0) (fun _ => 0)) := ⟨_, _, rfl, kn3⟩
  have h37M := blk_keep h37N hb2 (Nat.le_refl _)
  have hbelM := hbelN.trans (hb2.mono hbelN.size)
  have zz := lt_of_block h37N
  have qc : ∀ i, w2.cell? ⟨w.heap.size + 1, i, none⟩ = (#[.int .i64 0, .int .i64 0, .slice none 0 0, .slice none 0 0, .slice none 0 0] : Array Value)[i]? := fun i => cell_at h37M
  have qf : ∀ i, w2.frozen? ⟨w.heap.size + 1, i, none⟩ = false := fun i => free_at h37M
  have R := blk_full5 (v0 := .int .i64 s) (v1 := .int .i64 (prShown np p)) (v2 := .slice bo1 n bp1) (v3 := .slice bo2 (vl fb m).length bp2) (v4 := .slice bo3 0 bp3) h37M
  go_wp2
  exact bodyPost_ret (results_cell_row (P := Try.prog) (fn := Try.f12) (by rfl) _ _ (w.heap.size + 1) 37 _ (0, 0) _ (by rfl) R Try.underlying37 rfl (by kernel_rfl)) rfl ⟨_, _, _, rfl, (isSl_set5z K1 (by omega)).lower (by omega), (isSl_set5z K2 (by omega)).lower (by omega), (isSl_set5z K3 (by omega)).lower (by omega), below_set5z hbelM (by omega)⟩
end Go.Proofs.Qxb6600017a
