import Derived.Test.Qxb6600017aA2
import Derived.Test.Qxb6600017aA3
import Derived.Test.Qxb6600017aA4
import Derived.Test.Qxb6600017aA7
import Derived.Test.Qxb6600017aA1
import Derived.Deep.AppendLies
namespace Go.Proofs.Qxb6600017a
open Go.RowKit
set_option linter.unusedSimpArgs false
set_option linter.unusedVariables false

set_option maxHeartbeats 4000000 in
theorem relView_true (tn tcap nd b o : Nat) (p s : Int) (fo : Option Addr) (n cap : Nat) (x : Nat → Int) (fa : Option Addr) (m mcap : Nat) (fx : Nat → Int) (fb : Nat → Bool) (ba : Option Addr) (l lcap : Nat) (bx : Nat → Int) (bb : Nat → Bool) (w : World)
    (hnd : nd < tn) (htn : tn ≤ 1048576) (hb : b < w.heap.size)
    (t6 : w.cell? ⟨b, o + nd * 16 + 6, none⟩ = some (.int .i32 p)) (t10 : w.cell? ⟨b, o + nd * 16 + 10, none⟩ = some (.int .i32 s)) (t11 : w.cell? ⟨b, o + nd * 16 + 11, none⟩ = some (.bool true))
    (t13 : w.cell? ⟨b, o + nd * 16 + 13, none⟩ = some (.slice fo n cap)) (t14 : w.cell? ⟨b, o + nd * 16 + 14, none⟩ = some (.slice fa m mcap)) (t15 : w.cell? ⟨b, o + nd * 16 + 15, none⟩ = some (.slice ba l lcap))
    (hp : -2147483648 ≤ p ∧ p ≤ 2147483647) (hs : -2147483648 ≤ s ∧ s ≤ 2147483647)
    (hn : n ≤ 1048576) (h1 : RowIn w 0 fo n 4 (prV x)) (hx : ∀ k, -2147483648 ≤ x k ∧ x k ≤ 2147483647) (hm : m ≤ 1048576) (h2 : RowIn w 0 fa m 5 (fgV fx fb)) (hfx : ∀ k, -2147483648 ≤ fx k ∧ fx k ≤ 2147483647)
    (hl : l ≤ 1048576) (h3 : RowIn w 0 ba l 5 (fgV bx bb)) (hbx : ∀ k, -2147483648 ≤ bx k ∧ bx k ≤ 2147483647) :
    Calls Try.prog 40 #[.slice (some ⟨b, o, none⟩) tn tcap, .int .i64 nd] w fun e w' => ∃ v1 v2 v3, e = .returned (.agg #[.int .i64 s, .int .i64 (-1), v1, v2, v3]) ∧
      IsSl w' w.heap.size v1 n 1 (fun k _ => .int .i64 (x k)) ∧ IsSl w' w.heap.size v2 (vl fb m).length 2 (fiV 0 fx (vl fb m)) ∧ IsSl w' w.heap.size v3 (vl bb l).length 2 (fiV 0 bx (vl bb l)) ∧ Below w.heap.size w w' := by
  obtain ⟨j0, gi, gz0, gz1, gz2⟩ := info_parts info3
  have hi0 : (0 : Int) ≤ (nd : Int) := by omega
  have hi1 : (nd : Int) < (tn : Int) := by omega
  have hws : IntKind.i64.wrap s = s := by rw [IntKind.wrap_i64]; omega
  have hwp : IntKind.i64.wrap p = p := by rw [IntKind.wrap_i64]; omega
  go_enter Try.func40, Try.ntmps40
  go_wp2
  have hbel : Below w.heap.size w (w.alloc (.cells #[.int .i64 0, .int .i64 0, .slice none 0 0, .slice none 0 0, .slice none 0 0] 75)) := (Below.refl _ _).alloc (Nat.le_refl _) _
  have hsz : (w.alloc (.cells #[.int .i64 0, .int .i64 0, .slice none 0 0, .slice none 0 0, .slice none 0 0] 75)).heap.size = w.heap.size + 1 := by simp
  have h75 : (w.alloc (.cells #[.int .i64 0, .int .i64 0, .slice none 0 0, .slice none 0 0, .slice none 0 0] 75)).heap[w.heap.size]? = some (.cells #[.int .i64 0, .int .i64 0, .slice none 0 0, .slice none 0 0, .slice none 0 0] 75 (0, 0)) := blk_new _ _ (by simp)
  generalize (w.alloc (.cells #[.int .i64 0, .int .i64 0, .slice none 0 0, .slice none 0 0, .slice none 0 0] 75)) = wr at hbel hsz h75 ⊢
  have HS : ∀ w', Below w.heap.size w w' → w'.cell? ⟨b, o + nd * 16 + 3 + 3, none⟩ = some (.int .i32 p) ∧ w'.cell? ⟨b, o + nd * 16 + 3 + 4 + 3, none⟩ = some (.int .i32 s) ∧ w'.cell? ⟨b, o + nd * 16 + 14, none⟩ = some (.slice fa m mcap) ∧ w'.cell? ⟨b, o + nd * 16 + 15, none⟩ = some (.slice ba l lcap) ∧ Below w.heap.size w w' := by
    intro w' hb'
    exact ⟨(hb'.cell (p := ⟨b, o + nd * 16 + 3 + 3, none⟩) hb).trans t6, (hb'.cell (p := ⟨b, o + nd * 16 + 3 + 4 + 3, none⟩) hb).trans t10, (hb'.cell (p := ⟨b, o + nd * 16 + 14, none⟩) hb).trans t14, (hb'.cell (p := ⟨b, o + nd * 16 + 15, none⟩) hb).trans t15, hb'⟩
  have HA : ∀ W ob, Below w.heap.size w W → Below w.heap.size w (W.alloc ob) := fun W ob h => h.alloc h.size _
  go_region_held3 (fun w' => w'.cell? ⟨b, o + nd * 16 + 3 + 3, none⟩ = some (.int .i32 p) ∧ w'.cell? ⟨b, o + nd * 16 + 3 + 4 + 3, none⟩ = some (.int .i32 s) ∧ w'.cell? ⟨b, o + nd * 16 + 14, none⟩ = some (.slice fa m mcap) ∧ w'.cell? ⟨b, o + nd * 16 + 15, none⟩ = some (.slice ba l lcap) ∧ Below w.heap.size w w')
    (first | with_reducible exact HS _ hbel.drew | with_reducible exact HS _ hbelM | with_reducible exact HS _ hbelN  | with_reducible exact HS _ (HA _ _ hbel).drew | with_reducible exact HS _ (HA _ _ hbelN) | with_reducible exact HS _ (HA _ _ hbelM) | with_reducible exact HS _ (below_set5z hbelM (Nat.le_succ _)) | with_reducible exact HS _ (below_set5z hbelM hbelN.size))
    (first | (go_at_call 46; (have chk := hbelN); refine (valid_any ba l lcap bx bb _ hl hbx (h3.below (‹_ ∧ _ ∧ _ ∧ _ ∧ Below w.heap.size w _›).2.2.2.2 (Nat.le_refl _))).mono ?_; rintro e w2 ⟨v2, rfl, ⟨ao2, cap2, rfl, hx2⟩, hb2⟩; (have hv2 : IsSl w2 _ (.slice ao2 (vl bb l).length cap2) (vl bb l).length 2 (fiV 0 bx (vl bb l)) := ⟨_, _, rfl, hx2⟩); (have hbelM : Below w.heap.size w w2 := (‹_ ∧ _ ∧ _ ∧ _ ∧ Below w.heap.size w _›).2.2.2.2.trans (hb2.mono (‹_ ∧ _ ∧ _ ∧ _ ∧ Below w.heap.size w _›).2.2.2.2.size)); (have h75M : w2.heap[w.heap.size]? = some (.cells #[.int .i64 0, .int .i64 0, .slice none 0 0, .slice none 0 0, .slice none 0 0] 75 (0, 0)) := (by first | exact blk_keep h75N hb2 (Nat.le_refl _) | exact blk_keep (blk_alloc h75N _) hb2 (Nat.le_refl _))); (have hv1M : IsSl w2 _ (.slice ao1 (vl fb m).length cap1) (vl fb m).length 2 (fiV 0 fx (vl fb m)) := (by first | exact hv1.below hb2 (Nat.le_refl _) | exact (hv1.alloc _).below hb2 (Nat.le_refl _))); (first | ((have hvM : w2.heap[w.heap.size + 1]? = some (.cells #[.int .i64 0, .int .i64 0, .slice none 0 0, .slice none 0 0, .slice none 0 0] 75 (0, 0)) := blk_keep hvN hb2 (Nat.le_refl _)); (have qc : ∀ i, w2.cell? ⟨w.heap.size + 1, i, none⟩ = (#[.int .i64 0, .int .i64 0, .slice none 0 0, .slice none 0 0, .slice none 0 0] : Array Value)[i]? := fun i => cell_at hvM); (have qf : ∀ i, w2.frozen? ⟨w.heap.size + 1, i, none⟩ = false := fun i => free_at hvM)) | ((have hvM : w2.heap[w1.heap.size]? = some (.cells #[.int .i64 0, .int .i64 0, .slice none 0 0, .slice none 0 0, .slice none 0 0] 75 (0, 0)) := blk_keep (blk_new w1 _ rfl) hb2 (Nat.le_refl _)); (have qc : ∀ i, w2.cell? ⟨w1.heap.size, i, none⟩ = (#[.int .i64 0, .int .i64 0, .slice none 0 0, .slice none 0 0, .slice none 0 0] : Array Value)[i]? := fun i => cell_at hvM); (have qf : ∀ i, w2.frozen? ⟨w1.heap.size, i, none⟩ = false := fun i => free_at hvM)) | skip)) | (go_at_call 46; refine (valid_any fa m mcap fx fb _ hm hfx (h2.below (‹_ ∧ _ ∧ _ ∧ _ ∧ Below w.heap.size w _›).2.2.2.2 (Nat.le_refl _))).mono ?_; rintro e w1 ⟨v1, rfl, ⟨ao1, cap1, rfl, hx1⟩, hb1⟩; (have hv1 : IsSl w1 _ (.slice ao1 (vl fb m).length cap1) (vl fb m).length 2 (fiV 0 fx (vl fb m)) := ⟨_, _, rfl, hx1⟩); (have hbelN : Below w.heap.size w w1 := (‹_ ∧ _ ∧ _ ∧ _ ∧ Below w.heap.size w _›).2.2.2.2.trans (hb1.mono (‹_ ∧ _ ∧ _ ∧ _ ∧ Below w.heap.size w _›).2.2.2.2.size)); (have h75N : w1.heap[w.heap.size]? = some (.cells #[.int .i64 0, .int .i64 0, .slice none 0 0, .slice none 0 0, .slice none 0 0] 75 (0, 0)) := (by first | exact blk_keep (blk_drew h75) hb1 (Nat.le_refl _) | exact blk_keep (blk_drew (blk_alloc h75 _)) hb1 (Nat.le_refl _))); (try (have hvN : w1.heap[w.heap.size + 1]? = some (.cells #[.int .i64 0, .int .i64 0, .slice none 0 0, .slice none 0 0, .slice none 0 0] 75 (0, 0)) := blk_keep (blk_drew (blk_new wr _ hsz.symm)) hb1 (Nat.le_refl _)))))
  · have z1 := lt_of_block h75N
    have z2 := lt_of_block h75M
    have kb : Below w.heap.size w (w2.alloc (.cells #[.int .i64 s, .int .i64 p, .slice none 0 0, .slice ao1 (vl fb m).length cap1, .slice ao2 (vl bb l).length cap2] 75)) := HA _ _ hbelM
    have k75 : (w2.alloc (.cells #[.int .i64 s, .int .i64 p, .slice none 0 0, .slice ao1 (vl fb m).length cap1, .slice ao2 (vl bb l).length cap2] 75)).heap[w.heap.size]? = some (.cells #[.int .i64 0, .int .i64 0, .slice none 0 0, .slice none 0 0, .slice none 0 0] 75 (0, 0)) := blk_alloc h75M _
    have kv : (w2.alloc (.cells #[.int .i64 s, .int .i64 p, .slice none 0 0, .slice ao1 (vl fb m).length cap1, .slice ao2 (vl bb l).length cap2] 75)).heap[w2.heap.size]? = some (.cells #[.int .i64 s, .int .i64 p, .slice none 0 0, .slice ao1 (vl fb m).length cap1, .slice ao2 (vl bb l).length cap2] 75 (0, 0)) := blk_new _ _ rfl
    have HN1 : IsSl (w2.alloc (.cells #[.int .i64 s, .int .i64 p, .slice none 0 0, .slice ao1 (vl fb m).length cap1, .slice ao2 (vl bb l).length cap2] 75)) (w.heap.size + 1) (.slice ao1 (vl fb m).length cap1) (vl fb m).length 2 (fiV 0 fx (vl fb m)) := (hv1M.alloc _).lower (Nat.le_of_eq hsz.symm)
    have HN2 : IsSl (w2.alloc (.cells #[.int .i64 s, .int .i64 p, .slice none 0 0, .slice ao1 (vl fb m).length cap1, .slice ao2 (vl bb l).length cap2] 75)) (w.heap.size + 1) (.slice ao2 (vl bb l).length cap2) (vl bb l).length 2 (fiV 0 bx (vl bb l)) := (hv2.alloc _).lower (by omega)
    have N1 : NotIn (.slice ao1 (vl fb m).length cap1) w2.heap.size := hv1M.notIn_high (Nat.le_refl _)
    have N2 : NotIn (.slice ao2 (vl bb l).length cap2) w2.heap.size := hv2.notIn_high (Nat.le_refl _)
    have hgv : w.heap.size < w2.heap.size := z2
    clear hbel hsz h75 HS HA hv1 hv2 hv1M hx1 hx2 hbelN hbelM h75N h75M hb1 hb2 z1 z2 hws hwp
    generalize (w2.alloc (.cells #[.int .i64 s, .int .i64 p, .slice none 0 0, .slice ao1 (vl fb m).length cap1, .slice ao2 (vl bb l).length cap2] 75)) = wq at kb k75 kv HN1 HN2 ⊢
    generalize w2.heap.size = gv at kv N1 N2 hgv ⊢
    have hgw := lt_of_block kv
    have T11 : wq.cell? ⟨b, o + nd * 16 + 3 + 8, none⟩ = some (.bool true) := (kb.cell (p := ⟨b, o + nd * 16 + 3 + 8, none⟩) hb).trans t11
    have T13 : wq.cell? ⟨b, o + nd * 16 + 3 + 10, none⟩ = some (.slice fo n cap) := (kb.cell (p := ⟨b, o + nd * 16 + 3 + 10, none⟩) hb).trans t13
    have V1 : wq.cell? ⟨gv, 1, none⟩ = some (.int .i64 p) := cell_at kv
    have F1 : wq.frozen? ⟨gv, 1, none⟩ = false := free_at kv
    clear t6 t10 t11 t13 t14 t15 h2 h3
    have hne : b ≠ gv := by omega
    go_wp2
    clear T11 T13 V1 F1
    have lb := kb.setCell (p := ⟨gv, 1, none⟩) (by simp; omega) (.int .i64 (-1))
    have l75 := blk_set (a := ⟨gv, 1, none⟩) k75 (by simp; omega) (.int .i64 (-1))
    have lv := blk_put (i := 1) (u := .int .i64 (-1)) kv
    simp only [List.setIfInBounds_toArray, List.set_cons_zero, List.set_cons_succ] at lv
    have LN1 := IsSl.setCell' (a := ⟨gv, 1, none⟩) HN1 N1 (.int .i64 (-1))
    have LN2 := IsSl.setCell' (a := ⟨gv, 1, none⟩) HN2 N2 (.int .i64 (-1))
    have hgw' : gv < (wq.setCell ⟨gv, 1, none⟩ (.int .i64 (-1))).heap.size := by simpa [World.setCell] using hgw
    clear hgw
    generalize wq.setCell ⟨gv, 1, none⟩ (.int .i64 (-1)) = wq at lb l75 lv LN1 LN2 hgw' ⊢
    clear kb k75 kv HN1 HN2
    obtain ⟨B3, hB3⟩ : ∃ B3, B3 = wq.heap.size := ⟨_, rfl⟩
    have hgB : gv < B3 := by omega
    have M1 : ∀ k, B3 ≤ k → NotIn (.slice ao1 (vl fb m).length cap1) k := fun k hk => LN1.notIn_high (by omega)
    have M2 : ∀ k, B3 ≤ k → NotIn (.slice ao2 (vl bb l).length cap2) k := fun k hk => LN2.notIn_high (by omega)
    go_loopw [51] (fun i wr => ∃ k : Nat, k ≤ n ∧ i = .int .i64 k ∧ Below w.heap.size w wr ∧ gv < wr.heap.size ∧ B3 ≤ wr.heap.size ∧ wr.heap[w.heap.size]? = some (.cells #[.int .i64 0, .int .i64 0, .slice none 0 0, .slice none 0 0, .slice none 0 0] 75 (0, 0)) ∧
        (IsSl wr (w.heap.size + 1) (.slice ao1 (vl fb m).length cap1) (vl fb m).length 2 (fiV 0 fx (vl fb m)) ∧ IsSl wr (w.heap.size + 1) (.slice ao2 (vl bb l).length cap2) (vl bb l).length 2 (fiV 0 bx (vl bb l))) ∧
        ∃ fv, wr.heap[gv]? = some (.cells #[.int .i64 s, .int .i64 (-1), fv, .slice ao1 (vl fb m).length cap1, .slice ao2 (vl bb l).length cap2] 75 (0, 0)) ∧ wr.ownsRow B3 3 1 fv k ((List.range k).map fun j => Value.int .i64 (x j))) (fun i _ => n - (intOf i).toNat)
    case atStart => exact ⟨0, Nat.zero_le _, rfl, lb, hgw', by omega, l75, ⟨LN1, LN2⟩, _, lv, World.ownsRow_nil _ _ _ _⟩
    case round =>
      obtain ⟨k, hk, rfl, hbel, hsz, hB3r, g75, ⟨HN1, HN2⟩, fv, gvv, hown⟩ := hrel
      clear lb l75 lv LN1 LN2 hgw' hB3
      by_cases hlt : k < n
      · rcases h1 with h1 | ⟨b', o', hab, _, hbl, hc⟩
        · omega
        · cases hab
          have hcc : ∀ c, c < 4 → wr.cell? ⟨b', o' + k * 4 + c, none⟩ = some (prV x k c) := fun c hc5 => by
            rw [hbel.cell (p := ⟨b', o' + k * 4 + c, none⟩) hbl]
            exact hc k hlt c hc5
          have q0 : wr.cell? ⟨b', o' + k * 4, none⟩ = some (.int .u64 0) := hcc 0 (by omega)
          have q1 : wr.cell? ⟨b', o' + k * 4 + 1, none⟩ = some (.int .u64 0) := hcc 1 (by omega)
          have q2 : wr.cell? ⟨b', o' + k * 4 + 2, none⟩ = some (.int .u64 0) := hcc 2 (by omega)
          have q3 : wr.cell? ⟨b', o' + k * 4 + 3, none⟩ = some (.int .i32 (x k)) := hcc 3 (by omega)
          have V2 : wr.cell? ⟨gv, 2, none⟩ = some fv := cell_at gvv
          have hxk := hx k
          have G75 : Hid _ := g75
          have GV : Hid _ := gvv
          clear hc hcc hx hfx hbx g75 gvv
          go_wp2_with (first
            | (at_builtin; refine wpList_append_lies _ rfl _ _ 34 rfl B3 3 j0 (.int .i64 0) 1 8 Try.underlying34 gi gz0 gz1 gz2 rfl (by decide) _ _ _ rfl ((hown.alloc _).alloc _) ⟨wr.heap.size + 1, 0, none⟩ 1 1 [.int .i64 (x k)] rfl rfl ?c1 ?c2 (by decide) ?c3 ?c4 ?c5 _ rfl ?_)
            | go_in)
          case c1 => exact news_block (blk_new _ _ (by simp))
          case c2 => intro u hu; simp at hu; subst hu; rfl
          case c3 => unfold maxLen; omega
          case c4 => omega
          case c5 => simp; omega
          · intro g cp w3 hown' hgrow _ _
            have hsz1 := hgrow.size
            simp only [World.size_alloc] at hsz1
            have hb1 : Below w.heap.size w w3 := ((hbel.alloc hbel.size _).alloc (by have := hbel.size; simp; omega) _).grown hgrow (by have := hbel.size; simp; omega) (fun j hj => by have := (hown.lt j hj).1; omega)
            have m75 : Hid _ := blk_grown (blk_alloc (blk_alloc G75.out _) _) hgrow (owns_ne hown (by omega))
            have mv : Hid _ := blk_grown (blk_alloc (blk_alloc GV.out _) _) hgrow (owns_ne hown hgB)
            have J1 := ((HN1.alloc _).alloc _).grown' hgrow (fun i hi => M1 i (hown.lt i hi).1)
            have J2 := ((HN2.alloc _).alloc _).grown' hgrow (fun i hi => M2 i (hown.lt i hi).1)
            have W2 : w3.cell? ⟨gv, 2, none⟩ = some fv := cell_at mv.out
            have X2 : w3.frozen? ⟨gv, 2, none⟩ = false := free_at mv.out
            clear q0 q1 q2 q3 V2 hgrow
            go_wp2
            go_roundw
            case rel =>
              have lv := blk_put (i := 2) (u := .slice (some ⟨g, 0, none⟩) (k + 1) cp) mv.out
              simp only [List.setIfInBounds_toArray, List.set_cons_zero, List.set_cons_succ] at lv
              refine ⟨k + 1, by omega, by go_num, hb1.setCell (by simp; omega) _, by simp [World.setCell]; omega, by simp [World.setCell]; omega, blk_set m75.out (by simp; omega) _, ⟨J1.setCell' N1 _, J2.setCell' N2 _⟩, _, lv, ?_⟩
              rw [List.range_succ, List.map_append]
              exact ownsRow_setCell_below hown' hgB _
            case measure => simp [intOf]; omega
      · have hkn : k = n := by omega
        subst hkn
        have HF : IsSl wr B3 fv k 1 (fun j _ => .int .i64 (x j)) := isSl_of_owns hown (fun j hj c hc => by
          have : c = 0 := by omega
          subst this; simp [hj])
        obtain ⟨fa', fc', rfl, hfx1⟩ := HF
        have HF : IsSl wr B3 (.slice fa' k fc') k 1 (fun j _ => .int .i64 (x j)) := ⟨_, _, rfl, hfx1⟩
        have y0 : wr.cell? ⟨gv, 0, none⟩ = some (.int .i64 s) := cell_at gvv
        have y1 : wr.cell? ⟨gv, 1, none⟩ = some (.int .i64 (-1)) := cell_at gvv
        have y2 : wr.cell? ⟨gv, 2, none⟩ = some (.slice fa' k fc') := cell_at gvv
        have y3 : wr.cell? ⟨gv, 3, none⟩ = some (.slice ao1 (vl fb m).length cap1) := cell_at gvv
        have y4 : wr.cell? ⟨gv, 4, none⟩ = some (.slice ao2 (vl bb l).length cap2) := cell_at gvv
        have qc : ∀ i, wr.cell? ⟨w.heap.size, i, none⟩ = (#[.int .i64 0, .int .i64 0, .slice none 0 0, .slice none 0 0, .slice none 0 0] : Array Value)[i]? := fun i => cell_at g75
        have qf : ∀ i, wr.frozen? ⟨w.heap.size, i, none⟩ = false := fun i => free_at g75
        have R := blk_full5 (v0 := .int .i64 s) (v1 := .int .i64 (-1)) (v2 := .slice fa' k fc') (v3 := .slice ao1 (vl fb m).length cap1) (v4 := .slice ao2 (vl bb l).length cap2) g75
        clear hown hfx1 M1 M2
        go_wp2
        exact bodyPost_ret (results_cell_row (P := Try.prog) (fn := Try.f40) (by rfl) _ _ w.heap.size 75 _ (0, 0) _ (by rfl) R Try.underlying75 rfl (by kernel_rfl)) rfl ⟨_, _, _, rfl, (isSl_set5z HF (by omega)).lower (by omega), (isSl_set5z HN1 (by omega)).lower (by omega), (isSl_set5z HN2 (by omega)).lower (by omega), below_set5z hbel (Nat.le_refl _)⟩
  · have z1 := lt_of_block h75N
    have z2 := lt_of_block h75M
    have kb : Below w.heap.size w (((((w2.setCell ⟨w1.heap.size, 0, none⟩ (.int .i64 s)).setCell ⟨w1.heap.size, 1, none⟩ (.int .i64 p)).setCell ⟨w1.heap.size, 2, none⟩ (.slice none 0 0)).setCell ⟨w1.heap.size, 3, none⟩ (.slice ao1 (vl fb m).length cap1)).setCell ⟨w1.heap.size, 4, none⟩ (.slice ao2 (vl bb l).length cap2)) := below_set5z hbelM hbelN.size
    have k75 : (((((w2.setCell ⟨w1.heap.size, 0, none⟩ (.int .i64 s)).setCell ⟨w1.heap.size, 1, none⟩ (.int .i64 p)).setCell ⟨w1.heap.size, 2, none⟩ (.slice none 0 0)).setCell ⟨w1.heap.size, 3, none⟩ (.slice ao1 (vl fb m).length cap1)).setCell ⟨w1.heap.size, 4, none⟩ (.slice ao2 (vl bb l).length cap2)).heap[w.heap.size]? = some (.cells #[.int .i64 0, .int .i64 0, .slice none 0 0, .slice none 0 0, .slice none 0 0] 75 (0, 0)) := blk_set5z h75M (by omega)
    have kv : (((((w2.setCell ⟨w1.heap.size, 0, none⟩ (.int .i64 s)).setCell ⟨w1.heap.size, 1, none⟩ (.int .i64 p)).setCell ⟨w1.heap.size, 2, none⟩ (.slice none 0 0)).setCell ⟨w1.heap.size, 3, none⟩ (.slice ao1 (vl fb m).length cap1)).setCell ⟨w1.heap.size, 4, none⟩ (.slice ao2 (vl bb l).length cap2)).heap[w1.heap.size]? = some (.cells #[.int .i64 s, .int .i64 p, .slice none 0 0, .slice ao1 (vl fb m).length cap1, .slice ao2 (vl bb l).length cap2] 75 (0, 0)) := blk_full5 hvM
    have N1 : NotIn (.slice ao1 (vl fb m).length cap1) w1.heap.size := hv1.notIn_high (Nat.le_refl _)
    have N2 : NotIn (.slice ao2 (vl bb l).length cap2) w1.heap.size := hv2.notIn_low (by simp)
    have HN1 : IsSl (((((w2.setCell ⟨w1.heap.size, 0, none⟩ (.int .i64 s)).setCell ⟨w1.heap.size, 1, none⟩ (.int .i64 p)).setCell ⟨w1.heap.size, 2, none⟩ (.slice none 0 0)).setCell ⟨w1.heap.size, 3, none⟩ (.slice ao1 (vl fb m).length cap1)).setCell ⟨w1.heap.size, 4, none⟩ (.slice ao2 (vl bb l).length cap2)) (w.heap.size + 1) (.slice ao1 (vl fb m).length cap1) (vl fb m).length 2 (fiV 0 fx (vl fb m)) := isSl_off5 (hv1M.lower (Nat.le_of_eq hsz.symm)) N1
    have HN2 : IsSl (((((w2.setCell ⟨w1.heap.size, 0, none⟩ (.int .i64 s)).setCell ⟨w1.heap.size, 1, none⟩ (.int .i64 p)).setCell ⟨w1.heap.size, 2, none⟩ (.slice none 0 0)).setCell ⟨w1.heap.size, 3, none⟩ (.slice ao1 (vl fb m).length cap1)).setCell ⟨w1.heap.size, 4, none⟩ (.slice ao2 (vl bb l).length cap2)) (w.heap.size + 1) (.slice ao2 (vl bb l).length cap2) (vl bb l).length 2 (fiV 0 bx (vl bb l)) := isSl_off5 (hv2.lower (by simp; omega)) N2
    have hgv : w.heap.size < w1.heap.size := z1
    clear hbel hsz h75 HS HA hv1 hv2 hv1M hx1 hx2 hbelN hbelM h75N h75M hb1 hb2 z1 z2 hws hwp hvM qc qf
    generalize (((((w2.setCell ⟨w1.heap.size, 0, none⟩ (.int .i64 s)).setCell ⟨w1.heap.size, 1, none⟩ (.int .i64 p)).setCell ⟨w1.heap.size, 2, none⟩ (.slice none 0 0)).setCell ⟨w1.heap.size, 3, none⟩ (.slice ao1 (vl fb m).length cap1)).setCell ⟨w1.heap.size, 4, none⟩ (.slice ao2 (vl bb l).length cap2)) = wq at kb k75 kv HN1 HN2 ⊢
    generalize w1.heap.size = gv at kv N1 N2 hgv ⊢
    have hgw := lt_of_block kv
    have T11 : wq.cell? ⟨b, o + nd * 16 + 3 + 8, none⟩ = some (.bool true) := (kb.cell (p := ⟨b, o + nd * 16 + 3 + 8, none⟩) hb).trans t11
    have T13 : wq.cell? ⟨b, o + nd * 16 + 3 + 10, none⟩ = some (.slice fo n cap) := (kb.cell (p := ⟨b, o + nd * 16 + 3 + 10, none⟩) hb).trans t13
    have V1 : wq.cell? ⟨gv, 1, none⟩ = some (.int .i64 p) := cell_at kv
    have F1 : wq.frozen? ⟨gv, 1, none⟩ = false := free_at kv
    clear t6 t10 t11 t13 t14 t15 h2 h3
    have hne : b ≠ gv := by omega
    go_wp2
    clear T11 T13 V1 F1
    have lb := kb.setCell (p := ⟨gv, 1, none⟩) (by simp; omega) (.int .i64 (-1))
    have l75 := blk_set (a := ⟨gv, 1, none⟩) k75 (by simp; omega) (.int .i64 (-1))
    have lv := blk_put (i := 1) (u := .int .i64 (-1)) kv
    simp only [List.setIfInBounds_toArray, List.set_cons_zero, List.set_cons_succ] at lv
    have LN1 := IsSl.setCell' (a := ⟨gv, 1, none⟩) HN1 N1 (.int .i64 (-1))
    have LN2 := IsSl.setCell' (a := ⟨gv, 1, none⟩) HN2 N2 (.int .i64 (-1))
    have hgw' : gv < (wq.setCell ⟨gv, 1, none⟩ (.int .i64 (-1))).heap.size := by simpa [World.setCell] using hgw
    clear hgw
    generalize wq.setCell ⟨gv, 1, none⟩ (.int .i64 (-1)) = wq at lb l75 lv LN1 LN2 hgw' ⊢
    clear kb k75 kv HN1 HN2
    obtain ⟨B3, hB3⟩ : ∃ B3, B3 = wq.heap.size := ⟨_, rfl⟩
    have hgB : gv < B3 := by omega
    have M1 : ∀ k, B3 ≤ k → NotIn (.slice ao1 (vl fb m).length cap1) k := fun k hk => LN1.notIn_high (by omega)
    have M2 : ∀ k, B3 ≤ k → NotIn (.slice ao2 (vl bb l).length cap2) k := fun k hk => LN2.notIn_high (by omega)
    go_loopw [51] (fun i wr => ∃ k : Nat, k ≤ n ∧ i = .int .i64 k ∧ Below w.heap.size w wr ∧ gv < wr.heap.size ∧ B3 ≤ wr.heap.size ∧ wr.heap[w.heap.size]? = some (.cells #[.int .i64 0, .int .i64 0, .slice none 0 0, .slice none 0 0, .slice none 0 0] 75 (0, 0)) ∧
        (IsSl wr (w.heap.size + 1) (.slice ao1 (vl fb m).length cap1) (vl fb m).length 2 (fiV 0 fx (vl fb m)) ∧ IsSl wr (w.heap.size + 1) (.slice ao2 (vl bb l).length cap2) (vl bb l).length 2 (fiV 0 bx (vl bb l))) ∧
        ∃ fv, wr.heap[gv]? = some (.cells #[.int .i64 s, .int .i64 (-1), fv, .slice ao1 (vl fb m).length cap1, .slice ao2 (vl bb l).length cap2] 75 (0, 0)) ∧ wr.ownsRow B3 3 1 fv k ((List.range k).map fun j => Value.int .i64 (x j))) (fun i _ => n - (intOf i).toNat)
    case atStart => exact ⟨0, Nat.zero_le _, rfl, lb, hgw', by omega, l75, ⟨LN1, LN2⟩, _, lv, World.ownsRow_nil _ _ _ _⟩
    case round =>
      obtain ⟨k, hk, rfl, hbel, hsz, hB3r, g75, ⟨HN1, HN2⟩, fv, gvv, hown⟩ := hrel
      clear lb l75 lv LN1 LN2 hgw' hB3
      by_cases hlt : k < n
      · rcases h1 with h1 | ⟨b', o', hab, _, hbl, hc⟩
        · omega
        · cases hab
          have hcc : ∀ c, c < 4 → wr.cell? ⟨b', o' + k * 4 + c, none⟩ = some (prV x k c) := fun c hc5 => by
            rw [hbel.cell (p := ⟨b', o' + k * 4 + c, none⟩) hbl]
            exact hc k hlt c hc5
          have q0 : wr.cell? ⟨b', o' + k * 4, none⟩ = some (.int .u64 0) := hcc 0 (by omega)
          have q1 : wr.cell? ⟨b', o' + k * 4 + 1, none⟩ = some (.int .u64 0) := hcc 1 (by omega)
          have q2 : wr.cell? ⟨b', o' + k * 4 + 2, none⟩ = some (.int .u64 0) := hcc 2 (by omega)
          have q3 : wr.cell? ⟨b', o' + k * 4 + 3, none⟩ = some (.int .i32 (x k)) := hcc 3 (by omega)
          have V2 : wr.cell? ⟨gv, 2, none⟩ = some fv := cell_at gvv
          have hxk := hx k
          have G75 : Hid _ := g75
          have GV : Hid _ := gvv
          clear hc hcc hx hfx hbx g75 gvv
          go_wp2_with (first
            | (at_builtin; refine wpList_append_lies _ rfl _ _ 34 rfl B3 3 j0 (.int .i64 0) 1 8 Try.underlying34 gi gz0 gz1 gz2 rfl (by decide) _ _ _ rfl ((hown.alloc _).alloc _) ⟨wr.heap.size + 1, 0, none⟩ 1 1 [.int .i64 (x k)] rfl rfl ?c1 ?c2 (by decide) ?c3 ?c4 ?c5 _ rfl ?_)
            | go_in)
          case c1 => exact news_block (blk_new _ _ (by simp))
          case c2 => intro u hu; simp at hu; subst hu; rfl
          case c3 => unfold maxLen; omega
          case c4 => omega
          case c5 => simp; omega
          · intro g cp w3 hown' hgrow _ _
            have hsz1 := hgrow.size
            simp only [World.size_alloc] at hsz1
            have hb1 : Below w.heap.size w w3 := ((hbel.alloc hbel.size _).alloc (by have := hbel.size; simp; omega) _).grown hgrow (by have := hbel.size; simp; omega) (fun j hj => by have := (hown.lt j hj).1; omega)
            have m75 : Hid _ := blk_grown (blk_alloc (blk_alloc G75.out _) _) hgrow (owns_ne hown (by omega))
            have mv : Hid _ := blk_grown (blk_alloc (blk_alloc GV.out _) _) hgrow (owns_ne hown hgB)
            have J1 := ((HN1.alloc _).alloc _).grown' hgrow (fun i hi => M1 i (hown.lt i hi).1)
            have J2 := ((HN2.alloc _).alloc _).grown' hgrow (fun i hi => M2 i (hown.lt i hi).1)
            have W2 : w3.cell? ⟨gv, 2, none⟩ = some fv := cell_at mv.out
            have X2 : w3.frozen? ⟨gv, 2, none⟩ = false := free_at mv.out
            clear q0 q1 q2 q3 V2 hgrow
            go_wp2
            go_roundw
            case rel =>
              have lv := blk_put (i := 2) (u := .slice (some ⟨g, 0, none⟩) (k + 1) cp) mv.out
              simp only [List.setIfInBounds_toArray, List.set_cons_zero, List.set_cons_succ] at lv
              refine ⟨k + 1, by omega, by go_num, hb1.setCell (by simp; omega) _, by simp [World.setCell]; omega, by simp [World.setCell]; omega, blk_set m75.out (by simp; omega) _, ⟨J1.setCell' N1 _, J2.setCell' N2 _⟩, _, lv, ?_⟩
              rw [List.range_succ, List.map_append]
              exact ownsRow_setCell_below hown' hgB _
            case measure => simp [intOf]; omega
      · have hkn : k = n := by omega
        subst hkn
        have HF : IsSl wr B3 fv k 1 (fun j _ => .int .i64 (x j)) := isSl_of_owns hown (fun j hj c hc => by
          have : c = 0 := by omega
          subst this; simp [hj])
        obtain ⟨fa', fc', rfl, hfx1⟩ := HF
        have HF : IsSl wr B3 (.slice fa' k fc') k 1 (fun j _ => .int .i64 (x j)) := ⟨_, _, rfl, hfx1⟩
        have y0 : wr.cell? ⟨gv, 0, none⟩ = some (.int .i64 s) := cell_at gvv
        have y1 : wr.cell? ⟨gv, 1, none⟩ = some (.int .i64 (-1)) := cell_at gvv
        have y2 : wr.cell? ⟨gv, 2, none⟩ = some (.slice fa' k fc') := cell_at gvv
        have y3 : wr.cell? ⟨gv, 3, none⟩ = some (.slice ao1 (vl fb m).length cap1) := cell_at gvv
        have y4 : wr.cell? ⟨gv, 4, none⟩ = some (.slice ao2 (vl bb l).length cap2) := cell_at gvv
        have qc : ∀ i, wr.cell? ⟨w.heap.size, i, none⟩ = (#[.int .i64 0, .int .i64 0, .slice none 0 0, .slice none 0 0, .slice none 0 0] : Array Value)[i]? := fun i => cell_at g75
        have qf : ∀ i, wr.frozen? ⟨w.heap.size, i, none⟩ = false := fun i => free_at g75
        have R := blk_full5 (v0 := .int .i64 s) (v1 := .int .i64 (-1)) (v2 := .slice fa' k fc') (v3 := .slice ao1 (vl fb m).length cap1) (v4 := .slice ao2 (vl bb l).length cap2) g75
        clear hown hfx1 M1 M2
        go_wp2
        exact bodyPost_ret (results_cell_row (P := Try.prog) (fn := Try.f40) (by rfl) _ _ w.heap.size 75 _ (0, 0) _ (by rfl) R Try.underlying75 rfl (by kernel_rfl)) rfl ⟨_, _, _, rfl, (isSl_set5z HF (by omega)).lower (by omega), (isSl_set5z HN1 (by omega)).lower (by omega), (isSl_set5z HN2 (by omega)).lower (by omega), below_set5z hbel (Nat.le_refl _)⟩
  · have z1 := lt_of_block h75N
    have z2 := lt_of_block h75M
    have z3 := lt_of_block hvN
    have kb : Below w.heap.size w (((((w2.setCell ⟨w.heap.size + 1, 0, none⟩ (.int .i64 s)).setCell ⟨w.heap.size + 1, 1, none⟩ (.int .i64 p)).setCell ⟨w.heap.size + 1, 2, none⟩ (.slice none 0 0)).setCell ⟨w.heap.size + 1, 3, none⟩ (.slice ao1 (vl fb m).length cap1)).setCell ⟨w.heap.size + 1, 4, none⟩ (.slice ao2 (vl bb l).length cap2)) := below_set5z hbelM (Nat.le_succ _)
    have k75 : (((((w2.setCell ⟨w.heap.size + 1, 0, none⟩ (.int .i64 s)).setCell ⟨w.heap.size + 1, 1, none⟩ (.int .i64 p)).setCell ⟨w.heap.size + 1, 2, none⟩ (.slice none 0 0)).setCell ⟨w.heap.size + 1, 3, none⟩ (.slice ao1 (vl fb m).length cap1)).setCell ⟨w.heap.size + 1, 4, none⟩ (.slice ao2 (vl bb l).length cap2)).heap[w.heap.size]? = some (.cells #[.int .i64 0, .int .i64 0, .slice none 0 0, .slice none 0 0, .slice none 0 0] 75 (0, 0)) := blk_set5z h75M (by omega)
    have kv : (((((w2.setCell ⟨w.heap.size + 1, 0, none⟩ (.int .i64 s)).setCell ⟨w.heap.size + 1, 1, none⟩ (.int .i64 p)).setCell ⟨w.heap.size + 1, 2, none⟩ (.slice none 0 0)).setCell ⟨w.heap.size + 1, 3, none⟩ (.slice ao1 (vl fb m).length cap1)).setCell ⟨w.heap.size + 1, 4, none⟩ (.slice ao2 (vl bb l).length cap2)).heap[w.heap.size + 1]? = some (.cells #[.int .i64 s, .int .i64 p, .slice none 0 0, .slice ao1 (vl fb m).length cap1, .slice ao2 (vl bb l).length cap2] 75 (0, 0)) := blk_full5 hvM
    have N1 : NotIn (.slice ao1 (vl fb m).length cap1) (w.heap.size + 1) := hv1.notIn_low (by simp [hsz])
    have N2 : NotIn (.slice ao2 (vl bb l).length cap2) (w.heap.size + 1) := hv2.notIn_low (by omega)
    have HN1 : IsSl (((((w2.setCell ⟨w.heap.size + 1, 0, none⟩ (.int .i64 s)).setCell ⟨w.heap.size + 1, 1, none⟩ (.int .i64 p)).setCell ⟨w.heap.size + 1, 2, none⟩ (.slice none 0 0)).setCell ⟨w.heap.size + 1, 3, none⟩ (.slice ao1 (vl fb m).length cap1)).setCell ⟨w.heap.size + 1, 4, none⟩ (.slice ao2 (vl bb l).length cap2)) (w.heap.size + 1) (.slice ao1 (vl fb m).length cap1) (vl fb m).length 2 (fiV 0 fx (vl fb m)) := isSl_off5 (hv1M.lower (by simp [hsz])) N1
    have HN2 : IsSl (((((w2.setCell ⟨w.heap.size + 1, 0, none⟩ (.int .i64 s)).setCell ⟨w.heap.size + 1, 1, none⟩ (.int .i64 p)).setCell ⟨w.heap.size + 1, 2, none⟩ (.slice none 0 0)).setCell ⟨w.heap.size + 1, 3, none⟩ (.slice ao1 (vl fb m).length cap1)).setCell ⟨w.heap.size + 1, 4, none⟩ (.slice ao2 (vl bb l).length cap2)) (w.heap.size + 1) (.slice ao2 (vl bb l).length cap2) (vl bb l).length 2 (fiV 0 bx (vl bb l)) := isSl_off5 (hv2.lower (by omega)) N2
    have hgv : w.heap.size < w.heap.size + 1 := by omega
    clear hbel hsz h75 HS HA hv1 hv2 hv1M hx1 hx2 hbelN hbelM h75N h75M hb1 hb2 z1 z2 z3 hws hwp hvM hvN qc qf
    generalize (((((w2.setCell ⟨w.heap.size + 1, 0, none⟩ (.int .i64 s)).setCell ⟨w.heap.size + 1, 1, none⟩ (.int .i64 p)).setCell ⟨w.heap.size + 1, 2, none⟩ (.slice none 0 0)).setCell ⟨w.heap.size + 1, 3, none⟩ (.slice ao1 (vl fb m).length cap1)).setCell ⟨w.heap.size + 1, 4, none⟩ (.slice ao2 (vl bb l).length cap2)) = wq at kb k75 kv HN1 HN2 ⊢
    generalize w.heap.size + 1 = gv at kv N1 N2 hgv ⊢
    have hgw := lt_of_block kv
    have T11 : wq.cell? ⟨b, o + nd * 16 + 3 + 8, none⟩ = some (.bool true) := (kb.cell (p := ⟨b, o + nd * 16 + 3 + 8, none⟩) hb).trans t11
    have T13 : wq.cell? ⟨b, o + nd * 16 + 3 + 10, none⟩ = some (.slice fo n cap) := (kb.cell (p := ⟨b, o + nd * 16 + 3 + 10, none⟩) hb).trans t13
    have V1 : wq.cell? ⟨gv, 1, none⟩ = some (.int .i64 p) := cell_at kv
    have F1 : wq.frozen? ⟨gv, 1, none⟩ = false := free_at kv
    clear t6 t10 t11 t13 t14 t15 h2 h3
    have hne : b ≠ gv := by omega
    go_wp2
    clear T11 T13 V1 F1
    have lb := kb.setCell (p := ⟨gv, 1, none⟩) (by simp; omega) (.int .i64 (-1))
    have l75 := blk_set (a := ⟨gv, 1, none⟩) k75 (by simp; omega) (.int .i64 (-1))
    have lv := blk_put (i := 1) (u := .int .i64 (-1)) kv
    simp only [List.setIfInBounds_toArray, List.set_cons_zero, List.set_cons_succ] at lv
    have LN1 := IsSl.setCell' (a := ⟨gv, 1, none⟩) HN1 N1 (.int .i64 (-1))
    have LN2 := IsSl.setCell' (a := ⟨gv, 1, none⟩) HN2 N2 (.int .i64 (-1))
    have hgw' : gv < (wq.setCell ⟨gv, 1, none⟩ (.int .i64 (-1))).heap.size := by simpa [World.setCell] using hgw
    clear hgw
    generalize wq.setCell ⟨gv, 1, none⟩ (.int .i64 (-1)) = wq at lb l75 lv LN1 LN2 hgw' ⊢
    clear kb k75 kv HN1 HN2
    obtain ⟨B3, hB3⟩ : ∃ B3, B3 = wq.heap.size := ⟨_, rfl⟩
    have hgB : gv < B3 := by omega
    have M1 : ∀ k, B3 ≤ k → NotIn (.slice ao1 (vl fb m).length cap1) k := fun k hk => LN1.notIn_high (by omega)
    have M2 : ∀ k, B3 ≤ k → NotIn (.slice ao2 (vl bb l).length cap2) k := fun k hk => LN2.notIn_high (by omega)
    go_loopw [51] (fun i wr => ∃ k : Nat, k ≤ n ∧ i = .int .i64 k ∧ Below w.heap.size w wr ∧ gv < wr.heap.size ∧ B3 ≤ wr.heap.size ∧ wr.heap[w.heap.size]? = some (.cells #[.int .i64 0, .int .i64 0, .slice none 0 0, .slice none 0 0, .slice none 0 0] 75 (0, 0)) ∧
        (IsSl wr (w.heap.size + 1) (.slice ao1 (vl fb m).length cap1) (vl fb m).length 2 (fiV 0 fx (vl fb m)) ∧ IsSl wr (w.heap.size + 1) (.slice ao2 (vl bb l).length cap2) (vl bb l).length 2 (fiV 0 bx (vl bb l))) ∧
        ∃ fv, wr.heap[gv]? = some (.cells #[.int .i64 s, .int .i64 (-1), fv, .slice ao1 (vl fb m).length cap1, .slice ao2 (vl bb l).length cap2] 75 (0, 0)) ∧ wr.ownsRow B3 3 1 fv k ((List.range k).map fun j => Value.int .i64 (x j))) (fun i _ => n - (intOf i).toNat)
    case atStart => exact ⟨0, Nat.zero_le _, rfl, lb, hgw', by omega, l75, ⟨LN1, LN2⟩, _, lv, World.ownsRow_nil _ _ _ _⟩
    case round =>
      obtain ⟨k, hk, rfl, hbel, hsz, hB3r, g75, ⟨HN1, HN2⟩, fv, gvv, hown⟩ := hrel
      clear lb l75 lv LN1 LN2 hgw' hB3
      by_cases hlt : k < n
      · rcases h1 with h1 | ⟨b', o', hab, _, hbl, hc⟩
        · omega
        · cases hab
          have hcc : ∀ c, c < 4 → wr.cell? ⟨b', o' + k * 4 + c, none⟩ = some (prV x k c) := fun c hc5 => by
            rw [hbel.cell (p := ⟨b', o' + k * 4 + c, none⟩) hbl]
            exact hc k hlt c hc5
          have q0 : wr.cell? ⟨b', o' + k * 4, none⟩ = some (.int .u64 0) := hcc 0 (by omega)
          have q1 : wr.cell? ⟨b', o' + k * 4 + 1, none⟩ = some (.int .u64 0) := hcc 1 (by omega)
          have q2 : wr.cell? ⟨b', o' + k * 4 + 2, none⟩ = some (.int .u64 0) := hcc 2 (by omega)
          have q3 : wr.cell? ⟨b', o' + k * 4 + 3, none⟩ = some (.int .i32 (x k)) := hcc 3 (by omega)
          have V2 : wr.cell? ⟨gv, 2, none⟩ = some fv := cell_at gvv
          have hxk := hx k
          have G75 : Hid _ := g75
          have GV : Hid _ := gvv
          clear hc hcc hx hfx hbx g75 gvv
          go_wp2_with (first
            | (at_builtin; refine wpList_append_lies _ rfl _ _ 34 rfl B3 3 j0 (.int .i64 0) 1 8 Try.underlying34 gi gz0 gz1 gz2 rfl (by decide) _ _ _ rfl ((hown.alloc _).alloc _) ⟨wr.heap.size + 1, 0, none⟩ 1 1 [.int .i64 (x k)] rfl rfl ?c1 ?c2 (by decide) ?c3 ?c4 ?c5 _ rfl ?_)
            | go_in)
          case c1 => exact news_block (blk_new _ _ (by simp))
          case c2 => intro u hu; simp at hu; subst hu; rfl
          case c3 => unfold maxLen; omega
          case c4 => omega
          case c5 => simp; omega
          · intro g cp w3 hown' hgrow _ _
            have hsz1 := hgrow.size
            simp only [World.size_alloc] at hsz1
            have hb1 : Below w.heap.size w w3 := ((hbel.alloc hbel.size _).alloc (by have := hbel.size; simp; omega) _).grown hgrow (by have := hbel.size; simp; omega) (fun j hj => by have := (hown.lt j hj).1; omega)
            have m75 : Hid _ := blk_grown (blk_alloc (blk_alloc G75.out _) _) hgrow (owns_ne hown (by omega))
            have mv : Hid _ := blk_grown (blk_alloc (blk_alloc GV.out _) _) hgrow (owns_ne hown hgB)
            have J1 := ((HN1.alloc _).alloc _).grown' hgrow (fun i hi => M1 i (hown.lt i hi).1)
            have J2 := ((HN2.alloc _).alloc _).grown' hgrow (fun i hi => M2 i (hown.lt i hi).1)
            have W2 : w3.cell? ⟨gv, 2, none⟩ = some fv := cell_at mv.out
            have X2 : w3.frozen? ⟨gv, 2, none⟩ = false := free_at mv.out
            clear q0 q1 q2 q3 V2 hgrow
            go_wp2
            go_roundw
            case rel =>
              have lv := blk_put (i := 2) (u := .slice (some ⟨g, 0, none⟩) (k + 1) cp) mv.out
              simp only [List.setIfInBounds_toArray, List.set_cons_zero, List.set_cons_succ] at lv
              refine ⟨k + 1, by omega, by go_num, hb1.setCell (by simp; omega) _, by simp [World.setCell]; omega, by simp [World.setCell]; omega, blk_set m75.out (by simp; omega) _, ⟨J1.setCell' N1 _, J2.setCell' N2 _⟩, _, lv, ?_⟩
              rw [List.range_succ, List.map_append]
              exact ownsRow_setCell_below hown' hgB _
            case measure => simp [intOf]; omega
      · have hkn : k = n := by omega
        subst hkn
        have HF : IsSl wr B3 fv k 1 (fun j _ => .int .i64 (x j)) := isSl_of_owns hown (fun j hj c hc => by
          have : c = 0 := by omega
          subst this; simp [hj])
        obtain ⟨fa', fc', rfl, hfx1⟩ := HF
        have HF : IsSl wr B3 (.slice fa' k fc') k 1 (fun j _ => .int .i64 (x j)) := ⟨_, _, rfl, hfx1⟩
        have y0 : wr.cell? ⟨gv, 0, none⟩ = some (.int .i64 s) := cell_at gvv
        have y1 : wr.cell? ⟨gv, 1, none⟩ = some (.int .i64 (-1)) := cell_at gvv
        have y2 : wr.cell? ⟨gv, 2, none⟩ = some (.slice fa' k fc') := cell_at gvv
        have y3 : wr.cell? ⟨gv, 3, none⟩ = some (.slice ao1 (vl fb m).length cap1) := cell_at gvv
        have y4 : wr.cell? ⟨gv, 4, none⟩ = some (.slice ao2 (vl bb l).length cap2) := cell_at gvv
        have qc : ∀ i, wr.cell? ⟨w.heap.size, i, none⟩ = (#[.int .i64 0, .int .i64 0, .slice none 0 0, .slice none 0 0, .slice none 0 0] : Array Value)[i]? := fun i => cell_at g75
        have qf : ∀ i, wr.frozen? ⟨w.heap.size, i, none⟩ = false := fun i => free_at g75
        have R := blk_full5 (v0 := .int .i64 s) (v1 := .int .i64 (-1)) (v2 := .slice fa' k fc') (v3 := .slice ao1 (vl fb m).length cap1) (v4 := .slice ao2 (vl bb l).length cap2) g75
        clear hown hfx1 M1 M2
        go_wp2
        exact bodyPost_ret (results_cell_row (P := Try.prog) (fn := Try.f40) (by rfl) _ _ w.heap.size 75 _ (0, 0) _ (by rfl) R Try.underlying75 rfl (by kernel_rfl)) rfl ⟨_, _, _, rfl, (isSl_set5z HF (by omega)).lower (by omega), (isSl_set5z HN1 (by omega)).lower (by omega), (isSl_set5z HN2 (by omega)).lower (by omega), below_set5z hbel (Nat.le_refl _)⟩
end Go.Proofs.Qxb6600017a
