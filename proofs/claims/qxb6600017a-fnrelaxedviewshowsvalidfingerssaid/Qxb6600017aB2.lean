import Derived.Test.Qxb6600017aA2
import Derived.Test.Qxb6600017aA3
import Derived.Test.Qxb6600017aA4
import Derived.Test.Qxb6600017aA7
import Derived.Test.Qxb6600017aA1
import Derived.Deep.AppendLies
namespace Go.Proofs.Qxb6600017a
open Go.RowKit
set_option linter.unusedSimpArgs false
set_option linter.unusedVariables false

set_option maxHeartbeats 2000000 in
theorem chordView_false (tn tcap nd b o : Nat) (p s : Int) (c5 c6 c7 c8 : Value) (fo : Option Addr) (n cap : Nat) (x : Nat → Int) (fa : Option Addr) (m mcap : Nat) (fx : Nat → Int) (fb : Nat → Bool) (w : World)
    (hnd : nd < tn) (htn : tn ≤ 1048576) (hb : b < w.heap.size)
    (t6 : w.cell? ⟨b, o + nd * 15 + 6, none⟩ = some (.int .i32 p)) (t10 : w.cell? ⟨b, o + nd * 15 + 10, none⟩ = some (.int .i32 s)) (t11 : w.cell? ⟨b, o + nd * 15 + 11, none⟩ = some (.bool false))
    (t13 : w.cell? ⟨b, o + nd * 15 + 13, none⟩ = some (.slice fo n cap)) (t14 : w.cell? ⟨b, o + nd * 15 + 14, none⟩ = some (.slice fa m mcap))
    (hp : -2147483648 ≤ p ∧ p ≤ 2147483647) (hs : -2147483648 ≤ s ∧ s ≤ 2147483647)
    (hn : n ≤ 1048576) (h1 : RowIn w 0 fo n 4 (prV x)) (hx : ∀ k, -2147483648 ≤ x k ∧ x k ≤ 2147483647) (hm : m ≤ 1048576) (h2 : RowIn w 0 fa m 5 (fgV fx fb)) (hfx : ∀ k, -2147483648 ≤ fx k ∧ fx k ≤ 2147483647) :
    Calls Try.prog 36 #[.agg #[.slice (some ⟨b, o, none⟩) tn tcap, .int .i64 0, c5, c6, c7, c8], .int .i64 nd] w fun e w' => ∃ v1 v2, e = .returned (.agg #[.int .i64 s, .int .i64 p, v1, v2, .slice none 0 0]) ∧
      IsSl w' w.heap.size v1 n 1 (fun k _ => .int .i64 (x k)) ∧ IsSl w' w.heap.size v2 (vl fb m).length 2 (fiV (-(m : Int)) fx (vl fb m)) ∧ Below w.heap.size w w' := by
  obtain ⟨i0, hi, hz0, hz1, hz2⟩ := info_parts info92
  obtain ⟨j0, gi, gz0, gz1, gz2⟩ := info_parts info3
  have hi0 : (0 : Int) ≤ (nd : Int) := by omega
  have hi1 : (nd : Int) < (tn : Int) := by omega
  have hws : IntKind.i64.wrap s = s := by rw [IntKind.wrap_i64]; omega
  have hwp : IntKind.i64.wrap p = p := by rw [IntKind.wrap_i64]; omega
  go_enter Try.func36, Try.ntmps36
  go_wp2
  have hbel : Below w.heap.size w ((w.alloc (.cells #[.slice (some ⟨b, o, none⟩) tn tcap, .int .i64 0, c5, c6, c7, c8] 77)).alloc (.cells #[.int .i64 0, .int .i64 0, .slice none 0 0, .slice none 0 0, .slice none 0 0] 75)) := ((Below.refl _ _).alloc (Nat.le_refl _) _).alloc (by simp) _
  have hsz : ((w.alloc (.cells #[.slice (some ⟨b, o, none⟩) tn tcap, .int .i64 0, c5, c6, c7, c8] 77)).alloc (.cells #[.int .i64 0, .int .i64 0, .slice none 0 0, .slice none 0 0, .slice none 0 0] 75)).heap.size = w.heap.size + 2 := by simp
  have h77 : ((w.alloc (.cells #[.slice (some ⟨b, o, none⟩) tn tcap, .int .i64 0, c5, c6, c7, c8] 77)).alloc (.cells #[.int .i64 0, .int .i64 0, .slice none 0 0, .slice none 0 0, .slice none 0 0] 75)).heap[w.heap.size]? = some (.cells #[.slice (some ⟨b, o, none⟩) tn tcap, .int .i64 0, c5, c6, c7, c8] 77 (0, 0)) := blk_alloc (blk_new _ _ rfl) _
  have h75 : ((w.alloc (.cells #[.slice (some ⟨b, o, none⟩) tn tcap, .int .i64 0, c5, c6, c7, c8] 77)).alloc (.cells #[.int .i64 0, .int .i64 0, .slice none 0 0, .slice none 0 0, .slice none 0 0] 75)).heap[w.heap.size + 1]? = some (.cells #[.int .i64 0, .int .i64 0, .slice none 0 0, .slice none 0 0, .slice none 0 0] 75 (0, 0)) := blk_new _ _ (by simp)
  generalize ((w.alloc (.cells #[.slice (some ⟨b, o, none⟩) tn tcap, .int .i64 0, c5, c6, c7, c8] 77)).alloc (.cells #[.int .i64 0, .int .i64 0, .slice none 0 0, .slice none 0 0, .slice none 0 0] 75)) = wr at hbel hsz h77 h75 ⊢
  have HS : ∀ w', Below w.heap.size w w' → w'.cell? ⟨b, o + nd * 15 + 3 + 3, none⟩ = some (.int .i32 p) ∧ w'.cell? ⟨b, o + nd * 15 + 3 + 4 + 3, none⟩ = some (.int .i32 s) ∧ Below w.heap.size w w' := by
    intro w' hb'
    exact ⟨(hb'.cell (p := ⟨b, o + nd * 15 + 3 + 3, none⟩) hb).trans t6, (hb'.cell (p := ⟨b, o + nd * 15 + 3 + 4 + 3, none⟩) hb).trans t10, hb'⟩
  have hbA : ∀ ob, Below w.heap.size w (wr.alloc ob).drew := fun ob => (hbel.alloc hbel.size _).drew
  go_region_held3 (fun w' => w'.cell? ⟨b, o + nd * 15 + 3 + 3, none⟩ = some (.int .i32 p) ∧ w'.cell? ⟨b, o + nd * 15 + 3 + 4 + 3, none⟩ = some (.int .i32 s) ∧ Below w.heap.size w w')
    (first | with_reducible exact HS _ hbel.drew | with_reducible exact HS _ (hbA _))
    (fail)
  clear HS hws hwp
  have kb := hbA (.cells #[.int .i64 s, .int .i64 p, .slice none 0 0, .slice none 0 0, .slice none 0 0] 75)
  have ksz : ((wr.alloc (.cells #[.int .i64 s, .int .i64 p, .slice none 0 0, .slice none 0 0, .slice none 0 0] 75)).drew).heap.size = w.heap.size + 3 := by simp [hsz]
  have k77 : ((wr.alloc (.cells #[.int .i64 s, .int .i64 p, .slice none 0 0, .slice none 0 0, .slice none 0 0] 75)).drew).heap[w.heap.size]? = some (.cells #[.slice (some ⟨b, o, none⟩) tn tcap, .int .i64 0, c5, c6, c7, c8] 77 (0, 0)) := blk_drew (blk_alloc h77 _)
  have k75 : ((wr.alloc (.cells #[.int .i64 s, .int .i64 p, .slice none 0 0, .slice none 0 0, .slice none 0 0] 75)).drew).heap[w.heap.size + 1]? = some (.cells #[.int .i64 0, .int .i64 0, .slice none 0 0, .slice none 0 0, .slice none 0 0] 75 (0, 0)) := blk_drew (blk_alloc h75 _)
  have kv : ((wr.alloc (.cells #[.int .i64 s, .int .i64 p, .slice none 0 0, .slice none 0 0, .slice none 0 0] 75)).drew).heap[w.heap.size + 2]? = some (.cells #[.int .i64 s, .int .i64 p, .slice none 0 0, .slice none 0 0, .slice none 0 0] 75 (0, 0)) := blk_drew (blk_new _ _ (by rw [hsz]))
  clear hbA hbel hsz h77 h75
  generalize (wr.alloc (.cells #[.int .i64 s, .int .i64 p, .slice none 0 0, .slice none 0 0, .slice none 0 0] 75)).drew = wq at kb ksz k77 k75 kv ⊢
  have T11 : wq.cell? ⟨b, o + nd * 15 + 3 + 8, none⟩ = some (.bool false) := (kb.cell (p := ⟨b, o + nd * 15 + 3 + 8, none⟩) hb).trans t11
  have T13 : wq.cell? ⟨b, o + nd * 15 + 3 + 10, none⟩ = some (.slice fo n cap) := (kb.cell (p := ⟨b, o + nd * 15 + 3 + 10, none⟩) hb).trans t13
  have V1 : wq.cell? ⟨w.heap.size + 2, 1, none⟩ = some (.int .i64 p) := cell_at kv
  have F1 : wq.frozen? ⟨w.heap.size + 2, 1, none⟩ = false := free_at kv
  go_wp2
  clear T11 T13 V1 F1
  have lb := kb
  have lsz := ksz
  have l77 := k77
  have l75 := k75
  have lv := kv
  clear kb ksz k77 k75 kv
  go_loopw [43] (fun i wr => ∃ k : Nat, k ≤ n ∧ i = .int .i64 k ∧ Below w.heap.size w wr ∧ w.heap.size + 2 < wr.heap.size ∧ wr.heap[w.heap.size]? = some (.cells #[.slice (some ⟨b, o, none⟩) tn tcap, .int .i64 0, c5, c6, c7, c8] 77 (0, 0)) ∧ wr.heap[w.heap.size + 1]? = some (.cells #[.int .i64 0, .int .i64 0, .slice none 0 0, .slice none 0 0, .slice none 0 0] 75 (0, 0)) ∧
      ∃ fv, wr.heap[w.heap.size + 2]? = some (.cells #[.int .i64 s, .int .i64 p, fv, .slice none 0 0, .slice none 0 0] 75 (0, 0)) ∧ wr.ownsRow (w.heap.size + 3) 3 1 fv k ((List.range k).map fun j => Value.int .i64 (x j))) (fun i _ => n - (intOf i).toNat)
  case atStart => exact ⟨0, Nat.zero_le _, rfl, lb, by omega, l77, l75, _, lv, World.ownsRow_nil _ _ _ _⟩
  case round =>
    obtain ⟨k, hk, rfl, hbel, hsz, g77, g75, fv, gv, hown⟩ := hrel
    clear lb lsz l77 l75 lv
    by_cases hlt : k < n
    · rcases h1 with h1 | ⟨b', o', hab, _, hbl, hc⟩
      · omega
      · cases hab
        have hcc : ∀ c, c < 4 → wr.cell? ⟨b', o' + k * 4 + c, none⟩ = some (prV x k c) := fun c hc5 => by
          rw [hbel.cell (p := ⟨b', o' + k * 4 + c, none⟩) hbl]
          exact hc k hlt c hc5
        have q0 : wr.cell? ⟨b', o' + k * 4, none⟩ = some (.int .u64 0) := hcc 0 (by omega)
        have q1 : wr.cell? ⟨b', o' + k * 4 + 1, none⟩ = some (.int .u64 0) := hcc 1 (by omega)
        have q2 : wr.cell? ⟨b', o' + k * 4 + 2, none⟩ = some (.int .u64 0) := hcc 2 (by omega)
        have q3 : wr.cell? ⟨b', o' + k * 4 + 3, none⟩ = some (.int .i32 (x k)) := hcc 3 (by omega)
        have V2 : wr.cell? ⟨w.heap.size + 2, 2, none⟩ = some fv := cell_at gv
        have hxk := hx k
        have G77 : Hid _ := g77
        have G75 : Hid _ := g75
        have GV : Hid _ := gv
        clear hc hcc hx h2 hfx t6 t10 t11 t13 t14 g77 g75 gv
        go_wp2_with (first
          | (at_builtin; refine wpList_append_lies _ rfl _ _ 34 rfl (w.heap.size + 3) 3 j0 (.int .i64 0) 1 8 Try.underlying34 gi gz0 gz1 gz2 rfl (by decide) _ _ _ rfl ((hown.alloc _).alloc _) ⟨wr.heap.size + 1, 0, none⟩ 1 1 [.int .i64 (x k)] rfl rfl ?c1 ?c2 (by decide) ?c3 ?c4 ?c5 _ rfl ?_)
          | go_in)
        case c1 => exact news_block (blk_new _ _ (by simp))
        case c2 => intro u hu; simp at hu; subst hu; rfl
        case c3 => unfold maxLen; omega
        case c4 => omega
        case c5 => simp; omega
        · intro g cp w1 hown' hgrow _ _
          have hsz1 := hgrow.size
          simp only [World.size_alloc] at hsz1
          have hne2 : fv.ownBlock ≠ some (w.heap.size + 2) := owns_ne hown (by omega)
          have hb1 : Below w.heap.size w w1 := ((hbel.alloc hbel.size _).alloc (by have := hbel.size; simp; omega) _).grown hgrow (by have := hbel.size; simp; omega) (fun j hj => by have := (hown.lt j hj).1; omega)
          have m77 : Hid _ := blk_grown (blk_alloc (blk_alloc G77.out _) _) hgrow (owns_ne hown (by omega))
          have m75 : Hid _ := blk_grown (blk_alloc (blk_alloc G75.out _) _) hgrow (owns_ne hown (by omega))
          have mv : Hid _ := blk_grown (blk_alloc (blk_alloc GV.out _) _) hgrow hne2
          have W2 : w1.cell? ⟨w.heap.size + 2, 2, none⟩ = some fv := cell_at mv.out
          have X2 : w1.frozen? ⟨w.heap.size + 2, 2, none⟩ = false := free_at mv.out
          clear q0 q1 q2 q3 V2 hgrow hne2
          go_wp2
          go_roundw
          case rel =>
            have lv := blk_put (i := 2) (u := .slice (some ⟨g, 0, none⟩) (k + 1) cp) mv.out
            simp only [List.setIfInBounds_toArray, List.set_cons_zero, List.set_cons_succ] at lv
            refine ⟨k + 1, by omega, by go_num, hb1.setCell (by simp) _, by simp [World.setCell]; omega, blk_set m77.out (by simp) _, blk_set m75.out (by simp) _, _, lv, ?_⟩
            rw [List.range_succ, List.map_append]
            exact ownsRow_setCell_below hown' (by simp) _
          case measure => simp [intOf]; omega
    · have hkn : k = n := by omega
      subst hkn
      go_wp2
      have HF : IsSl wr (w.heap.size + 3) fv k 1 (fun j _ => .int .i64 (x j)) := isSl_of_owns hown (fun j hj c hc => by
        have : c = 0 := by omega
        subst this; simp [hj])
      have hwm1 : IntKind.i64.wrap (-(m : Int)) = -(m : Int) := by rw [IntKind.wrap_i64]; omega
      have HS : ∀ w', Below w.heap.size w w' → w'.heap[w.heap.size]? = some (.cells #[.slice (some ⟨b, o, none⟩) tn tcap, .int .i64 0, c5, c6, c7, c8] 77 (0, 0)) → w'.cell? ⟨w.heap.size, 1, none⟩ = some (.int .i64 0) ∧ w'.cell? ⟨w.heap.size, 2, none⟩ = some c5 ∧ w'.cell? ⟨w.heap.size, 3, none⟩ = some c6 ∧ w'.cell? ⟨w.heap.size, 4, none⟩ = some c7 ∧ w'.cell? ⟨b, o + nd * 15 + 14, none⟩ = some (.slice fa m mcap) ∧ Below w.heap.size w w' :=
        fun w' hb' h' => ⟨by rw [cell_at h']; rfl, by rw [cell_at h']; rfl, by rw [cell_at h']; rfl, by rw [cell_at h']; rfl, (hb'.cell (p := ⟨b, o + nd * 15 + 14, none⟩) hb).trans t14, hb'⟩
      clear hown hx h1 hp hs t6 t10 t11 t13
      go_region_held3 (fun w' => w'.cell? ⟨w.heap.size, 1, none⟩ = some (.int .i64 0) ∧ w'.cell? ⟨w.heap.size, 2, none⟩ = some c5 ∧ w'.cell? ⟨w.heap.size, 3, none⟩ = some c6 ∧ w'.cell? ⟨w.heap.size, 4, none⟩ = some c7 ∧ w'.cell? ⟨b, o + nd * 15 + 14, none⟩ = some (.slice fa m mcap) ∧ Below w.heap.size w w')
        (first | with_reducible exact HS _ hbel.drew (blk_drew g77) | with_reducible exact HS _ hbelN g77N)
        (first | (go_at_call 16; refine (bits_any c5 c6 c7 0 _).mono ?_; rintro e w1 ⟨rfl, hb1⟩; (have hbelN : Below w.heap.size w w1 := hbel.drew.trans (hb1.mono hbel.size)); (have g77N := blk_keep (blk_drew g77) hb1 (Nat.le_refl _))))
      have g75N := blk_keep (blk_drew g75) hb1 (Nat.le_refl _)
      have gvN := blk_keep (blk_drew gv) hb1 (Nat.le_refl _)
      have HFN := IsSl.below (w := wr.drew) HF hb1 (Nat.le_refl _)
      have hszN : w.heap.size + 2 < w1.heap.size := Nat.lt_of_lt_of_le hsz hb1.size
      have T14 : w1.cell? ⟨b, o + nd * 15 + 14, none⟩ = some (.slice fa m mcap) := (hbelN.cell (p := ⟨b, o + nd * 15 + 14, none⟩) hb).trans t14
      clear HS HF g77 g75 gv hsz hb1 hbel hwm1
      go_wp2
      clear T14
      obtain ⟨B2, hB2⟩ : ∃ B2, B2 = w1.heap.size := ⟨_, rfl⟩
      go_loopw [70] (fun i wr => ∃ j : Nat, j ≤ m ∧ i = .int .i64 j ∧ Below w.heap.size w wr ∧ w.heap.size + 2 < wr.heap.size ∧ B2 ≤ wr.heap.size ∧ Same (w.heap.size + 3) B2 w1 wr ∧ wr.heap[w.heap.size]? = some (.cells #[.slice (some ⟨b, o, none⟩) tn tcap, .int .i64 0, c5, c6, c7, c8] 77 (0, 0)) ∧ wr.heap[w.heap.size + 1]? = some (.cells #[.int .i64 0, .int .i64 0, .slice none 0 0, .slice none 0 0, .slice none 0 0] 75 (0, 0)) ∧
          ∃ gw, wr.heap[w.heap.size + 2]? = some (.cells #[.int .i64 s, .int .i64 p, fv, gw, .slice none 0 0] 75 (0, 0)) ∧ wr.ownsRow B2 92 2 gw (vl fb j).length (fiL (-(m : Int)) fx (vl fb j))) (fun i _ => m - (intOf i).toNat)
      case atStart => exact ⟨0, Nat.zero_le _, rfl, hbelN, hszN, by omega, Same.refl _ _ _, g77N, g75N, _, gvN, World.ownsRow_nil _ _ _ _⟩
      case round =>
        obtain ⟨j, hj, rfl, hbel, hsz, hB2r, hsame, g77, g75, gw, gv, hown⟩ := hrel
        clear g77N g75N gvN hbelN
        have hvl := vl_le fb j
        by_cases hlt : j < m
        · rcases h2 with h2 | ⟨b', o', hab, _, hbl, hc⟩
          · omega
          · cases hab
            have hcc : ∀ c, c < 5 → wr.cell? ⟨b', o' + j * 5 + c, none⟩ = some (fgV fx fb j c) := fun c hc5 => by
              rw [hbel.cell (p := ⟨b', o' + j * 5 + c, none⟩) hbl]
              exact hc j hlt c hc5
            have q0 : wr.cell? ⟨b', o' + j * 5, none⟩ = some (.int .u64 0) := hcc 0 (by omega)
            have q1 : wr.cell? ⟨b', o' + j * 5 + 1, none⟩ = some (.int .u64 0) := hcc 1 (by omega)
            have q2 : wr.cell? ⟨b', o' + j * 5 + 2, none⟩ = some (.int .u64 0) := hcc 2 (by omega)
            have q3 : wr.cell? ⟨b', o' + j * 5 + 3, none⟩ = some (.int .i32 (fx j)) := hcc 3 (by omega)
            have q4 : wr.cell? ⟨b', o' + j * 5 + 4, none⟩ = some (.bool (fb j)) := hcc 4 (by omega)
            have V3 : wr.cell? ⟨w.heap.size + 2, 3, none⟩ = some gw := cell_at gv
            have hxj := hfx j
            have G77 : Hid _ := g77
            have G75 : Hid _ := g75
            have GV : Hid _ := gv
            clear hc hcc hfx g77 g75 gv
            cases hbv : fb j
            · have HV : Hid _ := vl_miss fb j hbv
              rw [hbv] at q4
              clear hbv
              go_wp2
              go_roundw
              case rel => exact ⟨j + 1, by omega, by go_num, hbel.alloc hbel.size _, by simp; omega, by simp; omega, hsame.alloc (by omega) _, blk_alloc G77.out _, blk_alloc G75.out _, _, blk_alloc GV.out _, by rw [HV.out]; exact hown.alloc _⟩
              case measure => simp [intOf]; omega
            · have HV : Hid _ := vl_hit fb j hbv
              rw [hbv] at q4
              clear hbv
              go_wp2_with (first
                | (at_builtin; refine wpList_append_lies _ rfl _ _ 73 rfl B2 92 i0 (.agg #[.int .i64 0, .int .i64 0]) 2 16 Try.underlying73 hi hz0 hz1 hz2 rfl (by decide) _ _ _ rfl ((hown.alloc _).alloc _) ⟨wr.heap.size + 1, 0, none⟩ 1 1 [.int .i64 (-(m : Int) + (j : Int)), .int .i64 (fx j)] rfl rfl ?d1 ?d2 (by decide) ?d3 ?d4 ?d5 _ rfl ?_)
                | go_in)
              case d1 => exact news_block (blk_new _ _ (by simp))
              case d2 => intro u hu; simp at hu; rcases hu with rfl | rfl <;> rfl
              case d3 => unfold maxLen; omega
              case d4 => omega
              case d5 => simp; omega
              · intro g cp w2 hown' hgrow _ _
                have hsz1 := hgrow.size
                simp only [World.size_alloc] at hsz1
                have hb2 : Below w.heap.size w w2 := ((hbel.alloc hbel.size _).alloc (by have := hbel.size; simp; omega) _).grown hgrow (by have := hbel.size; simp; omega) (fun i hi => by have := (hown.lt i hi).1; omega)
                have hsame2 : Same (w.heap.size + 3) B2 w1 w2 := ((hsame.alloc (by omega) _).alloc (by simp; omega) _).grown hgrow (by simp; omega) (fun i hi => (hown.lt i hi).1)
                have m77 : Hid _ := blk_grown (blk_alloc (blk_alloc G77.out _) _) hgrow (owns_ne hown (by omega))
                have m75 : Hid _ := blk_grown (blk_alloc (blk_alloc G75.out _) _) hgrow (owns_ne hown (by omega))
                have mv : Hid _ := blk_grown (blk_alloc (blk_alloc GV.out _) _) hgrow (owns_ne hown (by omega))
                have W3 : w2.cell? ⟨w.heap.size + 2, 3, none⟩ = some gw := cell_at mv.out
                have X3 : w2.frozen? ⟨w.heap.size + 2, 3, none⟩ = false := free_at mv.out
                clear q0 q1 q2 q3 q4 V3 hgrow
                go_wp2
                go_roundw
                case rel =>
                  have lv := blk_put (i := 3) (u := .slice (some ⟨g, 0, none⟩) ((vl fb j).length + 1) cp) mv.out
                  simp only [List.setIfInBounds_toArray, List.set_cons_zero, List.set_cons_succ] at lv
                  refine ⟨j + 1, by omega, by go_num, hb2.setCell (by simp) _, by simp [World.setCell]; omega, by simp [World.setCell]; omega, hsame2.setCell (.inl (by simp)) _, blk_set m77.out (by simp) _, blk_set m75.out (by simp) _, _, lv, ?_⟩
                  rw [HV.out, fiL_snoc, List.length_append]
                  exact ownsRow_setCell_below (by rw [hB2]; simpa using hown') (by simp; omega) _
                case measure => simp [intOf]; omega
        · have hjm : j = m := by omega
          subst hjm
          have HG : IsSl wr B2 gw (vl fb j).length 2 (fiV (-(j : Int)) fx (vl fb j)) := isSl_of_owns hown (fiL_get _ fx (vl fb j))
          have HFr : IsSl wr (w.heap.size + 3) fv k 1 (fun j _ => .int .i64 (x j)) := HFN.same hsame (by omega) (by omega)
          obtain ⟨fa', fc', rfl, hfx1⟩ := HFr
          obtain ⟨ga', gc', rfl, hgx1⟩ := HG
          have HFr : IsSl wr (w.heap.size + 3) (.slice fa' k fc') k 1 (fun j _ => .int .i64 (x j)) := ⟨_, _, rfl, hfx1⟩
          have HG : IsSl wr B2 (.slice ga' (vl fb j).length gc') (vl fb j).length 2 (fiV (-(j : Int)) fx (vl fb j)) := ⟨_, _, rfl, hgx1⟩
          have y0 : wr.cell? ⟨w.heap.size + 2, 0, none⟩ = some (.int .i64 s) := cell_at gv
          have y1 : wr.cell? ⟨w.heap.size + 2, 1, none⟩ = some (.int .i64 p) := cell_at gv
          have y2 : wr.cell? ⟨w.heap.size + 2, 2, none⟩ = some (.slice fa' k fc') := cell_at gv
          have y3 : wr.cell? ⟨w.heap.size + 2, 3, none⟩ = some (.slice ga' (vl fb j).length gc') := cell_at gv
          have y4 : wr.cell? ⟨w.heap.size + 2, 4, none⟩ = some (.slice none 0 0) := cell_at gv
          have qc : ∀ i, wr.cell? ⟨w.heap.size + 1, i, none⟩ = (#[.int .i64 0, .int .i64 0, .slice none 0 0, .slice none 0 0, .slice none 0 0] : Array Value)[i]? := fun i => cell_at g75
          have qf : ∀ i, wr.frozen? ⟨w.heap.size + 1, i, none⟩ = false := fun i => free_at g75
          have R := blk_full5 (v0 := .int .i64 s) (v1 := .int .i64 p) (v2 := .slice fa' k fc') (v3 := .slice ga' (vl fb j).length gc') (v4 := .slice none 0 0) g75
          clear hown hfx1 hgx1 HFN hsame
          go_wp2
          exact bodyPost_ret (results_cell_row (P := Try.prog) (fn := Try.f36) (by rfl) _ _ (w.heap.size + 1) 75 _ (0, 0) _ (by rfl) R Try.underlying75 rfl (by kernel_rfl)) rfl ⟨_, _, rfl, (isSl_set5z HFr (by omega)).lower (by omega), (isSl_set5z HG (by omega)).lower (by omega), below_set5z hbel (by omega)⟩
end Go.Proofs.Qxb6600017a
