import Derived.Test.Qxb6600117aA3
import Derived.Test.Qxb6600117aPlain2
namespace Go.Proofs.Qxb6600117a
open Go.RowKit
set_option linter.unusedSimpArgs false
set_option linter.unusedVariables false

/-- A whole row of numbers, as a slice's row. -/
theorem isSl_row1 {w : World} {b n : Nat} {f : Nat → Nat} (h : w.rowIs b 3 n (fun j => .int .i64 ((f j : Nat) : Int))) : RowIn w 0 (some ⟨b, 0, none⟩) n 1 (fun k _ => .int .i64 ((f k : Nat) : Int)) :=
  .inr ⟨b, 0, rfl, Nat.zero_le _, h.lt, fun k hk c hc => by
    have : c = 0 := by omega
    subst this
    simpa using h.cell hk⟩

def n2cell (AT : Nat → Int) (C n : Nat) : Prop := AT C = (n : Int)

set_option maxRecDepth 20000 in
set_option maxHeartbeats 4000000 in
theorem append_walk (ao : Option Addr) (n cap : Nat) (x : Nat → Int) (xx count : Int) (w : World) (hxx : -9223372036854775808 ≤ xx ∧ xx ≤ 9223372036854775807) (hcb : -9223372036854775808 ≤ count ∧ count ≤ 9223372036854775807) (hxb : ∀ k, -9223372036854775808 ≤ x k ∧ x k ≤ 9223372036854775807) (hnl : ao = none → n = 0 ∧ cap = 0) (h : RowIn w 0 ao n 1 (fun k _ => .int .i64 (x k))) :
    Calls Try.prog 6 #[.slice ao n cap, .int .i64 xx, .int .i64 count] w fun e w' => e = .returned (.bool true) ∧ Below w.heap.size w w' := by
  go_enter Try.func6, Try.ntmps6
  go_wp2_with fail
  refine (bytes18_any ao n cap _ _ _).mono ?_
  rintro e w1 ⟨he, hw1⟩
  subst hw1
  rcases he with rfl | ⟨rfl, hn⟩
  · go_wp2
    go_ret
    exact ⟨rfl, Below.refl _ _⟩
  · by_cases hbig : 65536 < n
    · go_wp2
      go_ret
      exact ⟨rfl, Below.refl _ _⟩
    · by_cases hlo : count < 0
      · go_wp2
        go_ret
        exact ⟨rfl, Below.refl _ _⟩
      · by_cases hhi : 65536 < count
        · go_wp2
          go_ret
          exact ⟨rfl, Below.refl _ _⟩
        · obtain ⟨c, rfl⟩ : ∃ c : Nat, count = (c : Int) := ⟨count.toNat, by omega⟩
          by_cases hx1 : xx < 0
          · go_wp2
            go_ret
            exact ⟨rfl, Below.refl _ _⟩
          · by_cases hx2 : (c : Int) ≤ xx
            · go_wp2
              go_ret
              exact ⟨rfl, Below.refl _ _⟩
            · obtain ⟨X, rfl⟩ : ∃ X : Nat, xx = (X : Int) := ⟨xx.toNat, by omega⟩
              have hXc : X < c := by omega
              go_wp2
              go_loop [7] (fun i => ∃ k : Nat, k ≤ n ∧ i = .int .i64 k ∧ ∀ j, j < k → 0 ≤ x j ∧ x j < (c : Int)) (fun i => n - (intOf i).toNat)
              case atStart => exact ⟨0, Nat.zero_le _, rfl, fun j hj => by omega⟩
              case round =>
                obtain ⟨k, hk, rfl, hin⟩ := hrel
                by_cases hlt : k < n
                · rcases h with h | ⟨b, o, rfl, _, hbl, hc⟩
                  · omega
                  · have q0 : w1.cell? ⟨b, o + k, none⟩ = some (.int .i64 (x k)) := by simpa using hc k hlt 0 (by omega)
                    have HI : Hid _ := hin
                    have hxk := hxb k
                    clear hc hin hxb
                    by_cases ha : x k < 0
                    · go_wp2
                      go_ret
                      exact ⟨rfl, Below.refl _ _⟩
                    · by_cases hb : (c : Int) ≤ x k
                      · go_wp2
                        go_ret
                        exact ⟨rfl, Below.refl _ _⟩
                      · go_wp2
                        go_round
                        case rel => exact ⟨k + 1, by omega, by go_num, fun j hj => by
                          by_cases hjk : j = k
                          · subst hjk; omega
                          · exact HI.out j (by omega)⟩
                        case measure => simp [intOf]; omega
                · have hkn : n = k := by omega
                  subst hkn
                  obtain ⟨N, hN, hxN⟩ : ∃ N : Nat → Nat, (∀ i, i < n → N i < c) ∧ ∀ i, i < n → x i = (N i : Int) := ⟨fun i => (x i).toNat, fun i hi => by have := hin i hi; show (x i).toNat < c; omega, fun i hi => by have := hin i hi; show x i = ((x i).toNat : Int); omega⟩
                  have h' : RowIn w1 0 ao n 1 (fun k _ => .int .i64 (N k : Int)) := h.congr (fun k hk c _ => by rw [hxN k hk])
                  clear h hin hxb hxN
                  go_wp2_with fail
                  refine (clone_any ao n cap (fun k => (N k : Int)) _ hn hnl h').mono ?_
                  rintro e w2 ⟨v, rfl, hv, hb2⟩
                  obtain ⟨ao', cap', rfl, hnl', hr2⟩ := hv
                  have hmk := run_make_any (P := Try.prog) 28 3 (.int .i64 0) 1 8 Try.underlying28 info3 .i64 .i64 (n + 1) (by omega) (by omega)
                  rw [show ((n + 1 : Nat) : Int) = (n : Int) + 1 by omega] at hmk
                  have HG : Hid ((w2.alloc (.cells (madeCells #[.int .i64 0] (n + 1)) 3)).heap[w2.heap.size]? = some (.cells (ints (fun _ => 0) (n + 1)).toArray 3 (0, 0))) := by
                    show _ = _
                    rw [made_ints]; exact blk_new _ _ rfl
                  have HP : Hid (0 < (ints (fun j => (N j : Int)) n).length → ∃ ad, ao' = some ad ∧ ∀ j v, (ints (fun j => (N j : Int)) n)[j]? = some v → (w2.alloc (.cells (madeCells #[.int .i64 0] (n + 1)) 3)).cell? (ad.add j) = some v) := by
                    intro hpos
                    rcases hr2 with hz | ⟨b, o, rfl, _, hbl, hc⟩
                    · simp [ints_len, hz] at hpos
                    · refine ⟨_, rfl, fun j v hj => ?_⟩
                      have hjn : j < n := by have := (List.getElem?_eq_some_iff.1 hj).1; simpa [ints_len] using this
                      rw [ints_get _ n j hjn] at hj
                      cases hj
                      rw [Addr.add_lit, World.cell?_alloc_lt _ _ _ hbl]
                      simpa using hc j hjn 0 (by omega)
                  have HB : Below w2.heap.size w2 (w2.alloc (.cells (madeCells #[.int .i64 0] (n + 1)) 3)) := (Below.refl _ _).alloc (Nat.le_refl _) _
                  go_wp2_with (refine wpList_copy_splice rfl (.tmp 64) (.tmp 65) 28 28 rfl 3 Try.underlying28 size3 _ _ _ _ _ _ (by rfl) (by rfl) w2.heap.size 0 (ints (fun _ => 0) (n + 1)) 3 HG.out (ints (fun j => (N j : Int)) n) (by rw [ints_len]; exact (Nat.min_eq_left (by omega)).symm) (by intro hp; exact ⟨rfl, HP.out hp⟩) (by simp [ints_len]) (ints_one _ n) w2.heap.size w2 HB (Nat.le_refl _) ?_)
                  intro w3 HG3 hB3
                  have r0 : ∃ f, w3.rowIs w2.heap.size 3 (n + 1) f ∧ ∀ j, j < n → f j = .int .i64 (N j : Int) := by
                    have e := HG3.out
                    refine ⟨fun j => (splice (ints (fun _ => 0) (n + 1)) 0 (ints (fun j => (N j : Int)) n)).getD j undef, ⟨_, e, ?_, fun i hi => ?_⟩, fun j hj => ?_⟩
                    · simp [length_splice, ints_len]
                    · have hl : (splice (ints (fun _ => 0) (n + 1)) 0 (ints (fun j => (N j : Int)) n)).length = n + 1 := by rw [length_splice] <;> simp [ints_len]
                      simp [List.getD, show i < (splice (ints (fun _ => 0) (n + 1)) 0 (ints (fun j => (N j : Int)) n)).length by omega]
                    · have : (ints (fun j => (N j : Int)) n)[j]? = some (.int .i64 (N j : Int)) := ints_get _ n j hj
                      simp only [splice, List.take_zero, List.nil_append, List.getD]
                      rw [List.getElem?_append_left (by rw [ints_len]; exact hj), this]; rfl
                  obtain ⟨f, r0, hf⟩ := r0
                  have s1 : w3.cell? ⟨w2.heap.size, n, none⟩ = some (f n) := r0.cell (by omega)
                  have s2 : w3.frozen? ⟨w2.heap.size, n, none⟩ = false := r0.frozen _
                  have RX : Hid ((w3.setCell ⟨w2.heap.size, n, none⟩ (.int .i64 (X : Int))).rowIs w2.heap.size 3 (n + 1) (fun j => .int .i64 ((ext N n X j : Nat) : Int))) := (r0.set n (.int .i64 (X : Int))).congr (fun j hj => by
                    by_cases hjn : j = n
                    · subst hjn; simp [ext]
                    · have : j < n := by omega
                      simp [hjn, ext, this, hf j this])
                  have hr3 : RowIn (w3.setCell ⟨w2.heap.size, n, none⟩ (.int .i64 (X : Int))) 0 ao' n 1 (fun k _ => .int .i64 (N k : Int)) := by
                    refine RowIn.below (B := w2.heap.size) (w := w2) (hr2.lower (Nat.zero_le _)) (hB3.setCell (Nat.le_refl _) _) (Nat.le_refl _)
                  have hb3 : Below w1.heap.size w1 (w3.setCell ⟨w2.heap.size, n, none⟩ (.int .i64 (X : Int))) := hb2.trans ((hB3.setCell (p := ⟨w2.heap.size, n, none⟩) (Nat.le_refl _) (.int .i64 (X : Int))).mono hb2.size)
                  have hi0 : (0 : Int) ≤ (n : Int) := by omega
                  have hi1 : (n : Int) < (n : Int) + 1 := by omega
                  clear HG HP HB HG3 hmk hr2 r0 hf hB3 hb2
                  go_wp2_with fail
                  have hr3' := hr3
                  generalize w3.setCell ⟨w2.heap.size, n, none⟩ (.int .i64 (X : Int)) = wx at RX hr3 hb3 ⊢
                  clear s1 s2 hr3'
                  have rx := RX.out
                  clear RX
                  generalize w2.heap.size = gx at rx ⊢
                  refine (zzPlaces_any ao' n cap' c N _ (by omega) (by omega) hN hr3).mono ?_
                  rintro e w4 ⟨g1, g2, rfl, l1, l2, r1, ⟨AT, r2, hAT⟩, hb4⟩
                  have rx4 := rowIs_keep rx hb4 (Nat.le_refl _)
                  have hbel4 := hb3.trans (hb4.mono hb3.size)
                  go_wp2_with fail
                  have kp : (w4.alloc (.cells #[.slice (some ⟨g1, 0, none⟩) (c + 1) (c + 1), .slice (some ⟨g2, 0, none⟩) n n] 32)).heap[w4.heap.size]? = some (.cells #[.slice (some ⟨g1, 0, none⟩) (c + 1) (c + 1), .slice (some ⟨g2, 0, none⟩) n n] 32 (0, 0)) := blk_new _ _ rfl
                  have k1 : (w4.alloc (.cells #[.slice (some ⟨g1, 0, none⟩) (c + 1) (c + 1), .slice (some ⟨g2, 0, none⟩) n n] 32)).rowIs g1 3 (c + 1) _ := r1.alloc _
                  have k2 : (w4.alloc (.cells #[.slice (some ⟨g1, 0, none⟩) (c + 1) (c + 1), .slice (some ⟨g2, 0, none⟩) n n] 32)).rowIs g2 3 n _ := r2.alloc _
                  have kx : (w4.alloc (.cells #[.slice (some ⟨g1, 0, none⟩) (c + 1) (c + 1), .slice (some ⟨g2, 0, none⟩) n n] 32)).rowIs gx 3 (n + 1) _ := rx4.alloc _
                  have hbel5 : Below w1.heap.size w1 (w4.alloc (.cells #[.slice (some ⟨g1, 0, none⟩) (c + 1) (c + 1), .slice (some ⟨g2, 0, none⟩) n n] 32)) := hbel4.alloc hbel4.size _
                  clear r1 r2 rx4 hbel4 hb4 hr3 hb3 rx l1 l2
                  generalize w4.alloc (.cells #[.slice (some ⟨g1, 0, none⟩) (c + 1) (c + 1), .slice (some ⟨g2, 0, none⟩) n n] 32) = w5 at kp k1 k2 kx hbel5 ⊢
                  generalize w4.heap.size = gp at kp ⊢
                  have hNx : ∀ i, i < n + 1 → ext N n X i < c := fun i hi => by
                    unfold ext; split
                    · exact hN i (by assumption)
                    · exact hXc
                  refine (zzPlaces_any (some ⟨gx, 0, none⟩) (n + 1) (n + 1) c (ext N n X) _ (by omega) (by omega) hNx ((isSl_row1 kx))).mono ?_
                  rintro e w6 ⟨h1, h2, rfl, l1, l2, r1, ⟨AT', r2, hAT'⟩, hb6⟩
                  have jp := blk_keep kp hb6 (Nat.le_refl _)
                  have j1 := rowIs_keep k1 hb6 (Nat.le_refl _)
                  have j2 := rowIs_keep k2 hb6 (Nat.le_refl _)
                  have jb := hbel5.trans (hb6.mono hbel5.size)
                  have zp := lt_of_block jp
                  have p0 : w6.cell? ⟨gp, 0, none⟩ = some (.slice (some ⟨g1, 0, none⟩) (c + 1) (c + 1)) := cell_at jp
                  have p1 : w6.cell? ⟨gp, 1, none⟩ = some (.slice (some ⟨g2, 0, none⟩) n n) := cell_at jp
                  have hne1 : (((c : Int) + 1) != ((c : Int) + 1)) = false := by simp
                  have hne2 : ((n : Int) != (n : Int)) = false := by simp
                  have hne3 : (((n : Int) + 1) != ((n : Int) + 1)) = false := by simp
                  clear kp k1 k2 kx hbel5 hb6 l1 l2
                  go_wp2
                  have mp : (w6.alloc (.cells #[.slice (some ⟨h1, 0, none⟩) (c + 1) (c + 1), .slice (some ⟨h2, 0, none⟩) (n + 1) (n + 1)] 32)).heap[gp]? = some (.cells #[.slice (some ⟨g1, 0, none⟩) (c + 1) (c + 1), .slice (some ⟨g2, 0, none⟩) n n] 32 (0, 0)) := blk_alloc jp _
                  have mq : (w6.alloc (.cells #[.slice (some ⟨h1, 0, none⟩) (c + 1) (c + 1), .slice (some ⟨h2, 0, none⟩) (n + 1) (n + 1)] 32)).heap[w6.heap.size]? = some (.cells #[.slice (some ⟨h1, 0, none⟩) (c + 1) (c + 1), .slice (some ⟨h2, 0, none⟩) (n + 1) (n + 1)] 32 (0, 0)) := blk_new _ _ rfl
                  have m1 : (w6.alloc (.cells #[.slice (some ⟨h1, 0, none⟩) (c + 1) (c + 1), .slice (some ⟨h2, 0, none⟩) (n + 1) (n + 1)] 32)).rowIs g1 3 (c + 1) _ := j1.alloc _
                  have m2 : (w6.alloc (.cells #[.slice (some ⟨h1, 0, none⟩) (c + 1) (c + 1), .slice (some ⟨h2, 0, none⟩) (n + 1) (n + 1)] 32)).rowIs g2 3 n _ := j2.alloc _
                  have n1 : (w6.alloc (.cells #[.slice (some ⟨h1, 0, none⟩) (c + 1) (c + 1), .slice (some ⟨h2, 0, none⟩) (n + 1) (n + 1)] 32)).rowIs h1 3 (c + 1) _ := r1.alloc _
                  have n2 : (w6.alloc (.cells #[.slice (some ⟨h1, 0, none⟩) (c + 1) (c + 1), .slice (some ⟨h2, 0, none⟩) (n + 1) (n + 1)] 32)).rowIs h2 3 (n + 1) _ := r2.alloc _
                  have mb : Below w1.heap.size w1 (w6.alloc (.cells #[.slice (some ⟨h1, 0, none⟩) (c + 1) (c + 1), .slice (some ⟨h2, 0, none⟩) (n + 1) (n + 1)] 32)) := jb.alloc jb.size _
                  clear jp j1 j2 r1 r2 jb zp p0 p1 hne1 hne2 hne3
                  generalize w6.alloc (.cells #[.slice (some ⟨h1, 0, none⟩) (c + 1) (c + 1), .slice (some ⟨h2, 0, none⟩) (n + 1) (n + 1)] 32) = wq at mp mq m1 m2 n1 n2 mb ⊢
                  generalize w6.heap.size = gq at mq ⊢
                  obtain ⟨C, hC⟩ : ∃ C, C = lt N (X + 1) n := ⟨_, rfl⟩
                  have hCn : C ≤ n := by rw [hC]; exact lt_le _ _ _
                  have hcut : n2cell AT' C n := by unfold n2cell; rw [hC]; exact at_cut hAT'
                  have hbef : ∀ k, k < C → AT' k = AT k := fun k hk => before_cut hN hAT hAT' k (by rw [← hC]; exact hk)
                  have hbeh : ∀ k, C ≤ k → k < n → AT' (k + 1) = AT k := fun k hk hkn => behind_cut hN hAT hAT' k (by rw [← hC]; exact hk) hkn
                  have HB : Hid _ := hbef
                  have HH : Hid _ := hbeh
                  have HCE : Hid _ := hC
                  have hX1 : (X : Int) + 1 < (c : Int) + 1 := by omega
                  have hX0 : (0 : Int) ≤ (X : Int) + 1 := by omega
                  have hX2 : ((X : Int) + 1).toNat = X + 1 := by omega
                  have p0 : wq.cell? ⟨gp, 0, none⟩ = some (.slice (some ⟨g1, 0, none⟩) (c + 1) (c + 1)) := cell_at mp
                  have q0 : wq.cell? ⟨gq, 0, none⟩ = some (.slice (some ⟨h1, 0, none⟩) (c + 1) (c + 1)) := cell_at mq
                  have p1 : wq.cell? ⟨gp, 1, none⟩ = some (.slice (some ⟨g2, 0, none⟩) n n) := cell_at mp
                  have q1 : wq.cell? ⟨gq, 1, none⟩ = some (.slice (some ⟨h2, 0, none⟩) (n + 1) (n + 1)) := cell_at mq
                  clear hbef hbeh hC hAT hAT' hNx h' hi0 hi1
                  go_loop [12] (fun i => ∃ id : Nat, id ≤ c + 1 ∧ i = .int .i64 id) (fun i => c + 1 - (intOf i).toNat)
                  case atStart => exact ⟨0, Nat.zero_le _, rfl⟩
                  case round =>
                    obtain ⟨id, hid, rfl⟩ := hrel
                    by_cases hlt2 : id ≤ c
                    · have a1 : wq.cell? ⟨g1, id, none⟩ = some (.int .i64 ((lt N id n : Nat) : Int)) := m1.cell (by omega)
                      have hle := lt_le N id n
                      have hi0 : (0 : Int) ≤ (id : Int) := by omega
                      have hi1 : (id : Int) < (c : Int) + 1 := by omega
                      by_cases hxi : X < id
                      · have a2 : wq.cell? ⟨h1, id, none⟩ = some (.int .i64 (((lt N id n : Nat) : Int) + 1)) := by
                          rw [n1.cell (by omega), lt_ext, if_pos hxi]; simp
                        have hne : ((((lt N id n : Nat) : Int) + 1) != (((lt N id n : Nat) : Int) + 1)) = false := by simp
                        have hxi' : (X : Int) < (id : Int) := by omega
                        go_wp2
                        go_round
                        case rel => exact ⟨id + 1, by omega, by go_num⟩
                        case measure => simp [intOf]; omega
                      · have a2 : wq.cell? ⟨h1, id, none⟩ = some (.int .i64 ((lt N id n : Nat) : Int)) := by
                          rw [n1.cell (by omega), lt_ext, if_neg hxi]; simp
                        have hne : (((lt N id n : Nat) : Int) != ((lt N id n : Nat) : Int)) = false := by simp
                        have hxi' : (id : Int) ≤ (X : Int) := by omega
                        go_wp2
                        go_round
                        case rel => exact ⟨id + 1, by omega, by go_num⟩
                        case measure => simp [intOf]; omega
                    · have a1 : wq.cell? ⟨g1, X + 1, none⟩ = some (.int .i64 (C : Int)) := by rw [m1.cell (by omega), HCE.out]
                      have hC0 : (0 : Int) ≤ (C : Int) := by omega
                      have hC1 : (C : Int) ≤ (n : Int) := by omega
                      go_wp2
                      clear a1
                      go_loopw [15] (fun i wr => ∃ k : Nat, k ≤ C ∧ i = .int .i64 k ∧ Below wq.heap.size wq wr) (fun i _ => C - (intOf i).toNat)
                      case atStart => exact ⟨0, Nat.zero_le _, rfl, Below.refl _ _⟩
                      case round =>
                        obtain ⟨k, hk', rfl, hbr⟩ := hrel
                        by_cases hlt3 : k < C
                        · have HS : Hid (∀ w', Below wq.heap.size wq w' → w'.cell? ⟨gq, 1, none⟩ = some (.slice (some ⟨h2, 0, none⟩) (n + 1) (n + 1)) ∧ w'.cell? ⟨gp, 1, none⟩ = some (.slice (some ⟨g2, 0, none⟩) n n) ∧ w'.cell? ⟨h2, k, none⟩ = some (.int .i64 (AT k)) ∧ w'.cell? ⟨g2, k, none⟩ = some (.int .i64 (AT k)) ∧ Below wq.heap.size wq w') := fun w' hb' => by
                            have i1 := blk_keep mp hb' (Nat.le_refl _)
                            have i2 := blk_keep mq hb' (Nat.le_refl _)
                            have i3 := rowIs_keep m2 hb' (Nat.le_refl _)
                            have i4 := rowIs_keep n2 hb' (Nat.le_refl _)
                            exact ⟨cell_at i2, cell_at i1, by rw [i4.cell (by omega), HB.out k hlt3], i3.cell (by omega), hb'⟩
                          have hk0 : (0 : Int) ≤ (k : Int) := by omega
                          have hk1 : (k : Int) < (n : Int) := by omega
                          have hk2 : (k : Int) < (n : Int) + 1 := by omega
                          have hne : (AT k != AT k) = false := by simp
                          go_wp2
                          go_region_held3 (fun w' => w'.cell? ⟨gq, 1, none⟩ = some (.slice (some ⟨h2, 0, none⟩) (n + 1) (n + 1)) ∧ w'.cell? ⟨gp, 1, none⟩ = some (.slice (some ⟨g2, 0, none⟩) n n) ∧ w'.cell? ⟨h2, k, none⟩ = some (.int .i64 (AT k)) ∧ w'.cell? ⟨g2, k, none⟩ = some (.int .i64 (AT k)) ∧ Below wq.heap.size wq w')
                            (with_reducible exact HS.out _ hbr.drew)
                            (fail)
                          go_wp2
                          go_roundw
                          case rel => exact ⟨k + 1, by omega, by go_num, hbr.drew⟩
                          case measure => simp [intOf]; omega
                        · have i2 := blk_keep mq hbr (Nat.le_refl _)
                          have i4 := rowIs_keep n2 hbr (Nat.le_refl _)
                          have b1 : wr.cell? ⟨gq, 1, none⟩ = some (.slice (some ⟨h2, 0, none⟩) (n + 1) (n + 1)) := cell_at i2
                          have b2 : wr.cell? ⟨h2, C, none⟩ = some (.int .i64 (n : Int)) := by rw [i4.cell (by omega), hcut]
                          have hne : ((n : Int) != (n : Int)) = false := by simp
                          have hC2 : (C : Int) < (n : Int) + 1 := by omega
                          go_wp2
                          clear b1 b2 i2 i4
                          go_loopw [16] (fun i wr => ∃ k : Nat, C ≤ k ∧ k ≤ n ∧ i = .int .i64 k ∧ Below wq.heap.size wq wr) (fun i _ => n - (intOf i).toNat)
                          case atStart => exact ⟨C, Nat.le_refl _, hCn, rfl, hbr⟩
                          case round =>
                            obtain ⟨k, hkC, hkn, rfl, hbr⟩ := hrel
                            by_cases hlt4 : k < n
                            · have HS : Hid (∀ w', Below wq.heap.size wq w' → w'.cell? ⟨gq, 1, none⟩ = some (.slice (some ⟨h2, 0, none⟩) (n + 1) (n + 1)) ∧ w'.cell? ⟨gp, 1, none⟩ = some (.slice (some ⟨g2, 0, none⟩) n n) ∧ w'.cell? ⟨h2, k + 1, none⟩ = some (.int .i64 (AT k)) ∧ w'.cell? ⟨g2, k, none⟩ = some (.int .i64 (AT k)) ∧ Below wq.heap.size wq w') := fun w' hb' => by
                                have i1 := blk_keep mp hb' (Nat.le_refl _)
                                have i2 := blk_keep mq hb' (Nat.le_refl _)
                                have i3 := rowIs_keep m2 hb' (Nat.le_refl _)
                                have i4 := rowIs_keep n2 hb' (Nat.le_refl _)
                                exact ⟨cell_at i2, cell_at i1, by rw [i4.cell (by omega), HH.out k hkC hlt4], i3.cell (by omega), hb'⟩
                              have hk0 : (0 : Int) ≤ (k : Int) := by omega
                              have hk1 : (k : Int) < (n : Int) := by omega
                              have hk2 : (k : Int) + 1 < (n : Int) + 1 := by omega
                              have hk3 : (0 : Int) ≤ (k : Int) + 1 := by omega
                              have hk4 : ((k : Int) + 1).toNat = k + 1 := by omega
                              have hwk : IntKind.i64.wrap ((k : Int) + 1) = (k : Int) + 1 := by rw [IntKind.wrap_i64]; omega
                              have hne : (AT k != AT k) = false := by simp
                              go_wp2
                              go_region_held3 (fun w' => w'.cell? ⟨gq, 1, none⟩ = some (.slice (some ⟨h2, 0, none⟩) (n + 1) (n + 1)) ∧ w'.cell? ⟨gp, 1, none⟩ = some (.slice (some ⟨g2, 0, none⟩) n n) ∧ w'.cell? ⟨h2, k + 1, none⟩ = some (.int .i64 (AT k)) ∧ w'.cell? ⟨g2, k, none⟩ = some (.int .i64 (AT k)) ∧ Below wq.heap.size wq w')
                                (with_reducible exact HS.out _ hbr.drew)
                                (fail)
                              go_wp2
                              go_roundw
                              case rel => exact ⟨k + 1, by omega, by omega, by go_num, hbr.drew⟩
                              case measure => simp [intOf]; omega
                            · go_wp2
                              go_ret
                              exact ⟨rfl, mb.trans (hbr.mono mb.size)⟩
end Go.Proofs.Qxb6600117a
