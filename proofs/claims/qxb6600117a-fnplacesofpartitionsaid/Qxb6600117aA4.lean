import Derived.Test.Qxb6600117aA3
namespace Go.Proofs.Qxb6600117a
open Go.RowKit
set_option linter.unusedSimpArgs false
set_option linter.unusedVariables false

theorem info4 : (Try.prog.info? 4).map (fun i => (i.zero, i.size, i.bytes)) = some (some (.bool false), 1, 1) := by kernel_rfl

set_option maxRecDepth 20000 in
set_option maxHeartbeats 4000000 in
theorem partition_walk (ao : Option Addr) (n cap : Nat) (x : Nat → Int) (count : Int) (w : World) (hcb : -9223372036854775808 ≤ count ∧ count ≤ 9223372036854775807) (hxb : ∀ k, -9223372036854775808 ≤ x k ∧ x k ≤ 9223372036854775807) (hnl : ao = none → n = 0 ∧ cap = 0) (h : RowIn w 0 ao n 1 (fun k _ => .int .i64 (x k))) :
    Calls Try.prog 5 #[.slice ao n cap, .int .i64 count] w fun e w' => e = .returned (.bool true) ∧ Below w.heap.size w w' := by
  go_enter Try.func5, Try.ntmps5
  go_wp2_with fail
  refine (bytes15_any ao n cap _ _).mono ?_
  rintro e w1 ⟨he, hw1⟩
  subst hw1
  rcases he with rfl | ⟨rfl, hn⟩
  · go_wp2
    go_ret
    exact ⟨rfl, Below.refl _ _⟩
  · by_cases hbig : 65536 < n
    · go_wp2
      go_ret
      exact ⟨rfl, Below.refl _ _⟩
    · by_cases hlo : count < 0
      · go_wp2
        go_ret
        exact ⟨rfl, Below.refl _ _⟩
      · by_cases hhi : 65536 < count
        · go_wp2
          go_ret
          exact ⟨rfl, Below.refl _ _⟩
        · obtain ⟨c, rfl⟩ : ∃ c : Nat, count = (c : Int) := ⟨count.toNat, by omega⟩
          go_wp2
          go_loop [5] (fun i => ∃ k : Nat, k ≤ n ∧ i = .int .i64 k ∧ ∀ j, j < k → 0 ≤ x j ∧ x j < (c : Int)) (fun i => n - (intOf i).toNat)
          case atStart => exact ⟨0, Nat.zero_le _, rfl, fun j hj => by omega⟩
          case round =>
            obtain ⟨k, hk, rfl, hin⟩ := hrel
            by_cases hlt : k < n
            · rcases h with h | ⟨b, o, rfl, _, hbl, hc⟩
              · omega
              · have q0 : w1.cell? ⟨b, o + k, none⟩ = some (.int .i64 (x k)) := by simpa using hc k hlt 0 (by omega)
                have HI : Hid _ := hin
                have hxk := hxb k
                clear hc hin hxb
                by_cases ha : x k < 0
                · go_wp2
                  go_ret
                  exact ⟨rfl, Below.refl _ _⟩
                · by_cases hb : (c : Int) ≤ x k
                  · go_wp2
                    go_ret
                    exact ⟨rfl, Below.refl _ _⟩
                  · go_wp2
                    go_round
                    case rel => exact ⟨k + 1, by omega, by go_num, fun j hj => by
                      by_cases hjk : j = k
                      · subst hjk; omega
                      · exact HI.out j (by omega)⟩
                    case measure => simp [intOf]; omega
            · have hkn : n = k := by omega
              subst hkn
              obtain ⟨N, hN, hxN⟩ : ∃ N : Nat → Nat, (∀ i, i < n → N i < c) ∧ ∀ i, i < n → x i = (N i : Int) := ⟨fun i => (x i).toNat, fun i hi => by have := hin i hi; show (x i).toNat < c; omega, fun i hi => by have := hin i hi; show x i = ((x i).toNat : Int); omega⟩
              have h' : RowIn w1 0 ao n 1 (fun k _ => .int .i64 (N k : Int)) := h.congr (fun k hk c _ => by rw [hxN k hk])
              clear h hin hxb hxN
              go_wp2_with fail
              refine (clone_any ao n cap (fun k => (N k : Int)) _ hn hnl h').mono ?_
              rintro e w2 ⟨v, rfl, hv, hb2⟩
              obtain ⟨ao', cap', rfl, hnl', hr2⟩ := hv
              go_wp2_with fail
              refine (zzPlaces_any ao' n cap' c N _ (by omega) (by omega) hN (hr2.lower (Nat.zero_le _))).mono ?_
              rintro e w3 ⟨g1, g2, rfl, l1, l2, r1, ⟨AT, r2, hAT⟩, hb3⟩
              have hr3 := (hr2.below hb3 (Nat.le_refl _)).lower (Nat.zero_le _)
              have hbel3 := hb2.trans (hb3.mono hb2.size)
              have z1 := r1.lt
              have z2 := r2.lt
              have s0 : w3.cell? ⟨g1, 0, none⟩ = some (.int .i64 0) := by rw [r1.cell (by omega), lt_zero]; rfl
              have s1 : w3.cell? ⟨g1, c, none⟩ = some (.int .i64 (n : Int)) := by rw [r1.cell (by omega), lt_all N c n hN]
              have hi0 : (0 : Int) ≤ (c : Int) := by omega
              have hi1 : (c : Int) < (c : Int) + 1 := by omega
              have hne1 : (((c : Int) + 1) != ((c : Int) + 1)) = false := by simp
              have hne2 : ((n : Int) != (n : Int)) = false := by simp
              clear hr2 hb2 hb3 l1 l2
              go_wp2
              have kp : (w3.alloc (.cells #[.slice (some ⟨g1, 0, none⟩) (c + 1) (c + 1), .slice (some ⟨g2, 0, none⟩) n n] 32)).heap[w3.heap.size]? = some (.cells #[.slice (some ⟨g1, 0, none⟩) (c + 1) (c + 1), .slice (some ⟨g2, 0, none⟩) n n] 32 (0, 0)) := blk_new _ _ rfl
              have k1 : (w3.alloc (.cells #[.slice (some ⟨g1, 0, none⟩) (c + 1) (c + 1), .slice (some ⟨g2, 0, none⟩) n n] 32)).rowIs g1 3 (c + 1) _ := r1.alloc _
              have k2 : (w3.alloc (.cells #[.slice (some ⟨g1, 0, none⟩) (c + 1) (c + 1), .slice (some ⟨g2, 0, none⟩) n n] 32)).rowIs g2 3 n _ := r2.alloc _
              have hr4 : RowIn (w3.alloc (.cells #[.slice (some ⟨g1, 0, none⟩) (c + 1) (c + 1), .slice (some ⟨g2, 0, none⟩) n n] 32)) 0 ao' n 1 (fun k _ => .int .i64 (N k : Int)) := hr3.below (w' := w3.alloc (.cells #[.slice (some ⟨g1, 0, none⟩) (c + 1) (c + 1), .slice (some ⟨g2, 0, none⟩) n n] 32)) ((Below.refl _ _).alloc (Nat.le_refl _) _) (Nat.le_refl _)
              have hbel4 : Below w1.heap.size w1 (w3.alloc (.cells #[.slice (some ⟨g1, 0, none⟩) (c + 1) (c + 1), .slice (some ⟨g2, 0, none⟩) n n] 32)) := hbel3.alloc hbel3.size _
              clear hr3 hbel3 r1 r2 s0 s1 z1 z2 h' hne1 hne2 hi0 hi1
              generalize w3.alloc (.cells #[.slice (some ⟨g1, 0, none⟩) (c + 1) (c + 1), .slice (some ⟨g2, 0, none⟩) n n] 32) = wq at kp k1 k2 hr4 hbel4 ⊢
              generalize w3.heap.size = gp at kp ⊢
              go_loopw [8] (fun i wr => ∃ id : Nat, id ≤ c ∧ i = .int .i64 id ∧ Below wq.heap.size wq wr) (fun i _ => c - (intOf i).toNat)
              case atStart => exact ⟨0, Nat.zero_le _, rfl, Below.refl _ _⟩
              case round =>
                obtain ⟨id, hid, rfl, hbr⟩ := hrel
                by_cases hlt2 : id < c
                · have HS : Hid (∀ w', Below wq.heap.size wq w' → w'.cell? ⟨gp, 0, none⟩ = some (.slice (some ⟨g1, 0, none⟩) (c + 1) (c + 1)) ∧ w'.cell? ⟨g1, id, none⟩ = some (.int .i64 ((lt N id n : Nat) : Int)) ∧ w'.cell? ⟨g1, id + 1, none⟩ = some (.int .i64 ((lt N (id + 1) n : Nat) : Int)) ∧ Below wq.heap.size wq w') := fun w' hb' => by
                    have i1 := blk_keep kp hb' (Nat.le_refl _)
                    have i2 := rowIs_keep k1 hb' (Nat.le_refl _)
                    exact ⟨cell_at i1, i2.cell (by omega), i2.cell (by omega), hb'⟩
                  have hi0 : (0 : Int) ≤ (id : Int) := by omega
                  have hi1 : (id : Int) < (c : Int) + 1 := by omega
                  have hi2 : (id : Int) + 1 < (c : Int) + 1 := by omega
                  have hmo : ((lt N id n : Nat) : Int) ≤ ((lt N (id + 1) n : Nat) : Int) := by have := lt_mono N n (show id ≤ id + 1 by omega); omega
                  have hi3 : (0 : Int) ≤ (id : Int) + 1 := by omega
                  have hi4 : ((id : Int) + 1).toNat = id + 1 := by omega
                  have hwid : IntKind.i64.wrap ((id : Int) + 1) = (id : Int) + 1 := by rw [IntKind.wrap_i64]; omega
                  go_wp2
                  go_region_held3 (fun w' => w'.cell? ⟨gp, 0, none⟩ = some (.slice (some ⟨g1, 0, none⟩) (c + 1) (c + 1)) ∧ w'.cell? ⟨g1, id, none⟩ = some (.int .i64 ((lt N id n : Nat) : Int)) ∧ w'.cell? ⟨g1, id + 1, none⟩ = some (.int .i64 ((lt N (id + 1) n : Nat) : Int)) ∧ Below wq.heap.size wq w')
                    (with_reducible exact HS.out _ hbr.drew)
                    (fail)
                  go_wp2
                  go_roundw
                  case rel => exact ⟨id + 1, by omega, by go_num, hbr.drew⟩
                  case measure => simp [intOf]; omega
                · have m1 := rowIs_keep k1 hbr (Nat.le_refl _)
                  have m2 := rowIs_keep k2 hbr (Nat.le_refl _)
                  have mp := blk_keep kp hbr (Nat.le_refl _)
                  have mr := hr4.below hbr (Nat.le_refl _)
                  have mb := hbel4.trans (hbr.mono hbel4.size)
                  have hmk := run_make_any (P := Try.prog) 34 4 (.bool false) 1 1 Try.underlying34 info4 .i64 .i64 n (by omega) (by omega)
                  clear k1 k2 kp hr4 hbel4 hbr
                  go_wp2
                  clear hmk
                  obtain ⟨wa, hwa⟩ : ∃ wa, wa = wr := ⟨_, rfl⟩
                  subst hwa
                  have m4 : (wa.alloc (.cells (madeCells #[.bool false] n) 4)).rowIs wa.heap.size 4 n (fun j => .bool (decide (slot N n j < 0))) := (World.rowIs_made wa (.bool false) n 4).congr (fun j _ => by simp)
                  have mbb : Below wa.heap.size wa (wa.alloc (.cells (madeCells #[.bool false] n) 4)) := (Below.refl _ _).alloc (Nat.le_refl _) _
                  generalize wa.alloc (.cells (madeCells #[.bool false] n) 4) = wz at m4 mbb ⊢
                  have z4 := m4.lt
                  have zp := lt_of_block mp
                  have y1 := m1.lt
                  have y2 := m2.lt
                  go_loopw [10] (fun i wd => ∃ id : Nat, id ≤ c ∧ i = .int .i64 id ∧ Below wa.heap.size wa wd ∧ wd.rowIs wa.heap.size 4 n (fun j => .bool (decide (slot N n j < lt N id n)))) (fun i _ => c - (intOf i).toNat)
                  case atStart => exact ⟨0, Nat.zero_le _, rfl, mbb, m4.congr (fun j _ => by rw [lt_zero])⟩
                  case round =>
                    obtain ⟨d, hd, rfl, nb, n4⟩ := hrel
                    clear m4 mbb z4
                    by_cases hlt3 : d < c
                    · have p0 : wr.cell? ⟨gp, 0, none⟩ = some (.slice (some ⟨g1, 0, none⟩) (c + 1) (c + 1)) := cell_at (blk_keep mp nb (Nat.le_refl _))
                      have p1 : wr.cell? ⟨g1, d, none⟩ = some (.int .i64 ((lt N d n : Nat) : Int)) := (rowIs_keep m1 nb (Nat.le_refl _)).cell (by omega)
                      have hi0 : (0 : Int) ≤ (d : Int) := by omega
                      have hi1 : (d : Int) < (c : Int) + 1 := by omega
                      go_wp2
                      clear p0 p1
                      go_loopw [11] (fun i we => ∃ k : Nat, lt N d n ≤ k ∧ k ≤ lt N (d + 1) n ∧ i = .int .i64 k ∧ Below wa.heap.size wa we ∧ we.rowIs wa.heap.size 4 n (fun j => .bool (decide (slot N n j < k)))) (fun i _ => lt N (d + 1) n - (intOf i).toNat)
                      case atStart => exact ⟨lt N d n, Nat.le_refl _, lt_mono N n (by omega), rfl, nb, n4⟩
                      case round =>
                        obtain ⟨k, hk1, hk2, rfl, ob, o4⟩ := hrel
                        clear nb n4
                        have op := blk_keep mp ob (Nat.le_refl _)
                        have o1 := rowIs_keep m1 ob (Nat.le_refl _)
                        have o2 := rowIs_keep m2 ob (Nat.le_refl _)
                        have hup := lt_le N (d + 1) n
                        have p0 : wr.cell? ⟨gp, 0, none⟩ = some (.slice (some ⟨g1, 0, none⟩) (c + 1) (c + 1)) := cell_at op
                        have p2 : wr.cell? ⟨gp, 1, none⟩ = some (.slice (some ⟨g2, 0, none⟩) n n) := cell_at op
                        have p1 : wr.cell? ⟨g1, d + 1, none⟩ = some (.int .i64 ((lt N (d + 1) n : Nat) : Int)) := o1.cell (by omega)
                        have p3 : wr.cell? ⟨g1, d, none⟩ = some (.int .i64 ((lt N d n : Nat) : Int)) := o1.cell (by omega)
                        by_cases hlt4 : k < lt N (d + 1) n
                        · obtain ⟨i, hi, hid', hsl⟩ := slot_block N n d k hk1 hlt4
                          have p4 : wr.cell? ⟨g2, k, none⟩ = some (.int .i64 (i : Int)) := by rw [o2.cell (by omega), ← hsl, hAT i hi]
                          have p5 : wr.cell? ⟨wa.heap.size, i, none⟩ = some (.bool false) := by
                            rw [o4.cell hi]
                            have : ¬ slot N n i < k := by omega
                            simp [this]
                          have p6 : wr.frozen? ⟨wa.heap.size, i, none⟩ = false := o4.frozen _
                          rcases mr with mr | ⟨bn, on, rfl, _, hbn, hcn⟩
                          · omega
                          · have p7 : wr.cell? ⟨bn, on + i, none⟩ = some (.int .i64 (d : Int)) := by
                              rw [ob.cell (p := ⟨bn, on + i, none⟩) hbn, ← hid']
                              simpa using hcn i hi 0 (by omega)
                            have R4 := o4.set i (.bool true)
                            have hdd : ((d : Int) != (d : Int)) = false := by simp
                            have hin : (i : Int) < (n : Int) := by omega
                            have hi0' : (0 : Int) ≤ (i : Int) := by omega
                            have hkn : (k : Int) < (n : Int) := by omega
                            have hk0 : (0 : Int) ≤ (k : Int) := by omega
                            have hkl : (k : Int) < ((lt N (d + 1) n : Nat) : Int) := by omega
                            have HR : Hid (∃ f', (wr.setCell ⟨wa.heap.size, i, none⟩ (.bool true)).rowIs wa.heap.size 4 n f' ∧ ∀ j, j < n → f' j = .bool (decide (slot N n j < k + 1))) := by
                              refine ⟨_, R4, fun j hj => ?_⟩
                              by_cases hji : j = i
                              · subst hji
                                have : slot N n j < k + 1 := by omega
                                simp [this]
                              · have hne : slot N n j ≠ k := fun e => hji (slot_inj N hj hi (by omega))
                                have e : (slot N n j < k + 1) = (slot N n j < k) := by
                                  apply propext; constructor <;> intro h <;> omega
                                simp [hji, e]
                            clear R4 hcn
                            by_cases hfirst : lt N d n < k
                            · obtain ⟨i', hi', hid2, hsl2⟩ := slot_block N n d (k - 1) (by omega) (by omega)
                              have hii : i' < i := by
                                have e1 : slot N n i' + 1 = slot N n i := by omega
                                unfold slot at e1
                                rw [hid2, hid'] at e1
                                rcases Nat.lt_or_ge i' i with h | h
                                · exact h
                                · have := cnt_mono N d h; omega
                              have p8 : wr.cell? ⟨g2, k - 1, none⟩ = some (.int .i64 (i' : Int)) := by rw [o2.cell (by omega), ← hsl2, hAT i' hi']
                              have hf1 : ((lt N d n : Nat) : Int) < (k : Int) := by omega
                              have hf2 : (i' : Int) < (i : Int) := by omega
                              have hf3 : ((k : Int) - 1).toNat = k - 1 := by omega
                              have hf4 : (0 : Int) ≤ (k : Int) - 1 := by omega
                              have hf5 : (k : Int) - 1 < (n : Int) := by omega
                              clear op o1 o2 o4 hid' hsl hid2 hsl2 hfirst
                              go_wp2
                              go_roundw
                              case rel =>
                                obtain ⟨f', hf', hff⟩ := HR.out
                                exact ⟨k + 1, by omega, by omega, by go_num, ob.setCell (Nat.le_refl _) _, hf'.congr hff⟩
                              case measure => simp [intOf]; omega
                            · have hf1 : (k : Int) ≤ ((lt N d n : Nat) : Int) := by omega
                              clear op o1 o2 o4 hid' hsl hfirst
                              go_wp2
                              go_roundw
                              case rel =>
                                obtain ⟨f', hf', hff⟩ := HR.out
                                exact ⟨k + 1, by omega, by omega, by go_num, ob.setCell (Nat.le_refl _) _, hf'.congr hff⟩
                              case measure => simp [intOf]; omega
                        · have hkl : k = lt N (d + 1) n := by omega
                          have hkl' : ((lt N (d + 1) n : Nat) : Int) ≤ (k : Int) := by omega
                          have HO : Hid (wr.rowIs wa.heap.size 4 n (fun j => .bool (decide (slot N n j < lt N (d + 1) n)))) := by rw [hkl] at o4; exact o4
                          clear o4 hkl op o1 o2 p2 p3
                          go_wp2
                          go_roundw
                          case rel => exact ⟨d + 1, by omega, by go_num, ob, HO.out⟩
                          case measure => simp [intOf]; omega
                    · go_wp2
                      go_ret
                      exact ⟨rfl, mb.trans (nb.mono mb.size)⟩
end Go.Proofs.Qxb6600117a
