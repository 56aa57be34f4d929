import Derived.Test.Qxb6600017aA5
import Derived.Test.Qxb6600017aA6
import Derived.Test.Qxb6600017aE2
namespace Go.Proofs.Qxb6600017a
open Go.RowKit
set_option linter.unusedSimpArgs false
set_option linter.unusedVariables false

theorem row_set16 {w : World} {g t m o : Nat} {f : Nat → Value} {v0 v1 v2 v3 v4 v5 v6 v7 v8 v9 v10 v11 v12 v13 v14 v15 : Value} (h : w.rowIs g t m f) :
    ∃ f', ((((((((((((((((w.setCell ⟨g, o, none⟩ v0).setCell ⟨g, o + 1, none⟩ v1).setCell ⟨g, o + 2, none⟩ v2).setCell ⟨g, o + 3, none⟩ v3).setCell ⟨g, o + 4, none⟩ v4).setCell ⟨g, o + 5, none⟩ v5).setCell ⟨g, o + 6, none⟩ v6).setCell ⟨g, o + 7, none⟩ v7).setCell ⟨g, o + 8, none⟩ v8).setCell ⟨g, o + 9, none⟩ v9).setCell ⟨g, o + 10, none⟩ v10).setCell ⟨g, o + 11, none⟩ v11).setCell ⟨g, o + 12, none⟩ v12).setCell ⟨g, o + 13, none⟩ v13).setCell ⟨g, o + 14, none⟩ v14).setCell ⟨g, o + 15, none⟩ v15).rowIs g t m f' ∧ f' (o + 6) = v6 ∧ f' (o + 10) = v10 ∧ f' (o + 11) = v11 ∧ f' (o + 13) = v13 ∧ f' (o + 14) = v14 ∧ f' (o + 15) = v15 ∧ ∀ j, (j < o ∨ o + 16 ≤ j) → f' j = f j := by
  refine ⟨_, ((((((((((((((((h.set _ v0).set _ v1).set _ v2).set _ v3).set _ v4).set _ v5).set _ v6).set _ v7).set _ v8).set _ v9).set _ v10).set _ v11).set _ v12).set _ v13).set _ v14).set _ v15), ?_, ?_, ?_, ?_, ?_, ?_, fun j hj => ?_⟩
  · simp
  · simp
  · simp
  · simp
  · simp
  · simp
  · have e : ∀ d, d < 16 → j ≠ o + d := fun d hd => by omega
    have e0 : j ≠ o := by omega
    simp [e0, e 1, e 2, e 3, e 4, e 5, e 6, e 7, e 8, e 9, e 10, e 11, e 12, e 13, e 14, e 15]

theorem info60 : (Try.prog.info? 60).map (fun i => (i.zero, i.size, i.bytes)) = some (some (.agg #[.int .u64 0, .int .u64 0, .int .u64 0, .int .u64 0, .int .u64 0, .int .u64 0, .int .i32 0, .int .u64 0, .int .u64 0, .int .u64 0, .int .i32 0, .bool false, .bool false, .slice none 0 0, .slice none 0 0, .slice none 0 0]), 16, 168) := by kernel_rfl

set_option maxRecDepth 20000 in
set_option maxHeartbeats 4000000 in
theorem relTables_any (a : Addr) (tn tcap nd : Nat) (T : Nat → Tab) (w : World) (hnd : nd < tn) (htn : tn ≤ 1048576) (h : RowIn w 0 (some a) tn 7 (fun k c => (T k).cell c)) (hok : ∀ i, i < tn → (T i).Ok w) (hfit : ∀ i, i < tn → (T i).Fits) :
    Calls Try.prog 27 #[.slice (some a) tn tcap] w fun e w' => ∃ g ao1 cap1 ao2 cap2 ao3 cap3, e = .returned (.slice (some ⟨g, 0, none⟩) tn tn) ∧ g < w'.heap.size ∧ w'.cell? ⟨g, nd * 16 + 6, none⟩ = some (.int .i32 (T nd).p) ∧ w'.cell? ⟨g, nd * 16 + 10, none⟩ = some (.int .i32 (T nd).s) ∧ w'.cell? ⟨g, nd * 16 + 11, none⟩ = some (.bool (T nd).np) ∧ w'.cell? ⟨g, nd * 16 + 13, none⟩ = some (.slice ao1 (T nd).n cap1) ∧ w'.cell? ⟨g, nd * 16 + 14, none⟩ = some (.slice ao2 (T nd).m cap2) ∧ w'.cell? ⟨g, nd * 16 + 15, none⟩ = some (.slice ao3 (T nd).l cap3) ∧ IsSl w' w.heap.size (.slice ao1 (T nd).n cap1) (T nd).n 4 (prV (T nd).x) ∧ IsSl w' w.heap.size (.slice ao2 (T nd).m cap2) (T nd).m 5 (fgV (T nd).fx (T nd).fb) ∧ IsSl w' w.heap.size (.slice ao3 (T nd).l cap3) (T nd).l 5 (fgV (T nd).bx (T nd).bb) ∧ Below w.heap.size w w' := by
  have hnil := fun w => Lib.run_eql_slice_nil (P := Try.prog) w 22 33 (some a) tn tcap 0 0 Try.underlying22
  have hmk := run_make_any (P := Try.prog) 62 60 _ 16 168 Try.underlying62 info60 .i64 .i64 tn (by omega) (by omega)
  go_enter Try.func27, Try.ntmps27
  go_wp2
  clear hnil hmk
  go_loopw [4] (fun i wr => ∃ k : Nat, k ≤ tn ∧ i = .int .i64 k ∧ Below w.heap.size w wr ∧ w.heap.size < wr.heap.size ∧ ∃ f, wr.rowIs w.heap.size 60 (tn * 16) f ∧ (nd < k → ∃ ao1 cap1 ao2 cap2 ao3 cap3, f (nd * 16 + 6) = (.int .i32 (T nd).p) ∧ f (nd * 16 + 10) = (.int .i32 (T nd).s) ∧ f (nd * 16 + 11) = (.bool (T nd).np) ∧ f (nd * 16 + 13) = (.slice ao1 (T nd).n cap1) ∧ f (nd * 16 + 14) = (.slice ao2 (T nd).m cap2) ∧ f (nd * 16 + 15) = (.slice ao3 (T nd).l cap3) ∧ IsSl wr (w.heap.size + 1) (.slice ao1 (T nd).n cap1) (T nd).n 4 (prV (T nd).x) ∧ IsSl wr (w.heap.size + 1) (.slice ao2 (T nd).m cap2) (T nd).m 5 (fgV (T nd).fx (T nd).fb) ∧ IsSl wr (w.heap.size + 1) (.slice ao3 (T nd).l cap3) (T nd).l 5 (fgV (T nd).bx (T nd).bb))) (fun i _ => tn - (intOf i).toNat)
  case atStart =>
    have h1 := rowIs_made_any w #[.int .u64 0, .int .u64 0, .int .u64 0, .int .u64 0, .int .u64 0, .int .u64 0, .int .i32 0, .int .u64 0, .int .u64 0, .int .u64 0, .int .i32 0, .bool false, .bool false, .slice none 0 0, .slice none 0 0, .slice none 0 0] (tn * 16) 60
    exact ⟨0, Nat.zero_le _, rfl, (Below.refl _ _).alloc (Nat.le_refl _) _, by simp, _, h1, fun h => by omega⟩
  case round =>
    obtain ⟨k, hk, rfl, hbel, hsz, f, hrow, hf⟩ := hrel
    by_cases hlt : k < tn
    · rcases h with h | ⟨b, o, hab, _, hbl, hc⟩
      · omega
      · cases hab
        obtain ⟨c0, c1, c2, c3, c4, c5, c6⟩ := tab_cells (w := wr) (fun k hk c hc' => (hbel.cell (p := ⟨b, o + k * 7 + c, none⟩) hbl).trans (hc k hk c hc')) k hlt
        have okk := (hok k hlt)
        obtain ⟨f1, f2, f3⟩ := hfit k hlt
        have r1 := okk.rx.below hbel (Nat.le_refl _)
        have r2 := okk.rf.below hbel (Nat.le_refl _)
        have r3 := okk.rb.below hbel (Nat.le_refl _)
        have HF : Hid _ := hf
        clear hc hf
        go_wp2_with fail
        refine (relaxedTable_any (T k).p (T k).s (T k).np (T k).qp (T k).fo (T k).n (T k).cap (T k).x (T k).fa (T k).m (T k).mcap (T k).fx (T k).fb (T k).ba (T k).l (T k).lcap (T k).bx (T k).bb _ f1 okk.fo r1 f2 okk.fa r2 f3 okk.ba r3).mono ?_
        rintro e w1 ⟨t1, t2, t3, rfl, ⟨bo1, bp1, rfl, kx1⟩, ⟨bo2, bp2, rfl, kx2⟩, ⟨bo3, bp3, rfl, kx3⟩, hb1⟩
        · have T1 : IsSl w1 _ (.slice bo1 (T k).n bp1) (T k).n 4 (prV (T k).x) := ⟨_, _, rfl, kx1⟩
          have T2 : IsSl w1 _ (.slice bo2 (T k).m bp2) (T k).m 5 (fgV (T k).fx (T k).fb) := ⟨_, _, rfl, kx2⟩
          have T3 : IsSl w1 _ (.slice bo3 (T k).l bp3) (T k).l 5 (fgV (T k).bx (T k).bb) := ⟨_, _, rfl, kx3⟩
          have hlo : w.heap.size + 1 ≤ wr.heap.size := hsz
          have hrow1 := rowIs_keep hrow hb1 (Nat.le_refl _)
          have hbel1 := hbel.trans (hb1.mono hbel.size)
          have q0 : w1.cell? ⟨w.heap.size, k * 16, none⟩ = some (f (k * 16 + 0)) := hrow1.cell (by omega)
          have q1 : w1.cell? ⟨w.heap.size, k * 16 + 1, none⟩ = some (f (k * 16 + 1)) := hrow1.cell (by omega)
          have q2 : w1.cell? ⟨w.heap.size, k * 16 + 2, none⟩ = some (f (k * 16 + 2)) := hrow1.cell (by omega)
          have q3 : w1.cell? ⟨w.heap.size, k * 16 + 3, none⟩ = some (f (k * 16 + 3)) := hrow1.cell (by omega)
          have q4 : w1.cell? ⟨w.heap.size, k * 16 + 4, none⟩ = some (f (k * 16 + 4)) := hrow1.cell (by omega)
          have q5 : w1.cell? ⟨w.heap.size, k * 16 + 5, none⟩ = some (f (k * 16 + 5)) := hrow1.cell (by omega)
          have q6 : w1.cell? ⟨w.heap.size, k * 16 + 6, none⟩ = some (f (k * 16 + 6)) := hrow1.cell (by omega)
          have q7 : w1.cell? ⟨w.heap.size, k * 16 + 7, none⟩ = some (f (k * 16 + 7)) := hrow1.cell (by omega)
          have q8 : w1.cell? ⟨w.heap.size, k * 16 + 8, none⟩ = some (f (k * 16 + 8)) := hrow1.cell (by omega)
          have q9 : w1.cell? ⟨w.heap.size, k * 16 + 9, none⟩ = some (f (k * 16 + 9)) := hrow1.cell (by omega)
          have q10 : w1.cell? ⟨w.heap.size, k * 16 + 10, none⟩ = some (f (k * 16 + 10)) := hrow1.cell (by omega)
          have q11 : w1.cell? ⟨w.heap.size, k * 16 + 11, none⟩ = some (f (k * 16 + 11)) := hrow1.cell (by omega)
          have q12 : w1.cell? ⟨w.heap.size, k * 16 + 12, none⟩ = some (f (k * 16 + 12)) := hrow1.cell (by omega)
          have q13 : w1.cell? ⟨w.heap.size, k * 16 + 13, none⟩ = some (f (k * 16 + 13)) := hrow1.cell (by omega)
          have q14 : w1.cell? ⟨w.heap.size, k * 16 + 14, none⟩ = some (f (k * 16 + 14)) := hrow1.cell (by omega)
          have q15 : w1.cell? ⟨w.heap.size, k * 16 + 15, none⟩ = some (f (k * 16 + 15)) := hrow1.cell (by omega)
          have qf : ∀ i, w1.frozen? ⟨w.heap.size, i, none⟩ = false := fun i => hrow1.frozen i
          clear c0 c1 c2 c3 c4 c5 c6 r1 r2 r3
          go_wp2
          go_roundw
          case rel =>
            obtain ⟨f', R, y6, y10, y11, y13, y14, y15, yo⟩ := row_set16 (o := k * 16) (v0 := .int .u64 0) (v1 := .int .u64 0) (v2 := .int .u64 0) (v3 := .int .u64 0) (v4 := .int .u64 0) (v5 := .int .u64 0) (v6 := .int .i32 (T k).p) (v7 := .int .u64 0) (v8 := .int .u64 0) (v9 := .int .u64 0) (v10 := .int .i32 (T k).s) (v11 := .bool (T k).np) (v12 := .bool (T k).qp) (v13 := .slice bo1 (T k).n bp1) (v14 := .slice bo2 (T k).m bp2) (v15 := .slice bo3 (T k).l bp3) hrow1
            refine ⟨k + 1, by omega, by go_num, below_set16 hbel1 (Nat.le_refl _), by simp [World.setCell]; exact Nat.lt_of_lt_of_le hsz hb1.size, f', R, fun hnk => ?_⟩
            by_cases hkn : k = nd
            · subst hkn
              exact ⟨bo1, bp1, bo2, bp2, bo3, bp3, y6, y10, y11, y13, y14, y15, (isSl_set16 (T1.lower hlo) (by omega)), (isSl_set16 (T2.lower hlo) (by omega)), (isSl_set16 (T3.lower hlo) (by omega))⟩
            · obtain ⟨ao1, cap1, ao2, cap2, ao3, cap3, a6, a10, a11, a13, a14, a15, i1, i2, i3⟩ := HF.out (by omega)
              exact ⟨ao1, cap1, ao2, cap2, ao3, cap3, by rw [yo _ (by omega)]; exact a6, by rw [yo _ (by omega)]; exact a10, by rw [yo _ (by omega)]; exact a11, by rw [yo _ (by omega)]; exact a13, by rw [yo _ (by omega)]; exact a14, by rw [yo _ (by omega)]; exact a15, (isSl_set16 (i1.below hb1 (Nat.le_refl _)) (by omega)), (isSl_set16 (i2.below hb1 (Nat.le_refl _)) (by omega)), (isSl_set16 (i3.below hb1 (Nat.le_refl _)) (by omega))⟩
          case measure => simp [intOf]; omega
    · obtain ⟨ao1, cap1, ao2, cap2, ao3, cap3, a6, a10, a11, a13, a14, a15, i1, i2, i3⟩ := hf (by omega)
      go_wp2
      go_ret
      exact ⟨w.heap.size, ao1, cap1, ao2, cap2, ao3, cap3, rfl, hsz, by rw [hrow.cell (by omega), a6], by rw [hrow.cell (by omega), a10], by rw [hrow.cell (by omega), a11], by rw [hrow.cell (by omega), a13], by rw [hrow.cell (by omega), a14], by rw [hrow.cell (by omega), a15], i1.lower (by omega), i2.lower (by omega), i3.lower (by omega), hbel⟩
end Go.Proofs.Qxb6600017a
