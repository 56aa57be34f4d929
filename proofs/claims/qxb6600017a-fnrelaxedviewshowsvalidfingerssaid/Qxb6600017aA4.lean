import Derived.Test.Qxb6600017aA1
import Derived.Deep.RegionHeld3
import Derived.Deep.Light
namespace Go.Proofs.Qxb6600017a
open Go.RowKit

theorem info47 : (Try.prog.info? 47).map (fun i => (i.zero, i.size, i.bytes)) = some (some (.agg #[.int .u64 0, .int .u64 0, .int .u64 0, .int .i32 0]), 4, 32) := by kernel_rfl

/-- A peer's cells. -/
def prV (x : Nat → Int) (k c : Nat) : Value := if c = 3 then .int .i32 (x k) else .int .u64 0


theorem pr_store {w : World} {g t n k : Nat} {f : Nat → Value} {x : Nat → Int} (h : w.rowIs g t n f) (hf : ∀ j, j < k → ∀ c, c < 4 → f (j * 4 + c) = prV x j c) :
    ∃ f', ((((w.setCell ⟨g, k * 4, none⟩ (.int .u64 0)).setCell ⟨g, k * 4 + 1, none⟩ (.int .u64 0)).setCell ⟨g, k * 4 + 2, none⟩ (.int .u64 0)).setCell ⟨g, k * 4 + 3, none⟩ (.int .i32 (x k))).rowIs g t n f' ∧
      ∀ j, j < k + 1 → ∀ c, c < 4 → f' (j * 4 + c) = prV x j c := by
  refine ⟨_, (((h.set _ _).set _ _).set _ _).set _ _, fun j hj c hc => ?_⟩
  by_cases hjk : j = k
  · subst hjk
    rcases (by omega : c = 0 ∨ c = 1 ∨ c = 2 ∨ c = 3) with rfl | rfl | rfl | rfl <;> simp [prV]
  · have e0 : ∀ d, d < 4 → j * 4 + c ≠ k * 4 + d := fun d hd => by omega
    rw [← hf j (by omega) c hc]
    simp [e0 1, e0 2, e0 3]
    exact fun h => absurd h (e0 0 (by omega))

set_option maxHeartbeats 1000000 in
theorem nb_some (p s : Int) (np qp : Bool) (a : Addr) (n cap : Nat) (fw bk : Value) (x : Nat → Int) (w : World) (hn : n ≤ 1048576) (h : RowIn w 0 (some a) n 1 (fun k _ => .int .i32 (x k))) :
    Calls Try.prog 38 #[.agg #[.int .i32 p, .int .i32 s, .bool np, .bool qp, .slice (some a) n cap, fw, bk]] w fun e w' => ∃ v, e = .returned (.agg #[.int .u64 0, .int .u64 0, .int .u64 0, .int .i32 p, .int .u64 0, .int .u64 0, .int .u64 0, .int .i32 s, .bool np, .bool qp, v]) ∧
      IsSl w' w.heap.size v n 4 (prV x) ∧ Below w.heap.size w w' := by
  have hnil := fun w => run_neq_slice_nil_any (P := Try.prog) w 30 21 (some a) n cap 0 0 Try.underlying30
  have hmk := run_make_any (P := Try.prog) 48 47 _ 4 32 Try.underlying48 info47 .i64 .i64 n (by omega) (by omega)
  go_enter Try.func38, Try.ntmps38
  go_wp2
  clear hnil hmk
  go_loopw [4] (fun i wr => ∃ k : Nat, k ≤ n ∧ i = .int .i64 k ∧ Below w.heap.size w wr ∧ w.heap.size + 2 < wr.heap.size ∧
      wr.heap[w.heap.size]? = some (.cells #[.int .i32 p, .int .i32 s, .bool np, .bool qp, .slice (some a) n cap, fw, bk] 33 (0, 0)) ∧
      wr.heap[w.heap.size + 1]? = some (.cells #[.int .u64 0, .int .u64 0, .int .u64 0, .int .i32 0, .int .u64 0, .int .u64 0, .int .u64 0, .int .i32 0, .bool false, .bool false, .slice none 0 0] 50 (0, 0)) ∧
      ∃ f, wr.rowIs (w.heap.size + 1 + 1) 47 (n * 4) f ∧ ∀ j, j < k → ∀ c, c < 4 → f (j * 4 + c) = prV x j c) (fun i _ => n - (intOf i).toNat)
  case atStart =>
    refine ⟨0, Nat.zero_le _, rfl, (((Below.refl _ _).alloc (Nat.le_refl _) _).alloc (by simp) _).alloc (by simp; omega) _, by simp, ?_, ?_, ?_⟩
    · exact blk_alloc (blk_alloc (blk_new _ _ rfl) _) _
    · exact blk_alloc (blk_new _ _ (by simp)) _
    · refine ⟨_, rowIs_made_at _ #[.int .u64 0, .int .u64 0, .int .u64 0, .int .i32 0] (n * 4) 47 (by simp), fun j hj => by omega⟩
  case round =>
    obtain ⟨k, hk, rfl, hbel, hsz, h33, h50, f, hrow, hf⟩ := hrel
    have c4 : wr.cell? ⟨w.heap.size, 4, none⟩ = some (.slice (some a) n cap) := by rw [cell_at h33]; rfl
    by_cases hlt : k < n
    · rcases h with h | ⟨b, o, hab, _, hbl, hc⟩
      · omega
      · cases hab
        have hck : wr.cell? ⟨b, o + k, none⟩ = some (.int .i32 (x k)) := by
          rw [hbel.cell (p := ⟨b, o + k, none⟩) hbl]
          simpa using hc k hlt 0 (by omega)
        clear hc
        have H33 : Hid _ := h33
        have H50 : Hid _ := h50
        have HR : Hid _ := hrow
        clear h33 h50 hrow
        go_wp2_with (first | (go_at_call 41; refine (peer_any _ _).mono ?_; rintro e w1 ⟨rfl, hb1⟩; have hrow1 : w1.rowIs (w.heap.size + 1 + 1) 47 (n * 4) f := rowIs_keep HR.out hb1 (Nat.le_refl _); have q0 : w1.cell? ⟨w.heap.size + 1 + 1, k * 4, none⟩ = some (f (k * 4)) := hrow1.cell (by omega); have q1 : w1.cell? ⟨w.heap.size + 1 + 1, k * 4 + 1, none⟩ = some (f (k * 4 + 1)) := hrow1.cell (by omega); have q2 : w1.cell? ⟨w.heap.size + 1 + 1, k * 4 + 2, none⟩ = some (f (k * 4 + 2)) := hrow1.cell (by omega); have q3 : w1.cell? ⟨w.heap.size + 1 + 1, k * 4 + 3, none⟩ = some (f (k * 4 + 3)) := hrow1.cell (by omega); have qf : ∀ i, w1.frozen? ⟨w.heap.size + 1 + 1, i, none⟩ = false := fun i => hrow1.frozen i))
        go_roundw
        case rel =>
          have hb1 : Below wr.heap.size wr w1 := by assumption
          refine ⟨k + 1, by omega, by go_num, ?_, ?_, ?_, ?_, pr_store (by assumption) hf⟩
          · exact ((((hbel.trans (hb1.mono hbel.size)).setCell (by simp; omega) _).setCell (by simp; omega) _).setCell (by simp; omega) _).setCell (by simp; omega) _
          · simp [World.setCell]; exact Nat.lt_of_lt_of_le hsz hb1.size
          · exact blk_set (blk_set (blk_set (blk_set (blk_keep H33.out hb1 (Nat.le_refl _)) (by simp; omega) _) (by simp; omega) _) (by simp; omega) _) (by simp; omega) _
          · exact blk_set (blk_set (blk_set (blk_set (blk_keep H50.out hb1 (Nat.le_refl _)) (by simp) _) (by simp) _) (by simp) _) (by simp) _
        case measure => simp [intOf]; omega
    · go_wp2
      have HS : ∀ w', Below w.heap.size w w' → w'.heap[w.heap.size]? = some (.cells #[.int .i32 p, .int .i32 s, .bool np, .bool qp, .slice (some a) n cap, fw, bk] 33 (0, 0)) →
          w'.cell? ⟨w.heap.size, 0, none⟩ = some (.int .i32 p) ∧ w'.cell? ⟨w.heap.size, 1, none⟩ = some (.int .i32 s) ∧ w'.cell? ⟨w.heap.size, 2, none⟩ = some (.bool np) ∧ w'.cell? ⟨w.heap.size, 3, none⟩ = some (.bool qp) ∧ Below w.heap.size w w' :=
        fun w' hb' h' => ⟨by rw [cell_at h']; rfl, by rw [cell_at h']; rfl, by rw [cell_at h']; rfl, by rw [cell_at h']; rfl, hb'⟩
      have hfin : IsSl wr (w.heap.size + 2) (.slice (some ⟨w.heap.size + 1 + 1, 0, none⟩) n n) n 4 (prV x) := isSl_of_rowIs hrow _ (Nat.le_refl _) (fun j hj c hc => hf j (by omega) c hc)
      clear hrow hf c4
      go_region_held3 (fun w' => w'.cell? ⟨w.heap.size, 0, none⟩ = some (.int .i32 p) ∧ w'.cell? ⟨w.heap.size, 1, none⟩ = some (.int .i32 s) ∧ w'.cell? ⟨w.heap.size, 2, none⟩ = some (.bool np) ∧ w'.cell? ⟨w.heap.size, 3, none⟩ = some (.bool qp) ∧ Below w.heap.size w w')
        (first | with_reducible exact HS _ hbel.drew (blk_drew h33) | with_reducible exact HS _ hbelN h33N | with_reducible exact HS _ (below_set11z hbelN (Nat.le_succ _)) (blk_set11z h33N (by omega)))
        (first | (go_at_call 41; refine (peer_any _ _).mono ?_; rintro e w1 ⟨rfl, hb1⟩; (have h50N : w1.heap[w.heap.size + 1]? = some (.cells #[.int .u64 0, .int .u64 0, .int .u64 0, .int .i32 0, .int .u64 0, .int .u64 0, .int .u64 0, .int .i32 0, .bool false, .bool false, .slice none 0 0] 50 (0, 0)) := (by first | exact blk_keep h50N hb1 (Nat.le_refl _) | exact blk_keep (blk_drew h50) hb1 (Nat.le_refl _))); (have h33N : w1.heap[w.heap.size]? = some (.cells #[.int .i32 p, .int .i32 s, .bool np, .bool qp, .slice (some a) n cap, fw, bk] 33 (0, 0)) := (by first | exact blk_keep h33N hb1 (Nat.le_refl _) | exact blk_keep (blk_drew h33) hb1 (Nat.le_refl _))); (have hfinN : IsSl w1 (w.heap.size + 2) (.slice (some ⟨w.heap.size + 1 + 1, 0, none⟩) n n) n 4 (prV x) := (by first | exact hfinN.below hb1 (Nat.le_refl _) | exact IsSl.below (w := wr.drew) hfin hb1 (Nat.le_refl _))); (have hbelN : Below w.heap.size w w1 := (by first | exact hbelN.trans (hb1.mono hbelN.size) | exact hbel.drew.trans (hb1.mono hbel.size))); (have qc : ∀ i, w1.cell? ⟨w.heap.size + 1, i, none⟩ = (#[.int .u64 0, .int .u64 0, .int .u64 0, .int .i32 0, .int .u64 0, .int .u64 0, .int .u64 0, .int .i32 0, .bool false, .bool false, .slice none 0 0] : Array Value)[i]? := fun i => cell_at h50N); (have qf : ∀ i, w1.frozen? ⟨w.heap.size + 1, i, none⟩ = false := fun i => free_at h50N)))
      have R := blk_full11 (v0 := .int .u64 0) (v1 := .int .u64 0) (v2 := .int .u64 0) (v3 := .int .i32 p) (v4 := .int .u64 0) (v5 := .int .u64 0) (v6 := .int .u64 0) (v7 := .int .i32 s) (v8 := .bool np) (v9 := .bool qp) (v10 := .slice (some ⟨w.heap.size + 1 + 1, 0, none⟩) n n) h50N
      go_wp2
      refine bodyPost_ret (results_cell_row (P := Try.prog) (fn := Try.f38) (by rfl) _ _ (w.heap.size + 1) 50 _ (0, 0) _ (by rfl) R Try.underlying50 rfl (by kernel_rfl)) rfl ⟨_, rfl, (isSl_set11z hfinN (by omega)).lower (by omega), below_set11z hbelN (by omega)⟩

set_option maxHeartbeats 1000000 in
theorem nb_nil (p s : Int) (np qp : Bool) (fw bk : Value) (x : Nat → Int) (w : World) :
    Calls Try.prog 38 #[.agg #[.int .i32 p, .int .i32 s, .bool np, .bool qp, .slice none 0 0, fw, bk]] w fun e w' => ∃ v, e = .returned (.agg #[.int .u64 0, .int .u64 0, .int .u64 0, .int .i32 p, .int .u64 0, .int .u64 0, .int .u64 0, .int .i32 s, .bool np, .bool qp, v]) ∧
      IsSl w' w.heap.size v 0 4 (prV x) ∧ Below w.heap.size w w' := by
  have hnil := fun w => run_neq_slice_nil_any (P := Try.prog) w 30 21 none 0 0 0 0 Try.underlying30
  go_enter Try.func38, Try.ntmps38
  go_wp2
  clear hnil
  have hbel : Below w.heap.size w ((w.alloc (.cells #[.int .i32 p, .int .i32 s, .bool np, .bool qp, .slice none 0 0, fw, bk] 33)).alloc (.cells #[.int .u64 0, .int .u64 0, .int .u64 0, .int .i32 0, .int .u64 0, .int .u64 0, .int .u64 0, .int .i32 0, .bool false, .bool false, .slice none 0 0] 50)) := ((Below.refl _ _).alloc (Nat.le_refl _) _).alloc (by simp) _
  have h33 : ((w.alloc (.cells #[.int .i32 p, .int .i32 s, .bool np, .bool qp, .slice none 0 0, fw, bk] 33)).alloc (.cells #[.int .u64 0, .int .u64 0, .int .u64 0, .int .i32 0, .int .u64 0, .int .u64 0, .int .u64 0, .int .i32 0, .bool false, .bool false, .slice none 0 0] 50)).heap[w.heap.size]? = some (.cells #[.int .i32 p, .int .i32 s, .bool np, .bool qp, .slice none 0 0, fw, bk] 33 (0, 0)) := blk_alloc (blk_new _ _ rfl) _
  have h50 : ((w.alloc (.cells #[.int .i32 p, .int .i32 s, .bool np, .bool qp, .slice none 0 0, fw, bk] 33)).alloc (.cells #[.int .u64 0, .int .u64 0, .int .u64 0, .int .i32 0, .int .u64 0, .int .u64 0, .int .u64 0, .int .i32 0, .bool false, .bool false, .slice none 0 0] 50)).heap[w.heap.size + 1]? = some (.cells #[.int .u64 0, .int .u64 0, .int .u64 0, .int .i32 0, .int .u64 0, .int .u64 0, .int .u64 0, .int .i32 0, .bool false, .bool false, .slice none 0 0] 50 (0, 0)) := blk_new _ _ (by simp)
  generalize (w.alloc (.cells #[.int .i32 p, .int .i32 s, .bool np, .bool qp, .slice none 0 0, fw, bk] 33)).alloc (.cells #[.int .u64 0, .int .u64 0, .int .u64 0, .int .i32 0, .int .u64 0, .int .u64 0, .int .u64 0, .int .i32 0, .bool false, .bool false, .slice none 0 0] 50) = wr at hbel h33 h50 ⊢
  have HS : ∀ w', Below w.heap.size w w' → w'.heap[w.heap.size]? = some (.cells #[.int .i32 p, .int .i32 s, .bool np, .bool qp, .slice none 0 0, fw, bk] 33 (0, 0)) →
      w'.cell? ⟨w.heap.size, 0, none⟩ = some (.int .i32 p) ∧ w'.cell? ⟨w.heap.size, 1, none⟩ = some (.int .i32 s) ∧ w'.cell? ⟨w.heap.size, 2, none⟩ = some (.bool np) ∧ w'.cell? ⟨w.heap.size, 3, none⟩ = some (.bool qp) ∧ Below w.heap.size w w' :=
    fun w' hb' h' => ⟨by rw [cell_at h']; rfl, by rw [cell_at h']; rfl, by rw [cell_at h']; rfl, by rw [cell_at h']; rfl, hb'⟩
  have hfin : IsSl wr (w.heap.size + 2) (.slice none 0 0) 0 4 (prV x) := IsSl.nil _ _ _ _
  go_region_held3 (fun w' => w'.cell? ⟨w.heap.size, 0, none⟩ = some (.int .i32 p) ∧ w'.cell? ⟨w.heap.size, 1, none⟩ = some (.int .i32 s) ∧ w'.cell? ⟨w.heap.size, 2, none⟩ = some (.bool np) ∧ w'.cell? ⟨w.heap.size, 3, none⟩ = some (.bool qp) ∧ Below w.heap.size w w')
    (first | with_reducible exact HS _ hbel.drew (blk_drew h33) | with_reducible exact HS _ hbelN h33N | with_reducible exact HS _ (below_set11z hbelN (Nat.le_succ _)) (blk_set11z h33N (by omega)))
    (first | (go_at_call 41; refine (peer_any _ _).mono ?_; rintro e w1 ⟨rfl, hb1⟩; (have h50N : w1.heap[w.heap.size + 1]? = some (.cells #[.int .u64 0, .int .u64 0, .int .u64 0, .int .i32 0, .int .u64 0, .int .u64 0, .int .u64 0, .int .i32 0, .bool false, .bool false, .slice none 0 0] 50 (0, 0)) := (by first | exact blk_keep h50N hb1 (Nat.le_refl _) | exact blk_keep (blk_drew h50) hb1 (Nat.le_refl _))); (have h33N : w1.heap[w.heap.size]? = some (.cells #[.int .i32 p, .int .i32 s, .bool np, .bool qp, .slice none 0 0, fw, bk] 33 (0, 0)) := (by first | exact blk_keep h33N hb1 (Nat.le_refl _) | exact blk_keep (blk_drew h33) hb1 (Nat.le_refl _))); (have hfinN : IsSl w1 (w.heap.size + 2) (.slice none 0 0) 0 4 (prV x) := (by first | exact hfinN.below hb1 (Nat.le_refl _) | exact IsSl.below (w := wr.drew) hfin hb1 (Nat.le_refl _))); (have hbelN : Below w.heap.size w w1 := (by first | exact hbelN.trans (hb1.mono hbelN.size) | exact hbel.drew.trans (hb1.mono hbel.size))); (have qc : ∀ i, w1.cell? ⟨w.heap.size + 1, i, none⟩ = (#[.int .u64 0, .int .u64 0, .int .u64 0, .int .i32 0, .int .u64 0, .int .u64 0, .int .u64 0, .int .i32 0, .bool false, .bool false, .slice none 0 0] : Array Value)[i]? := fun i => cell_at h50N); (have qf : ∀ i, w1.frozen? ⟨w.heap.size + 1, i, none⟩ = false := fun i => free_at h50N)))
  have R := blk_full11 (v0 := .int .u64 0) (v1 := .int .u64 0) (v2 := .int .u64 0) (v3 := .int .i32 p) (v4 := .int .u64 0) (v5 := .int .u64 0) (v6 := .int .u64 0) (v7 := .int .i32 s) (v8 := .bool np) (v9 := .bool qp) (v10 := .slice none 0 0) h50N
  go_wp2
  refine bodyPost_ret (results_cell_row (P := Try.prog) (fn := Try.f38) (by rfl) _ _ (w.heap.size + 1) 50 _ (0, 0) _ (by rfl) R Try.underlying50 rfl (by kernel_rfl)) rfl ⟨_, rfl, (isSl_set11z hfinN (by omega)).lower (by omega), below_set11z hbelN (by omega)⟩

theorem nb_any (p s : Int) (np qp : Bool) (ao : Option Addr) (n cap : Nat) (fw bk : Value) (x : Nat → Int) (w : World) (hn : n ≤ 1048576) (hnl : ao = none → n = 0 ∧ cap = 0) (h : RowIn w 0 ao n 1 (fun k _ => .int .i32 (x k))) :
    Calls Try.prog 38 #[.agg #[.int .i32 p, .int .i32 s, .bool np, .bool qp, .slice ao n cap, fw, bk]] w fun e w' => ∃ v, e = .returned (.agg #[.int .u64 0, .int .u64 0, .int .u64 0, .int .i32 p, .int .u64 0, .int .u64 0, .int .u64 0, .int .i32 s, .bool np, .bool qp, v]) ∧
      IsSl w' w.heap.size v n 4 (prV x) ∧ Below w.heap.size w w' := by
  cases ao with
  | some a => exact nb_some p s np qp a n cap fw bk x w hn h
  | none =>
    obtain ⟨rfl, rfl⟩ := hnl rfl
    exact nb_nil p s np qp fw bk x w
end Go.Proofs.Qxb6600017a
