import Derived.Test.Qxb6600117aA1
import Derived.Test.Qxb6600117aPlain
import Derived.Deep.RegionHeld3
import Derived.Deep.DeepCutAuto
import Derived.BigRegion
namespace Go.Proofs.Qxb6600117a
open Go.RowKit
set_option linter.unusedSimpArgs false
set_option linter.unusedVariables false

theorem made0 (w : World) (m : Nat) {b : Nat} (hb : b = w.heap.size) : (w.alloc (.cells (madeCells #[.int .i64 0] m) 3)).rowIs b 3 m (fun _ => .int .i64 0) := by
  subst hb; exact World.rowIs_made w (.int .i64 0) m 3

/-- The starts while they are counted; while they are summed; the next free place. -/
def st1 (N : Nat → Nat) (k j : Nat) : Int := if j = 0 then 0 else (cnt N (j - 1) k : Nat)
def st2 (N : Nat → Nat) (n t j : Nat) : Int := if j ≤ t then (lt N j n : Nat) else (cnt N (j - 1) n : Nat)
def nx (N : Nat → Nat) (n k j : Nat) : Int := (lt N j n : Nat) + (cnt N j k : Nat)

theorem st1_step (N : Nat → Nat) (k j : Nat) : (if j = N k + 1 then Value.int .i64 (st1 N k (N k + 1) + 1) else .int .i64 (st1 N k j)) = .int .i64 (st1 N (k + 1) j) := by
  by_cases h : j = N k + 1
  · subst h; simp [st1, cnt_succ]
  · rw [if_neg h]
    by_cases h0 : j = 0
    · simp [st1, h0]
    · have : ¬ N k = j - 1 := by omega
      simp [st1, h0, cnt_succ, this]
theorem st1_st2 (N : Nat → Nat) (n j : Nat) : st1 N n j = st2 N n 0 j := by
  by_cases h0 : j = 0
  · simp [st1, st2, h0, lt_zero]
  · have : ¬ j ≤ 0 := by omega
    simp [st1, st2, h0]
theorem st2_step (N : Nat → Nat) (n t j : Nat) : (if j = t + 1 then Value.int .i64 (st2 N n t (t + 1) + st2 N n t t) else .int .i64 (st2 N n t j)) = .int .i64 (st2 N n (t + 1) j) := by
  by_cases h : j = t + 1
  · subst h
    have : ¬ t + 1 ≤ t := by omega
    simp [st2, this, lt_succ]; omega
  · rw [if_neg h]
    by_cases h1 : j ≤ t
    · have : j ≤ t + 1 := by omega
      simp [st2, h1, this]
    · have : ¬ j ≤ t + 1 := by omega
      simp [st2, h1, this]
theorem nx_step (N : Nat → Nat) (n k j : Nat) : (if j = N k then Value.int .i64 (nx N n k (N k) + 1) else .int .i64 (nx N n k j)) = .int .i64 (nx N n (k + 1) j) := by
  by_cases h : j = N k
  · subst h; simp [nx, cnt_succ]; omega
  · have : ¬ N k = j := fun e => h e.symm
    simp [nx, h, cnt_succ, this]
theorem nx_slot (N : Nat → Nat) (n k : Nat) : nx N n k (N k) = ((slot N n k : Nat) : Int) := by simp [nx, slot]

set_option maxRecDepth 20000 in
set_option maxHeartbeats 4000000 in
theorem places_any (ao : Option Addr) (n cap c : Nat) (N : Nat → Nat) (w : World) (hn : n ≤ 65537) (hc : c ≤ 65536) (hN : ∀ i, i < n → N i < c) (h : RowIn w 0 ao n 1 (fun k _ => .int .i64 (N k : Int))) :
    Calls Try.prog 27 #[.slice ao n cap, .int .i64 c] w fun e w' => ∃ g1 g2, e = .returned (.agg #[.slice (some ⟨g1, 0, none⟩) (c + 1) (c + 1), .slice (some ⟨g2, 0, none⟩) n n]) ∧ w.heap.size ≤ g1 ∧ w.heap.size ≤ g2 ∧
      w'.rowIs g1 3 (c + 1) (fun j => .int .i64 (lt N j n : Nat)) ∧ (∃ AT : Nat → Int, w'.rowIs g2 3 n (fun j => .int .i64 (AT j)) ∧ ∀ i, i < n → AT (slot N n i) = (i : Int)) ∧ Below w.heap.size w w' := by
  have hm1 := run_make_any (P := Try.prog) 28 3 (.int .i64 0) 1 8 Try.underlying28 info3 .i64 .i64 (c + 1) (by omega) (by omega)
  have hm2 := run_make_any (P := Try.prog) 28 3 (.int .i64 0) 1 8 Try.underlying28 info3 .i64 .i64 n (by omega) (by omega)
  rw [show ((c + 1 : Nat) : Int) = (c : Int) + 1 by omega] at hm1
  go_enter Try.func27, Try.ntmps27
  go_wp2
  go_cut [5] (fun p5 wc => ∃ gp g1 g2, p5 = .pointer (some ⟨gp, 0, none⟩) ∧ w.heap.size < gp ∧ w.heap.size < g1 ∧ w.heap.size < g2 ∧ gp ≠ g1 ∧ gp ≠ g2 ∧ g1 ≠ g2 ∧ Below w.heap.size w wc ∧ wc.heap[w.heap.size]? = some (.cells #[.slice none 0 0, .slice none 0 0] 43 (0, 0)) ∧ wc.heap[gp]? = some (.cells #[.slice (some ⟨g1, 0, none⟩) (c + 1) (c + 1), .slice (some ⟨g2, 0, none⟩) n n] 43 (0, 0)) ∧ wc.rowIs g1 3 (c + 1) (fun _ => .int .i64 0) ∧ wc.rowIs g2 3 n (fun _ => .int .i64 0))
  case first =>
    go_region
    · go_wp2
      go_meet
      case rel => exact ⟨w.heap.size + 1 + 1 + 1, w.heap.size + 1, w.heap.size + 1 + 1, rfl, by omega, by omega, by omega, (by omega : w.heap.size + 1 + 1 + 1 ≠ w.heap.size + 1), (by omega : w.heap.size + 1 + 1 + 1 ≠ w.heap.size + 1 + 1), (by omega : w.heap.size + 1 ≠ w.heap.size + 1 + 1), ((((((Below.refl _ _).alloc (Nat.le_refl _) _).alloc (by simp) _).alloc (by simp; omega) _).alloc (by simp; omega) _)).drew, blk_drew (blk_alloc (blk_alloc (blk_alloc (blk_new _ _ rfl) _) _) _), blk_drew (blk_new _ _ (by simp)), World.rowIs.drew (((made0 _ (c + 1) (by simp)).alloc _).alloc _), World.rowIs.drew ((made0 _ (n) (by simp)).alloc _)⟩
    · go_wp2
      go_meet
      case rel => exact ⟨w.heap.size + 1 + 1, w.heap.size + 1, w.heap.size + 1 + 1 + 1, rfl, by omega, by omega, by omega, (by omega : w.heap.size + 1 + 1 ≠ w.heap.size + 1), (by omega : w.heap.size + 1 + 1 ≠ w.heap.size + 1 + 1 + 1), (by omega : w.heap.size + 1 ≠ w.heap.size + 1 + 1 + 1), ((((((Below.refl _ _).alloc (Nat.le_refl _) _).alloc (by simp) _).alloc (by simp; omega) _).alloc (by simp; omega) _)).drew, blk_drew (blk_alloc (blk_alloc (blk_alloc (blk_new _ _ rfl) _) _) _), blk_drew (blk_alloc (blk_new _ _ (by simp)) _), World.rowIs.drew (((made0 _ (c + 1) (by simp)).alloc _).alloc _), World.rowIs.drew (made0 _ (n) (by simp))⟩
    · go_wp2
      go_meet
      case rel => exact ⟨w.heap.size + 1 + 1 + 1, w.heap.size + 1 + 1, w.heap.size + 1, rfl, by omega, by omega, by omega, (by omega : w.heap.size + 1 + 1 + 1 ≠ w.heap.size + 1 + 1), (by omega : w.heap.size + 1 + 1 + 1 ≠ w.heap.size + 1), (by omega : w.heap.size + 1 + 1 ≠ w.heap.size + 1), ((((((Below.refl _ _).alloc (Nat.le_refl _) _).alloc (by simp) _).alloc (by simp; omega) _).alloc (by simp; omega) _)).drew, blk_drew (blk_alloc (blk_alloc (blk_alloc (blk_new _ _ rfl) _) _) _), blk_drew (blk_new _ _ (by simp)), World.rowIs.drew ((made0 _ (c + 1) (by simp)).alloc _), World.rowIs.drew (((made0 _ (n) (by simp)).alloc _).alloc _)⟩
    · go_wp2
      go_meet
      case rel => exact ⟨w.heap.size + 1 + 1, w.heap.size + 1 + 1 + 1, w.heap.size + 1, rfl, by omega, by omega, by omega, (by omega : w.heap.size + 1 + 1 ≠ w.heap.size + 1 + 1 + 1), (by omega : w.heap.size + 1 + 1 ≠ w.heap.size + 1), (by omega : w.heap.size + 1 + 1 + 1 ≠ w.heap.size + 1), ((((((Below.refl _ _).alloc (Nat.le_refl _) _).alloc (by simp) _).alloc (by simp; omega) _).alloc (by simp; omega) _)).drew, blk_drew (blk_alloc (blk_alloc (blk_alloc (blk_new _ _ rfl) _) _) _), blk_drew (blk_alloc (blk_new _ _ (by simp)) _), World.rowIs.drew (made0 _ (c + 1) (by simp)), World.rowIs.drew (((made0 _ (n) (by simp)).alloc _).alloc _)⟩
    · go_wp2
      go_meet
      case rel => exact ⟨w.heap.size + 1, w.heap.size + 1 + 1, w.heap.size + 1 + 1 + 1, rfl, by omega, by omega, by omega, (by omega : w.heap.size + 1 ≠ w.heap.size + 1 + 1), (by omega : w.heap.size + 1 ≠ w.heap.size + 1 + 1 + 1), (by omega : w.heap.size + 1 + 1 ≠ w.heap.size + 1 + 1 + 1), ((((((Below.refl _ _).alloc (Nat.le_refl _) _).alloc (by simp) _).alloc (by simp; omega) _).alloc (by simp; omega) _)).drew, blk_drew (blk_alloc (blk_alloc (blk_alloc (blk_new _ _ rfl) _) _) _), blk_drew (blk_alloc (blk_alloc (blk_new _ _ (by simp)) _) _), World.rowIs.drew ((made0 _ (c + 1) (by simp)).alloc _), World.rowIs.drew (made0 _ (n) (by simp))⟩
    · go_wp2
      go_meet
      case rel => exact ⟨w.heap.size + 1, w.heap.size + 1 + 1 + 1, w.heap.size + 1 + 1, rfl, by omega, by omega, by omega, (by omega : w.heap.size + 1 ≠ w.heap.size + 1 + 1 + 1), (by omega : w.heap.size + 1 ≠ w.heap.size + 1 + 1), (by omega : w.heap.size + 1 + 1 + 1 ≠ w.heap.size + 1 + 1), ((((((Below.refl _ _).alloc (Nat.le_refl _) _).alloc (by simp) _).alloc (by simp; omega) _).alloc (by simp; omega) _)).drew, blk_drew (blk_alloc (blk_alloc (blk_alloc (blk_new _ _ rfl) _) _) _), blk_drew (blk_alloc (blk_alloc (blk_new _ _ (by simp)) _) _), World.rowIs.drew (made0 _ (c + 1) (by simp)), World.rowIs.drew ((made0 _ (n) (by simp)).alloc _)⟩
  case rest =>
    obtain ⟨gp, g1, g2, rfl, hgp, hg1, hg2, d1, d2, d3, hbel, hres, hpp, hr1, hr2⟩ := hcut
    clear hm1 hm2
    go_wp2
    -- count
    go_loopw [21] (fun i wr => ∃ k : Nat, k ≤ n ∧ i = .int .i64 k ∧ Below w.heap.size w wr ∧ wr.heap[w.heap.size]? = some (.cells #[.slice none 0 0, .slice none 0 0] 43 (0, 0)) ∧ wr.heap[gp]? = some (.cells #[.slice (some ⟨g1, 0, none⟩) (c + 1) (c + 1), .slice (some ⟨g2, 0, none⟩) n n] 43 (0, 0)) ∧ wr.rowIs g1 3 (c + 1) (fun j => .int .i64 (st1 N k j)) ∧ wr.rowIs g2 3 n (fun _ => .int .i64 0)) (fun i _ => n - (intOf i).toNat)
    case atStart => exact ⟨0, Nat.zero_le _, rfl, hbel, hres, hpp, hr1.congr (fun j _ => by simp [st1, cnt_zero]), hr2⟩
    case round =>
      obtain ⟨k, hk, rfl, kb, kres, kpp, k1, k2⟩ := hrel
      clear hbel hres hpp hr1 hr2
      by_cases hlt : k < n
      · rcases h with h | ⟨b, o, rfl, _, hbl, hcell⟩
        · omega
        · have q0 : wr.cell? ⟨b, o + k, none⟩ = some (.int .i64 (N k : Int)) := by
            rw [kb.cell (p := ⟨b, o + k, none⟩) hbl]; simpa using hcell k hlt 0 (by omega)
          have hNk := hN k hlt
          have q1 : wr.cell? ⟨gp, 0, none⟩ = some (.slice (some ⟨g1, 0, none⟩) (c + 1) (c + 1)) := cell_at kpp
          have q2 : wr.cell? ⟨g1, N k + 1, none⟩ = some (.int .i64 (st1 N k (N k + 1))) := k1.cell (by omega)
          have q3 : wr.frozen? ⟨g1, N k + 1, none⟩ = false := k1.frozen _
          have hst : 0 ≤ st1 N k (N k + 1) ∧ st1 N k (N k + 1) ≤ 65537 := by
            have := cnt_le N (N k) k
            simp [st1]; omega
          have R1 : Hid _ := (k1.set (N k + 1) (.int .i64 (st1 N k (N k + 1) + 1))).congr (fun j _ => st1_step N k j)
          clear hcell
          go_wp2
          go_roundw
          case rel => exact ⟨k + 1, by omega, by go_num, kb.setCell (by simp; omega) _, blk_set kres (by simp; omega) _, blk_set kpp (by simpa using d1) _, R1.out, k2.setOther (by simpa using Ne.symm d3) _⟩
          case measure => simp [intOf]; omega
      · have hkn : n = k := by omega
        subst hkn
        go_wp2
        -- sum
        go_loopw [35] (fun i wr => ∃ t : Nat, t ≤ c ∧ i = .int .i64 t ∧ Below w.heap.size w wr ∧ wr.heap[w.heap.size]? = some (.cells #[.slice none 0 0, .slice none 0 0] 43 (0, 0)) ∧ wr.heap[gp]? = some (.cells #[.slice (some ⟨g1, 0, none⟩) (c + 1) (c + 1), .slice (some ⟨g2, 0, none⟩) n n] 43 (0, 0)) ∧ wr.rowIs g1 3 (c + 1) (fun j => .int .i64 (st2 N n t j)) ∧ wr.rowIs g2 3 n (fun _ => .int .i64 0)) (fun i _ => c - (intOf i).toNat)
        case atStart => exact ⟨0, Nat.zero_le _, rfl, kb, kres, kpp, k1.congr (fun j _ => by rw [st1_st2]), k2⟩
        case round =>
          obtain ⟨t, ht, rfl, jb, jres, jpp, j1, j2⟩ := hrel
          clear kb kres kpp k1 k2
          by_cases hlt2 : t < c
          · have q1 : wr.cell? ⟨gp, 0, none⟩ = some (.slice (some ⟨g1, 0, none⟩) (c + 1) (c + 1)) := cell_at jpp
            have q2 : wr.cell? ⟨g1, t + 1, none⟩ = some (.int .i64 (st2 N n t (t + 1))) := j1.cell (by omega)
            have q4 : wr.cell? ⟨g1, t, none⟩ = some (.int .i64 (st2 N n t t)) := j1.cell (by omega)
            have q3 : wr.frozen? ⟨g1, t + 1, none⟩ = false := j1.frozen _
            have hs1 : 0 ≤ st2 N n t (t + 1) ∧ st2 N n t (t + 1) ≤ 65537 := by
              have := cnt_le N t n
              have e : ¬ t + 1 ≤ t := by omega
              simp [st2, e]; omega
            have hs2 : 0 ≤ st2 N n t t ∧ st2 N n t t ≤ 65537 := by
              have := lt_le N t n
              simp [st2]; omega
            have R1 : Hid _ := (j1.set (t + 1) (.int .i64 (st2 N n t (t + 1) + st2 N n t t))).congr (fun j _ => st2_step N n t j)
            have hi0 : (0 : Int) ≤ (t : Int) := by omega
            have hi1 : (t : Int) < (c : Int) + 1 := by omega
            have hi2 : (t : Int) + 1 < (c : Int) + 1 := by omega
            go_wp2
            go_region
            go_wp2
            go_roundw
            case rel => exact ⟨t + 1, by omega, by go_num, (jb.setCell (by simp; omega) _).drew, blk_drew (blk_set jres (by simp; omega) _), blk_drew (blk_set jpp (by simpa using d1) _), R1.out, World.rowIs.drew (j2.setOther (by simpa using Ne.symm d3) _)⟩
            case measure => simp [intOf]; omega
          · have htc : c = t := by omega
            subst htc
            have l1 := lt_of_block jpp
            have l2 := j1.lt
            have l3 := j2.lt
            have l4 := lt_of_block jres
            have j1' := j1.congr (g := fun j => .int .i64 ((lt N j n : Nat) : Int)) (fun j hj => by
              have e : j ≤ c := by omega
              simp [st2, e])
            have hm3 := run_make_any (P := Try.prog) 28 3 (.int .i64 0) 1 8 Try.underlying28 info3 .i64 .i64 c (by omega) (by omega)
            have q1 : wr.cell? ⟨gp, 0, none⟩ = some (.slice (some ⟨g1, 0, none⟩) (c + 1) (c + 1)) := cell_at jpp
            have HG : Hid ((wr.alloc (.cells (madeCells #[.int .i64 0] c) 3)).heap[wr.heap.size]? = some (.cells (ints (fun _ => 0) c).toArray 3 (0, 0))) := by
              show _ = _
              rw [made_ints]; exact blk_new _ _ rfl
            have HP : Hid (0 < (ints (fun j => ((lt N j n : Nat) : Int)) c).length → (some ⟨wr.heap.size, 0, none⟩ : Option Addr) = some ⟨wr.heap.size, 0, none⟩ ∧ ∃ ad, (some ⟨g1, 0, none⟩ : Option Addr) = some ad ∧ ∀ j v, (ints (fun j => ((lt N j n : Nat) : Int)) c)[j]? = some v → (wr.alloc (.cells (madeCells #[.int .i64 0] c) 3)).cell? (ad.add j) = some v) := by
              intro _
              refine ⟨rfl, _, rfl, fun j v hj => ?_⟩
              have hjn : j < c := by have := (List.getElem?_eq_some_iff.1 hj).1; simpa [ints_len] using this
              rw [ints_get _ c j hjn] at hj
              cases hj
              rw [Addr.add_lit, Nat.zero_add]
              exact (j1'.alloc _).cell (by omega)
            have HB : Below wr.heap.size wr (wr.alloc (.cells (madeCells #[.int .i64 0] c) 3)) := (Below.refl _ _).alloc (Nat.le_refl _) _
            have J1 : Hid _ := j1'
            have J2 : Hid _ := j2
            have JP : Hid _ := jpp
            have JR : Hid _ := jres
            clear j1 j2 jpp jres j1'
            go_wp2_with (refine wpList_copy_splice rfl (.tmp 54) (.tmp 56) 28 28 rfl 3 Try.underlying28 size3 _ _ _ _ _ _ (by rfl) (by rfl) wr.heap.size 0 (ints (fun _ => 0) c) 3 HG.out (ints (fun j => ((lt N j n : Nat) : Int)) c) (by rw [ints_len]; exact (Nat.min_eq_right (by omega)).symm) HP.out (by simp [ints_len]) (ints_one _ c) wr.heap.size wr HB (Nat.le_refl _) ?_)
            intro w2 HG2 hB2
            have e : splice (ints (fun _ => 0) c) 0 (ints (fun j => ((lt N j n : Nat) : Int)) c) = ints (fun j => ((lt N j n : Nat) : Int)) c := by
              simp only [splice, List.take_zero, List.nil_append, Nat.zero_add, ints_len]
              rw [List.drop_eq_nil_of_le (by rw [ints_len]; exact Nat.le_refl _), List.append_nil]
            have hg3 := HG2.out
            rw [e] at hg3
            have r3 := (row_of_ints hg3).congr (g := fun j => .int .i64 (nx N n 0 j)) (fun j _ => by simp [nx, cnt_zero])
            have r1 := rowIs_keep J1.out hB2 (Nat.le_refl _)
            have r2 := rowIs_keep J2.out hB2 (Nat.le_refl _)
            have rp := blk_keep JP.out hB2 (Nat.le_refl _)
            have rr := blk_keep JR.out hB2 (Nat.le_refl _)
            have rb := jb.trans (hB2.mono jb.size)
            have e1 : g1 ≠ wr.heap.size := by omega
            have e2 : g2 ≠ wr.heap.size := by omega
            have e3 : gp ≠ wr.heap.size := by omega
            have e4 : w.heap.size < wr.heap.size := l4
            clear e hg3 HG2 hB2 HG HP HB J1 J2 JP JR hm3 q1 l1 l2 l3 l4 jb
            go_wp2
            generalize wr.heap.size = g3 at r3 e1 e2 e3 e4 ⊢
            -- place
            go_loopw [60] (fun i wr => ∃ k : Nat, k ≤ n ∧ i = .int .i64 k ∧ Below w.heap.size w wr ∧ wr.heap[w.heap.size]? = some (.cells #[.slice none 0 0, .slice none 0 0] 43 (0, 0)) ∧ wr.heap[gp]? = some (.cells #[.slice (some ⟨g1, 0, none⟩) (c + 1) (c + 1), .slice (some ⟨g2, 0, none⟩) n n] 43 (0, 0)) ∧ wr.rowIs g1 3 (c + 1) (fun j => .int .i64 ((lt N j n : Nat) : Int)) ∧ wr.rowIs g3 3 c (fun j => .int .i64 (nx N n k j)) ∧ ∃ AT : Nat → Int, wr.rowIs g2 3 n (fun j => .int .i64 (AT j)) ∧ ∀ i, i < k → AT (slot N n i) = (i : Int)) (fun i _ => n - (intOf i).toNat)
            case atStart => exact ⟨0, Nat.zero_le _, rfl, rb, rr, rp, r1, r3, fun _ => 0, r2, fun i hi => by omega⟩
            case round =>
              obtain ⟨k, hk, rfl, kb, kres, kpp, k1, k3, AT, k2, hAT⟩ := hrel
              clear rb rr rp r1 r3 r2
              by_cases hlt : k < n
              · rcases h with h | ⟨b, o, rfl, _, hbl, hcell⟩
                · omega
                · have q0 : wr.cell? ⟨b, o + k, none⟩ = some (.int .i64 (N k : Int)) := by
                    rw [kb.cell (p := ⟨b, o + k, none⟩) hbl]; simpa using hcell k hlt 0 (by omega)
                  have hNk := hN k hlt
                  have hsl := slot_lt N hlt
                  have q1 : wr.cell? ⟨gp, 1, none⟩ = some (.slice (some ⟨g2, 0, none⟩) n n) := cell_at kpp
                  have q2 : wr.cell? ⟨g3, N k, none⟩ = some (.int .i64 ((slot N n k : Nat) : Int)) := by rw [k3.cell hNk, nx_slot]
                  have q3 : wr.frozen? ⟨g3, N k, none⟩ = false := k3.frozen _
                  have q4 : wr.cell? ⟨g2, slot N n k, none⟩ = some (.int .i64 (AT (slot N n k))) := k2.cell hsl
                  have q5 : wr.frozen? ⟨g2, slot N n k, none⟩ = false := k2.frozen _
                  have R2 : Hid _ := k2.set (slot N n k) (.int .i64 (k : Int))
                  have R3 : Hid _ := (k3.set (N k) (.int .i64 (nx N n k (N k) + 1))).congr (fun j _ => nx_step N n k j)
                  have HS0 : Hid (wr.drew.cell? ⟨gp, 1, none⟩ = some (.slice (some ⟨g2, 0, none⟩) n n) ∧ wr.drew.cell? ⟨g3, N k, none⟩ = some (.int .i64 ((slot N n k : Nat) : Int)) ∧ True) := ⟨q1, q2, trivial⟩
                  have HS1 : Hid ((wr.setCell ⟨g2, slot N n k, none⟩ (.int .i64 (k : Int))).drew.cell? ⟨gp, 1, none⟩ = some (.slice (some ⟨g2, 0, none⟩) n n) ∧ (wr.setCell ⟨g2, slot N n k, none⟩ (.int .i64 (k : Int))).drew.cell? ⟨g3, N k, none⟩ = some (.int .i64 ((slot N n k : Nat) : Int)) ∧ True) :=
                    ⟨cell_at (blk_set kpp (by simpa using d2) _), by rw [← q2]; exact World.cell?_of_block (Below.heap_setCell _ _ _ _ (by simpa using Ne.symm e2)), trivial⟩
                  have hi0 : (0 : Int) ≤ (N k : Int) := by omega
                  have hi1 : (N k : Int) < (c : Int) := by omega
                  have hi2 : (0 : Int) ≤ ((slot N n k : Nat) : Int) := by omega
                  have hi3 : ((slot N n k : Nat) : Int) < (n : Int) := by omega
                  have ne1 : g3 ≠ g2 := Ne.symm e2
                  clear hcell
                  go_wp2
                  go_region_held3 (fun w' => w'.cell? ⟨gp, 1, none⟩ = some (.slice (some ⟨g2, 0, none⟩) n n) ∧ w'.cell? ⟨g3, N k, none⟩ = some (.int .i64 ((slot N n k : Nat) : Int)) ∧ True)
                    (first | with_reducible exact HS0.out | with_reducible exact HS1.out)
                    (fail)
                  go_wp2
                  go_roundw
                  case rel =>
                    refine ⟨k + 1, by omega, by go_num, ((kb.setCell (by simp; omega) _).setCell (by simp; omega) _).drew, blk_drew (blk_set (blk_set kres (by simp; omega) _) (by simp; omega) _), blk_drew (blk_set (blk_set kpp (by simpa using d2) _) (by simpa using e3) _), World.rowIs.drew ((k1.setOther (by simpa using d3) _).setOther (by simpa using e1) _), World.rowIs.drew (((k3.setOther (by simpa using ne1) _).set (N k) (.int .i64 (((slot N n k : Nat) : Int) + 1))).congr (fun j _ => ?_)), fun j => if j = slot N n k then (k : Int) else AT j, World.rowIs.drew (((k2.set (slot N n k) (.int .i64 (k : Int))).setOther (by simpa using e2) _).congr (fun j _ => ?_)), fun i hi => ?_⟩
                    · have hst := nx_step N n k j
                      rw [nx_slot] at hst
                      exact hst
                    · show (if j = slot N n k then Value.int .i64 (k : Int) else .int .i64 (AT j)) = .int .i64 (if j = slot N n k then (k : Int) else AT j)
                      split <;> rfl
                    · by_cases hik : i = k
                      · subst hik; simp
                      · have hne : slot N n i ≠ slot N n k := fun e => hik (slot_inj N (by omega) hlt e)
                        simp [hne]; exact hAT i (by omega)
                  case measure => simp [intOf]; omega
              · have hkn : n = k := by omega
                subst hkn
                have q0 : wr.cell? ⟨gp, 0, none⟩ = some (.slice (some ⟨g1, 0, none⟩) (c + 1) (c + 1)) := cell_at kpp
                have q1 : wr.cell? ⟨gp, 1, none⟩ = some (.slice (some ⟨g2, 0, none⟩) n n) := cell_at kpp
                have qc : ∀ i, wr.cell? ⟨w.heap.size, i, none⟩ = (#[.slice none 0 0, .slice none 0 0] : Array Value)[i]? := fun i => cell_at kres
                have qf : ∀ i, wr.frozen? ⟨w.heap.size, i, none⟩ = false := fun i => free_at kres
                have R := blk_full2 (v0 := .slice (some ⟨g1, 0, none⟩) (c + 1) (c + 1)) (v1 := .slice (some ⟨g2, 0, none⟩) n n) kres
                go_wp2
                exact bodyPost_ret (results_cell_row (P := Try.prog) (fn := Try.f27) (by rfl) _ _ w.heap.size 43 _ (0, 0) _ (by rfl) R Try.underlying43 rfl (by kernel_rfl)) rfl ⟨g1, g2, rfl, by omega, by omega, (k1.setOther (by simp; omega) _).setOther (by simp; omega) _, ⟨AT, (k2.setOther (by simp; omega) _).setOther (by simp; omega) _, hAT⟩, (kb.setCell (Nat.le_refl _) _).setCell (Nat.le_refl _) _⟩
end Go.Proofs.Qxb6600117a
