import Derived.Test.Qxb6601785aR2
import Derived.Deep.DeepCutAuto
import Derived.Deep.CutBlock
namespace Go.Proofs.Qxb6601785a
open Go.RowKit
set_option linter.unusedSimpArgs false
set_option linter.unusedVariables false

theorem later_mono {b : Nat → Int} {n0 c N t u : Nat} (h1 : t ≤ u) (h2 : u ≤ c) : later (ht b n0) c N t ≤ later (ht b n0) c N u := by
  obtain ⟨d, rfl⟩ : ∃ d, u = t + d := ⟨u - t, by omega⟩
  induction d with
  | zero => exact Nat.le_refl _
  | succ d ih =>
    have h3 := ih (by omega) (by omega)
    have h4 := later_step (ht b n0) (c := c) (N := N) (t := t + d) (by omega)
    rw [show t + (d + 1) = t + d + 1 by omega]
    omega

/-- The first byte that is c, or the end. -/
theorem first_at (b : Nat → Int) (c : Int) (n : Nat) : ∃ cut, cut ≤ n ∧ (∀ k, k < cut → b k ≠ c) ∧ (cut < n → b cut = c) := by
  induction n with
  | zero => exact ⟨0, Nat.le_refl _, fun k hk => by omega, fun h => by omega⟩
  | succ n ih =>
    obtain ⟨cut, h1, h2, h3⟩ := ih
    by_cases h : cut < n
    · exact ⟨cut, by omega, h2, fun _ => h3 h⟩
    · have : cut = n := by omega
      subst this
      by_cases h4 : b cut = c
      · exact ⟨cut, by omega, h2, fun _ => h4⟩
      · exact ⟨cut + 1, Nat.le_refl _, fun k hk => by
          rcases Nat.lt_or_ge k cut with h5 | h5
          · exact h2 k h5
          · have : k = cut := by omega
            subst this; exact h4, fun h => by omega⟩

theorem copy_full (ao : Option Addr) (n cap : Nat) (x : Nat → Int) (w : World) (hn : n ≤ 1048576) (hnl : ao = none → n = 0 ∧ cap = 0) (h : RowIn w 0 ao n 1 (fun k _ => .int .u8 (x k))) :
    Calls Try.prog 18 #[.slice ao n cap] w fun e w' => ∃ ao', e = .returned (.slice ao' n n) ∧ (ao' = none → n = 0) ∧ RowIn w' w.heap.size ao' n 1 (fun k _ => .int .u8 (x k)) ∧
      w'.ownsRow w.heap.size 5 1 (.slice ao' n n) n ((List.range n).map fun j => Value.int .u8 (x j)) ∧ Below w.heap.size w w' := by
  cases ao with
  | some a =>
    refine (copy_some a n cap x w hn h).mono ?_
    rintro e w' ⟨rfl, hr, hb⟩
    refine ⟨_, rfl, fun h => (by cases h), .inr ⟨_, 0, rfl, Nat.le_refl _, hr.lt, fun k hk c hc => ?_⟩, ?_, hb⟩
    · have : c = 0 := by omega
      subst this
      rw [hr.cell (by omega)]; simp
    · obtain ⟨cs, h1, h2, h3⟩ := hr
      refine ⟨by simp, .inr ⟨w.heap.size, n, cs, rfl, Nat.le_refl _, h1, Nat.le_refl _, by unfold maxLen; omega, by omega, ?_⟩⟩
      apply List.ext_getElem?
      intro i
      by_cases hi : i < n
      · have := h3 i hi
        simp [List.getElem?_take, hi]
        simpa using this
      · simp [List.getElem?_take, hi]
  | none =>
    obtain ⟨rfl, rfl⟩ := hnl rfl
    refine (copy_nil w).mono ?_
    rintro e w' ⟨rfl, rfl⟩
    exact ⟨none, rfl, fun _ => rfl, .inl rfl, World.ownsRow_nil _ _ _ _, Below.refl _ _⟩

theorem row_of_owns {w : World} {base : Nat} {ao : Option Addr} {n cap : Nat} {f : Nat → Value} (h : w.ownsRow base 5 1 (.slice ao n cap) n ((List.range n).map f)) : RowIn w 0 ao n 1 (fun k _ => f k) := by
  rcases h.2 with ⟨_, h2⟩ | ⟨g, cap', cur, hv, hb, hh, hnc, hcm, hsz, ht⟩
  · exact .inl h2
  · simp only [Value.slice.injEq] at hv
    obtain ⟨rfl, _, _⟩ := hv
    refine .inr ⟨g, 0, rfl, Nat.zero_le _, lt_of_block hh, fun k hk c hc => ?_⟩
    have : c = 0 := by omega
    subst this
    have h1 : (cur.toList.take (n * 1))[k]? = some (f k) := by rw [ht]; simp [hk]
    rw [List.getElem?_take, if_pos (by omega)] at h1
    rw [cell_at hh]
    simpa using h1


def hsF (b : Nat → Int) (n k j : Nat) : Int := if j ≤ k then (ht b n j : Nat) else 0
theorem hs_put {b : Nat → Int} {n k : Nat} {v : Int} (hv : v = (ht b n (k + 1) : Nat)) (j : Nat) : (if j = k + 1 then Value.int .i64 v else .int .i64 (hsF b n k j)) = .int .i64 (hsF b n (k + 1) j) := by
  by_cases e : j = k + 1
  · subst e; subst hv; simp [hsF]
  · have h1 : (j ≤ k + 1) ↔ (j ≤ k) := by omega
    simp [e, hsF, h1]
def laF (h : Nat → Nat) (c N t j : Nat) : Int := if t ≤ j then (later h c N j : Nat) else 0
theorem la_put {h : Nat → Nat} {c N t : Nat} {v : Int} (hv : v = (later h c N t : Nat)) (j : Nat) : (if j = t then Value.int .i64 v else .int .i64 (laF h c N (t + 1) j)) = .int .i64 (laF h c N t j) := by
  by_cases e : j = t
  · subst e; subst hv; simp [laF]
  · have h1 : (t + 1 ≤ j) ↔ (t ≤ j) := by omega
    simp [e, laF, h1]
theorem made_put (w : World) (m i : Nat) (v : Value) (hi : i < m) (f : Nat → Value) (hf : f i = v) (h0 : ∀ j, j < m → j ≠ i → f j = .int .i64 0) : (w.alloc (.cells ((madeCells #[.int .i64 0] m).setIfInBounds i v) 3)).rowIs w.heap.size 3 m f :=
  ⟨_, blk_new _ _ rfl, by simp [madeCells], fun j hj => by
    by_cases e : j = i
    · subst e; subst hf; simp [madeCells, hi]
    · have e' : i ≠ j := fun h => e h.symm
      rw [h0 j hj e]
      simp [madeCells, Array.getElem?_setIfInBounds, e', hj, Nat.mod_one]⟩

set_option maxRecDepth 30000 in
set_option maxHeartbeats 40000000 in
theorem height_walk (ao : Option Addr) (n cap : Nat) (x : Nat → Int) (q line : ByteArray) (w : World) (hqm : q.size ≤ maxLen) (hlm : line.size ≤ maxLen) (hnl : ao = none → n = 0 ∧ cap = 0) (h : RowIn w 0 ao n 1 (fun k _ => .int .u8 (x k))) :
    Calls Try.prog 6 #[.slice ao n cap, .string q, .string line] w fun e w' => e = .returned (.bool true) ∧ Below w.heap.size w w' := by
  go_enter Try.func6, Try.ntmps6
  go_wp2_with fail
  refine (bytes17_any ao n cap q line _ hqm hlm).mono ?_
  rintro e w1 ⟨he, hw1⟩
  replace hw1 := hw1.symm
  subst hw1
  rcases he with rfl | ⟨rfl, hs⟩
  · go_wp2
    go_ret
    exact ⟨rfl, Below.refl _ _⟩
  clear hqm hlm
  have z1 : ¬ (1048576 : Int) < (n : Int) := by omega
  have z2 : ¬ (1048576 : Int) < (q.size : Int) := by omega
  have z3 : ¬ (1048576 : Int) < (line.size : Int) := by omega
  have z4 : ¬ (1048576 : Int) < (n : Int) + (q.size : Int) + (line.size : Int) := by omega
  by_cases hq : ¬ q = ⟨#[]⟩
  · have hq' : q.toList.isEmpty = false := by
      cases e : q.toList.isEmpty
      · rfl
      · exfalso
        apply hq
        have e2 := List.isEmpty_iff.1 e
        rw [ByteArray.toList_eq] at e2
        obtain ⟨⟨l⟩⟩ := q
        simp at e2
        rw [e2]
    go_wp2
    go_ret
    exact ⟨rfl, Below.refl _ _⟩
  have hq : q = ⟨#[]⟩ := by simpa using hq
  subst hq
  have hls : n + line.size ≤ 1048576 := by omega
  go_wp2
  go_loop [7] (fun i => ∃ k : Nat, k ≤ line.size ∧ i = .int .i64 k ∧ ∀ j, j < k → byt line j ≠ 34 ∧ byt line j ≠ 39) (fun i => line.size - (intOf i).toNat)
  case atStart => exact ⟨0, Nat.zero_le _, rfl, fun j hj => by omega⟩
  case round =>
    obtain ⟨k, hk, rfl, hall⟩ := hrel
    by_cases hlt : k < line.size
    · have hI0 := byt_run line k k rfl hlt
      obtain ⟨c, hc⟩ : ∃ c, byt line k = c := ⟨_, rfl⟩
      rw [hc] at hI0
      have HA : Hid _ := hall
      clear hall
      by_cases c34 : c = 34
      · subst c34
        go_wp2
        go_ret
        exact ⟨rfl, Below.refl _ _⟩
      by_cases c39 : c = 39
      · subst c39
        go_wp2
        go_ret
        exact ⟨rfl, Below.refl _ _⟩
      have e34 : (c == 34) = false := by simp [c34]
      have e39 : (c == 39) = false := by simp [c39]
      go_wp2
      go_round
      case rel => exact ⟨k + 1, by omega, by go_num, fun j hj => by
        by_cases e : j = k
        · subst e; rw [hc]; exact ⟨c34, c39⟩
        · exact HA.out j (by omega)⟩
      case measure => simp [intOf]; omega
    · have hkn : line.size = k := by omega
      have hquo : Hid (∀ j, j < line.size → byt line j ≠ 34 ∧ byt line j ≠ 39) := by rw [hkn]; exact hall
      clear hall
      have hge : ¬ (k : Int) < (line.size : Int) := by omega
      clear hkn
      obtain ⟨cut, hcut, hc1, hc2⟩ := first_at (byt line) 35 line.size
      have HC1 : Hid _ := hc1
      have HC2 : Hid _ := hc2
      clear hc1 hc2
      go_wp2_with fail
      refine (copy_full ao n cap x _ (by omega) hnl h).mono ?_
      rintro e wa ⟨ao', rfl, hnl', hra, _, hba⟩
      go_wp2_with fail
      refine (copy_full ao' n n x _ (by omega) (fun e => by have := hnl' e; omega) (hra.lower (Nat.zero_le _))).mono ?_
      rintro e wb ⟨bo', rfl, _, _, hob, hbb⟩
      go_wp2_with fail
      refine (zzread_any line wa.heap.size n cut x _ wa _ (by omega) (by omega) hquo.out hbb.size hbb hob hcut HC1.out HC2.out).mono ?_
      rintro e wC ⟨v, rfl, hbc, hoc⟩
      obtain ⟨vo, vcap, hv⟩ := owns_slice hoc
      subst hv
      have hrv : RowIn wC 0 vo (ht (byt line) n cut) 1 (fun j _ => .int .u8 (sk (byt line) n x cut j)) := row_of_owns hoc
      have hrb : RowIn wC 0 ao' n 1 (fun k _ => .int .u8 (x k)) := (hra.below hbc (Nat.le_refl _)).lower (Nat.zero_le _)
      have hbw : Below w.heap.size w wC := hba.trans (hbc.mono hba.size)
      clear hra hba hob hbb hoc hbc h hquo
      obtain ⟨M, hM⟩ : ∃ M, mn (byt line) n cut = M := ⟨_, rfl⟩
      rw [hM]
      have HM : Hid _ := hM
      clear hM
      go_upto_block 2 with fail
      go_cut [12] (fun v wx => v = .int .i64 (cut : Nat) ∧ wx = wC)
      case first =>
        go_wp2
        go_loop [13, 12] (fun i v => ∃ k : Nat, k ≤ cut ∧ i = .int .i64 k ∧ v = .int .i64 line.size) (fun i _ => line.size - (intOf i).toNat)
        case atStart => exact ⟨0, Nat.zero_le _, rfl, rfl⟩
        case round =>
          obtain ⟨k, hk, rfl, rfl⟩ := hrel
          by_cases hkc : k = cut
          · subst hkc
            by_cases hlt : k < line.size
            · have hI0 := byt_run line k k rfl hlt
              rw [HC2.out hlt] at hI0
              go_wp2
              go_meet
              case rel => exact ⟨rfl, rfl⟩
            · have hkn2 : Hid ((line.size : Int) = (k : Int)) := by show _ = _; omega
              go_wp2
              go_meet
              case rel => exact ⟨by rw [hkn2.out], rfl⟩
          · have hlt : k < line.size := by omega
            have hI0 := byt_run line k k rfl hlt
            have h35 := HC1.out k (by omega)
            obtain ⟨c, hc⟩ : ∃ c, byt line k = c := ⟨_, rfl⟩
            rw [hc] at hI0 h35
            have e35 : (c == 35) = false := by simp [h35]
            go_wp2
            go_round
            case rel => exact ⟨k + 1, by omega, by go_num, rfl⟩
            case measure => simp [intOf]; omega
      case rest =>
        obtain ⟨h12, hwc⟩ := hcut
        subst h12
        replace hwc := hwc.symm
        subst hwc
        have hm1 := run_make_any (P := Try.prog) 31 3 (.int .i64 0) 1 8 Try.underlying31 info3 .i64 .i64 (cut + 1) (by omega) (by omega)
        rw [show ((cut + 1 : Nat) : Int) = (cut : Int) + 1 by omega] at hm1
        have s0 := World.rowIs_made wC (.int .i64 0) (cut + 1) 3
        have s1 := s0.cell (show 0 < cut + 1 by omega)
        have s2 := s0.frozen 0
        have r1 : Hid _ := made_put wC (cut + 1) 0 (.int .i64 n) (by omega) (fun j => .int .i64 (hsF (byt line) n 0 j)) (by simp [hsF, ht]) (fun j _ hj => by simp [hsF, hj])
        clear s0
        go_wp2
        clear hm1 s1 s2
        go_loopw [15] (fun i wr => ∃ k : Nat, k ≤ cut ∧ i = .int .i64 k ∧ Below wC.heap.size wC wr ∧ wr.rowIs wC.heap.size 3 (cut + 1) (fun j => .int .i64 (hsF (byt line) n k j))) (fun i _ => cut - (intOf i).toNat)
        case atStart => exact ⟨0, Nat.zero_le _, rfl, (Below.refl _ _).alloc (Nat.le_refl _) _, r1.out⟩
        case round =>
          obtain ⟨k, hk, rfl, kb, kr⟩ := hrel
          clear r1
          by_cases hlt : k < cut
          · have hI0 := byt_run line k k rfl (by omega)
            have q0 : wr.cell? ⟨wC.heap.size, k, none⟩ = some (.int .i64 (ht (byt line) n k : Nat)) := by
              have := kr.cell (show k < cut + 1 by omega)
              simpa [hsF] using this
            have q1 : wr.cell? ⟨wC.heap.size, k + 1, none⟩ = some (.int .i64 (hsF (byt line) n k (k + 1))) := kr.cell (by omega)
            have q2 : wr.frozen? ⟨wC.heap.size, k + 1, none⟩ = false := kr.frozen _
            have hhk := ht_le (byt line) n k
            have j1 : (k : Int) + 1 < (cut : Int) + 1 := by omega
            have j2 : (0 : Int) ≤ (k : Int) + 1 := by omega
            have j3 : ((k : Int) + 1).toNat = k + 1 := by omega
            have j4 : (k : Int) < (cut : Int) + 1 := by omega
            obtain ⟨c, hc⟩ : ∃ c, byt line k = c := ⟨_, rfl⟩
            rw [hc] at hI0
            have hput := fun (v : Int) (hv : v = (ht (byt line) n (k + 1) : Nat)) => (kr.set (k + 1) (.int .i64 v)).congr (fun j _ => hs_put hv j)
            have HP : Hid _ := hput
            have hop1 := fun h => ht_op (b := byt line) (n0 := n) (k := k) h
            have hcl1 := fun h h2 => ht_cl (b := byt line) (n0 := n) (k := k) h h2
            have hno1 := fun h h2 => ht_no (b := byt line) (n0 := n) (k := k) h h2
            rw [hc] at hop1 hcl1 hno1
            obtain ⟨hh, hhe⟩ : ∃ hh, ht (byt line) n k = hh := ⟨_, rfl⟩
            rw [hhe] at q0 hhk hop1 hcl1 hno1
            have HO : Hid _ := hop1
            have HL : Hid _ := hcl1
            have HN : Hid _ := hno1
            have KR : Hid _ := kr
            clear hput hop1 hcl1 hno1 kr hhe
            by_cases c91 : c = 91
            · subst c91
              go_wp2
              go_roundw
              case rel => exact ⟨k + 1, by omega, by go_num, kb.setCell (Nat.le_refl _) _, HP.out ((hh : Int) + 1) (by have h := HO.out rfl; omega)⟩
              case measure => simp [intOf]; omega
            have e91 : (c == 91) = false := by simp [c91]
            by_cases c123 : c = 123
            · subst c123
              go_wp2
              go_roundw
              case rel => exact ⟨k + 1, by omega, by go_num, kb.setCell (Nat.le_refl _) _, HP.out ((hh : Int) + 1) (by have h := HO.out rfl; omega)⟩
              case measure => simp [intOf]; omega
            have e123 : (c == 123) = false := by simp [c123]
            by_cases c93 : c = 93
            · subst c93
              by_cases h0 : hh = 0
              · subst h0
                go_wp2
                go_roundw
                case rel => exact ⟨k + 1, by omega, by go_num, kb.setCell (Nat.le_refl _) _, HP.out ((0 : Int)) (by have h := HL.out rfl rfl; omega)⟩
                case measure => simp [intOf]; omega
              · have h0i : (0 : Int) < (hh : Int) := by omega
                go_wp2
                go_roundw
                case rel => exact ⟨k + 1, by omega, by go_num, kb.setCell (Nat.le_refl _) _, HP.out ((hh : Int) - 1) (by have h := HL.out rfl rfl; omega)⟩
                case measure => simp [intOf]; omega
            have e93 : (c == 93) = false := by simp [c93]
            by_cases c125 : c = 125
            · subst c125
              by_cases h0 : hh = 0
              · subst h0
                go_wp2
                go_roundw
                case rel => exact ⟨k + 1, by omega, by go_num, kb.setCell (Nat.le_refl _) _, HP.out ((0 : Int)) (by have h := HL.out rfl rfl; omega)⟩
                case measure => simp [intOf]; omega
              · have h0i : (0 : Int) < (hh : Int) := by omega
                go_wp2
                go_roundw
                case rel => exact ⟨k + 1, by omega, by go_num, kb.setCell (Nat.le_refl _) _, HP.out ((hh : Int) - 1) (by have h := HL.out rfl rfl; omega)⟩
                case measure => simp [intOf]; omega
            have e125 : (c == 125) = false := by simp [c125]
            go_wp2
            go_roundw
            case rel => exact ⟨k + 1, by omega, by go_num, kb.setCell (Nat.le_refl _) _, HP.out ((hh : Int)) (by have h := HN.out (by simp [isOp, e91, e123]) (by simp [isCl, e93, e125]); omega)⟩
            case measure => simp [intOf]; omega
          · have hkc : k = cut := by omega
            subst hkc
            have hr1 : wr.rowIs wC.heap.size 3 (k + 1) (fun j => .int .i64 (ht (byt line) n j : Nat)) := kr.congr (fun j hj => by
              have h5 : j ≤ k := by omega
              simp [hsF, h5])
            clear kr
            obtain ⟨wd, hwd⟩ : ∃ wd, wd = wr := ⟨_, rfl⟩
            subst hwd
            have hsz1 := hr1.lt
            have hm2 := run_make_any (P := Try.prog) 31 3 (.int .i64 0) 1 8 Try.underlying31 info3 .i64 .i64 (k + 2) (by omega) (by omega)
            rw [show ((k + 2 : Nat) : Int) = (k : Int) + 2 by omega] at hm2
            have s0 := World.rowIs_made wd (.int .i64 0) (k + 2) 3
            have s1 := s0.cell (show k + 1 < k + 2 by omega)
            have s2 := s0.frozen (k + 1)
            have j1 : (k : Int) + 1 < (k : Int) + 2 := by omega
            have j2 : (0 : Int) ≤ (k : Int) + 1 := by omega
            have j3 : ((k : Int) + 1).toNat = k + 1 := by omega
            obtain ⟨NN, hNN⟩ : ∃ NN : Nat, n + k + 1 = NN := ⟨_, rfl⟩
            have hNi : (n : Int) + (k : Int) + 1 = (NN : Int) := by omega
            have hNlt : n + k < NN := by omega
            have r2 : Hid _ := made_put wd (k + 2) (k + 1) (.int .i64 NN) (by omega) (fun j => .int .i64 (laF (ht (byt line) n) k NN (k + 1) j)) (by simp [laF, later_end]) (fun j hj hne => by
              have : ¬ k + 1 ≤ j := by omega
              simp [laF, this])
            clear s0 hNN
            go_wp2
            clear hm2 s1 s2 hNi
            go_loopw [19, 20] (fun i v wr => ∃ t : Nat, t ≤ k + 1 ∧ i = .int .i64 ((t : Int) - 1) ∧ Below wd.heap.size wd wr ∧ wr.rowIs wd.heap.size 3 (k + 2) (fun j => .int .i64 (laF (ht (byt line) n) k NN t j))) (fun i _ _ => (intOf i + 1).toNat)
            case atStart => exact ⟨k + 1, Nat.le_refl _, by go_num, (Below.refl _ _).alloc (Nat.le_refl _) _, r2.out⟩
            case round =>
              obtain ⟨t, ht1, hie, lb, lr⟩ := hrel
              clear r2 j1 j2 j3
              by_cases ht0 : t = 0
              · subst ht0
                rw [show ((0 : Nat) : Int) - 1 = -1 from rfl] at hie
                subst hie
                have hr2 : wr.rowIs wd.heap.size 3 (k + 2) (fun j => .int .i64 (later (ht (byt line) n) k NN j : Nat)) := lr.congr (fun j hj => by simp [laF])
                clear lr
                obtain ⟨we, hwe⟩ : ∃ we, we = wr := ⟨_, rfl⟩
                subst hwe
                have hsz2 := hr2.lt
                have hr1e : we.rowIs wC.heap.size 3 (k + 1) (fun j => .int .i64 (ht (byt line) n j : Nat)) := rowIs_keep hr1 lb (Nat.le_refl _)
                have hbe : Below w.heap.size w we := (hbw.trans (kb.mono hbw.size)).trans (lb.mono (Nat.le_trans hbw.size kb.size))
                have hrve := (hrv.below kb (Nat.le_refl _)).below lb (Nat.le_refl _)
                have hrbe := (hrb.below kb (Nat.le_refl _)).below lb (Nat.le_refl _)
                have hsz1e := hr1e.lt
                clear hr1 lb kb hrv hrb hbw hsz1
                have hl0 : later (ht (byt line) n) k NN 0 = M := (later_zero hNlt).trans HM.out
                have hlc : later (ht (byt line) n) k NN k = ht (byt line) n k := later_cut hNlt
                have q0 : we.cell? ⟨wd.heap.size, 0, none⟩ = some (.int .i64 (M : Int)) := by
                  have := hr2.cell (show 0 < k + 2 by omega)
                  rw [hl0] at this
                  exact this
                have i0 : (0 : Int) < (k : Int) + 2 := by omega
                have HL0 : Hid _ := hl0
                have HLC : Hid _ := hlc
                have hMn : M ≤ n := by
                  have := later_le hNlt (b := byt line) (Nat.zero_le 0) (Nat.zero_le k)
                  rw [hl0] at this
                  exact this
                clear hl0 hlc
                go_wp2
                go_loopw [23, 22, 24] (fun i v _ wr => ∃ j s : Nat, j ≤ k ∧ i = .int .i64 j ∧ v = .int .i64 s ∧ Hid (M + s = later (ht (byt line) n) k NN j) ∧ Below we.heap.size we wr) (fun i _ _ _ => k - (intOf i).toNat)
                case atStart => exact ⟨0, 0, Nat.zero_le _, rfl, rfl, HL0.out.symm, Below.refl _ _⟩
                case round =>
                  obtain ⟨j, s, hj, rfl, rfl, hsj, fb⟩ := hrel
                  clear q0
                  have hs1 : s ≤ n + k := by
                    have h1 := later_le hNlt (b := byt line) (t := j) (i := j) (Nat.le_refl _) hj
                    have h2 := ht_le (byt line) n j
                    have h3 := hsj.out
                    omega
                  by_cases hlt : j < k
                  · skip
                    have hI0 := byt_run line j j rfl (by omega)
                    have p1 : wr.cell? ⟨wd.heap.size, j + 2, none⟩ = some (.int .i64 (later (ht (byt line) n) k NN (j + 2) : Nat)) := by
                      rw [fb.cell (p := ⟨wd.heap.size, j + 2, none⟩) hsz2]; exact hr2.cell (by omega)
                    have p2 : wr.cell? ⟨wC.heap.size, j + 1, none⟩ = some (.int .i64 (ht (byt line) n (j + 1) : Nat)) := by
                      rw [fb.cell (p := ⟨wC.heap.size, j + 1, none⟩) hsz1e]; exact hr1e.cell (by omega)
                    have i1 : (j : Int) + 2 < (k : Int) + 2 := by omega
                    have i2 : (0 : Int) ≤ (j : Int) + 2 := by omega
                    have i3 : ((j : Int) + 2).toNat = j + 2 := by omega
                    have i4 : (j : Int) + 1 < (k : Int) + 1 := by omega
                    have i5 : (0 : Int) ≤ (j : Int) + 1 := by omega
                    have i6 : ((j : Int) + 1).toNat = j + 1 := by omega
                    have HSV : Hid _ := fun h1 h2 => later_sv hNlt (b := byt line) (k := j) hlt h1 h2
                    have HNS : Hid _ := fun h2 => later_nsv hNlt (b := byt line) (k := j) hlt h2
                    obtain ⟨c, hc⟩ : ∃ c, byt line j = c := ⟨_, rfl⟩
                    rw [hc] at hI0
                    obtain ⟨hh, hhe⟩ : ∃ hh, ht (byt line) n (j + 1) = hh := ⟨_, rfl⟩
                    obtain ⟨ll, hle⟩ : ∃ ll, later (ht (byt line) n) k NN (j + 2) = ll := ⟨_, rfl⟩
                    rw [hhe] at p2
                    rw [hle] at p1
                    have HH : Hid _ := hhe
                    have HE : Hid _ := hle
                    have HC : Hid _ := hc
                    clear hhe hle hc
                    by_cases c91 : c = 91
                    · subst c91
                      have hop : Hid (isOp (byt line j) = true) := by show _ = _; rw [HC.out]; rfl
                      by_cases hcmp : (hh : Int) ≤ (ll : Int)
                      · have hd : decide ((hh : Int) ≤ (ll : Int)) = true := by simp; omega
                        go_wp2_with fail
                        go_quiet (fail)
                        go_wp2
                        go_roundw
                        case rel => exact ⟨j + 1, s + 1, by omega, by go_num, by go_num, by
                          have h1 := HSV.out hop.out (by rw [HH.out, HE.out]; omega)
                          have h2 := hsj.out
                          show _ = _
                          omega, fb.trans ⟨rfl, rfl, rfl, Nat.le_refl _, fun _ _ => rfl⟩⟩
                        case measure => simp [intOf]; omega
                      · have hd : decide ((hh : Int) ≤ (ll : Int)) = false := by simp; omega
                        go_wp2_with fail
                        go_quiet (fail)
                        go_wp2
                        go_roundw
                        case rel => exact ⟨j + 1, s, by omega, by go_num, rfl, by
                          have h1 := HNS.out (fun _ => by rw [HH.out, HE.out]; omega)
                          have h2 := hsj.out
                          show _ = _
                          omega, fb.trans ⟨rfl, rfl, rfl, Nat.le_refl _, fun _ _ => rfl⟩⟩
                        case measure => simp [intOf]; omega
                    have e91 : (c == 91) = false := by simp [c91]
                    by_cases c123 : c = 123
                    · subst c123
                      have hop : Hid (isOp (byt line j) = true) := by show _ = _; rw [HC.out]; rfl
                      by_cases hcmp : (hh : Int) ≤ (ll : Int)
                      · have hd : decide ((hh : Int) ≤ (ll : Int)) = true := by simp; omega
                        go_wp2_with fail
                        go_quiet (fail)
                        go_wp2
                        go_roundw
                        case rel => exact ⟨j + 1, s + 1, by omega, by go_num, by go_num, by
                          have h1 := HSV.out hop.out (by rw [HH.out, HE.out]; omega)
                          have h2 := hsj.out
                          show _ = _
                          omega, fb.trans ⟨rfl, rfl, rfl, Nat.le_refl _, fun _ _ => rfl⟩⟩
                        case measure => simp [intOf]; omega
                      · have hd : decide ((hh : Int) ≤ (ll : Int)) = false := by simp; omega
                        go_wp2_with fail
                        go_quiet (fail)
                        go_wp2
                        go_roundw
                        case rel => exact ⟨j + 1, s, by omega, by go_num, rfl, by
                          have h1 := HNS.out (fun _ => by rw [HH.out, HE.out]; omega)
                          have h2 := hsj.out
                          show _ = _
                          omega, fb.trans ⟨rfl, rfl, rfl, Nat.le_refl _, fun _ _ => rfl⟩⟩
                        case measure => simp [intOf]; omega
                    have e123 : (c == 123) = false := by simp [c123]
                    go_wp2_with fail
                    go_quiet (fail)
                    go_wp2
                    go_roundw
                    case rel => exact ⟨j + 1, s, by omega, by go_num, rfl, by
                      have h1 := HNS.out (fun h => by rw [HC.out] at h; simp [isOp, e91, e123] at h)
                      have h2 := hsj.out
                      show _ = _
                      omega, fb.trans ⟨rfl, rfl, rfl, Nat.le_refl _, fun _ _ => rfl⟩⟩
                    case measure => simp [intOf]; omega
                  · have hjk : j = k := by omega
                    subst hjk
                    have hlen : ht (byt line) n j = M + s := by
                      have h1 := hsj.out
                      have h2 := HLC.out
                      omega
                    clear hsj
                    obtain ⟨wf, hwf⟩ : ∃ wf, wf = wr := ⟨_, rfl⟩
                    subst hwf
                    have hrvf := hrve.below fb (Nat.le_refl _)
                    have hrbf := hrbe.below fb (Nat.le_refl _)
                    have hr1f := rowIs_keep hr1e fb (Nat.le_refl _)
                    have hr2f := rowIs_keep hr2 fb (Nat.le_refl _)
                    have hbf : Below w.heap.size w wf := hbe.trans (fb.mono hbe.size)
                    have hsz1f := hr1f.lt
                    have hsz2f := hr2f.lt
                    clear hrve hrbe hr1e hr2 fb hbe hsz1e hsz2
                    have HLEN : Hid _ := hlen
                    rw [hlen] at hrvf ⊢
                    clear hlen
                    go_wp2
                    go_loopw [25] (fun i wr => ∃ p : Nat, p ≤ M ∧ i = .int .i64 p ∧ Below wf.heap.size wf wr) (fun i _ => M - (intOf i).toNat)
                    case atStart => exact ⟨0, Nat.zero_le _, rfl, Below.refl _ _⟩
                    case round =>
                      obtain ⟨p, hp, rfl, gb⟩ := hrel
                      by_cases hlt : p < M
                      · skip
                        have hlow := sk_low hNlt (b := byt line) (B := x) (j := p) (by rw [HM.out]; exact hlt)
                        have p1 : ∃ g o, vo = some ⟨g, o, none⟩ ∧ wr.cell? ⟨g, o + p, none⟩ = some (.int .u8 (x p)) := by
                          rcases hrvf with hz | ⟨g, o, e, _, hbl, hcell⟩
                          · omega
                          · refine ⟨g, o, e, ?_⟩
                            rw [gb.cell (p := ⟨g, o + p, none⟩) hbl, ← hlow]; simpa using hcell p (by omega) 0 (by omega)
                        have p2 : ∃ g o, ao' = some ⟨g, o, none⟩ ∧ wr.cell? ⟨g, o + p, none⟩ = some (.int .u8 (x p)) := by
                          rcases hrbf with hz | ⟨g, o, e, _, hbl, hcell⟩
                          · omega
                          · refine ⟨g, o, e, ?_⟩
                            rw [gb.cell (p := ⟨g, o + p, none⟩) hbl]; simpa using hcell p (by omega) 0 (by omega)
                        clear hlow hrvf hrbf hr1f hr2f
                        obtain ⟨ga, oa, rfl, p1⟩ := p1
                        obtain ⟨gb', ob, rfl, p2⟩ := p2
                        obtain ⟨xx, hxx⟩ : ∃ xx, x p = xx := ⟨_, rfl⟩
                        rw [hxx] at p1 p2
                        clear hxx
                        have i1 : (p : Int) < (M : Int) + (s : Int) := by omega
                        have i2 : (p : Int) < (n : Int) := by omega
                        have i3 : (0 : Int) ≤ (p : Int) := by omega
                        go_wp2_with fail
                        go_quiet (fail)
                        go_wp2
                        go_roundw
                        case rel => exact ⟨p + 1, by omega, by go_num, gb.trans ⟨rfl, rfl, rfl, Nat.le_refl _, fun _ _ => rfl⟩⟩
                        case measure => simp [intOf]; omega
                      · skip
                        obtain ⟨wg, hwg⟩ : ∃ wg, wg = wr := ⟨_, rfl⟩
                        subst hwg
                        have hrvg := hrvf.below gb (Nat.le_refl _)
                        have hr1e := rowIs_keep hr1f gb (Nat.le_refl _)
                        have hr2 := rowIs_keep hr2f gb (Nat.le_refl _)
                        have hbg : Below w.heap.size w wg := hbf.trans (gb.mono hbf.size)
                        have hsz1e := hr1e.lt
                        have hsz2 := hr2.lt
                        clear hrvf hrbf hr1f hr2f gb hbf hsz1f hsz2f
                        go_wp2
                        go_loopw [27, 26, 28, 29] (fun i v _ _ wr => ∃ k pp : Nat, k ≤ j ∧ i = .int .i64 k ∧ v = .int .i64 pp ∧ Hid (later (ht (byt line) n) j NN k = pp) ∧ Below wg.heap.size wg wr) (fun i _ _ _ _ => j - (intOf i).toNat)
                        case atStart => exact ⟨0, M, Nat.zero_le _, rfl, rfl, HL0.out, Below.refl _ _⟩
                        case round =>
                          obtain ⟨k, pp, hk, rfl, rfl, hpp, fb⟩ := hrel
                          by_cases hlt : k < j
                          · skip
                            have hI0 := byt_run line k k rfl (by omega)
                            have p1 : wr.cell? ⟨wd.heap.size, k + 2, none⟩ = some (.int .i64 (later (ht (byt line) n) j NN (k + 2) : Nat)) := by
                              rw [fb.cell (p := ⟨wd.heap.size, k + 2, none⟩) hsz2]; exact hr2.cell (by omega)
                            have p2 : wr.cell? ⟨wC.heap.size, k + 1, none⟩ = some (.int .i64 (ht (byt line) n (k + 1) : Nat)) := by
                              rw [fb.cell (p := ⟨wC.heap.size, k + 1, none⟩) hsz1e]; exact hr1e.cell (by omega)
                            have i1 : (k : Int) + 2 < (j : Int) + 2 := by omega
                            have i2 : (0 : Int) ≤ (k : Int) + 2 := by omega
                            have i3 : ((k : Int) + 2).toNat = k + 2 := by omega
                            have i4 : (k : Int) + 1 < (j : Int) + 1 := by omega
                            have i5 : (0 : Int) ≤ (k : Int) + 1 := by omega
                            have i6 : ((k : Int) + 1).toNat = k + 1 := by omega
                            have HSV : Hid _ := fun h1 h2 => later_sv hNlt (b := byt line) (k := k) hlt h1 h2
                            have HNS : Hid _ := fun h2 => later_nsv hNlt (b := byt line) (k := k) hlt h2
                            obtain ⟨c, hc⟩ : ∃ c, byt line k = c := ⟨_, rfl⟩
                            rw [hc] at hI0
                            obtain ⟨hh, hhe⟩ : ∃ hh, ht (byt line) n (k + 1) = hh := ⟨_, rfl⟩
                            obtain ⟨ll, hle⟩ : ∃ ll, later (ht (byt line) n) j NN (k + 2) = ll := ⟨_, rfl⟩
                            rw [hhe] at p2
                            rw [hle] at p1
                            have HH : Hid _ := hhe
                            have HE : Hid _ := hle
                            have HC : Hid _ := hc
                            clear hhe hle hc
                            by_cases c91 : c = 91
                            · subst c91
                              have hop : Hid (isOp (byt line k) = true) := by show _ = _; rw [HC.out]; rfl
                              by_cases hcmp : (hh : Int) ≤ (ll : Int)
                              · have hd : decide ((hh : Int) ≤ (ll : Int)) = true := by simp; omega
                                have h1 := HSV.out hop.out (by rw [HH.out, HE.out]; omega)
                                have h2 := sk_sv hNlt (b := byt line) (B := x) (k := k) hlt hop.out (by rw [HH.out, HE.out]; omega)
                                have h3 := later_mono (b := byt line) (n0 := n) (c := j) (N := NN) (t := k + 1) (u := j) (by omega) (Nat.le_refl _)
                                have hlc := HLC.out
                                have hpo := hpp.out
                                have hlen := HLEN.out
                                have hppb : pp < M + s := by omega
                                have hpe : ht (byt line) n k = pp := by omega
                                have hcls : cls (byt line k) = 93 := by rw [HC.out]; rfl
                                rw [hpe, hcls] at h2
                                have h1' : Hid (later (ht (byt line) n) j NN (k + 1) = pp + 1) := by show _ = _; omega
                                have p3 : ∃ g o, vo = some ⟨g, o, none⟩ ∧ wr.cell? ⟨g, o + pp, none⟩ = some (.int .u8 93) := by
                                  rcases hrvg with hz | ⟨g, o, e, _, hbl, hcell⟩
                                  · omega
                                  · refine ⟨g, o, e, ?_⟩
                                    rw [fb.cell (p := ⟨g, o + pp, none⟩) hbl, ← h2]; simpa using hcell pp (by omega) 0 (by omega)
                                clear h1 h2 h3 hlc hpo hlen hpe hcls hrvg hr1e hr2
                                obtain ⟨ga, oa, rfl, p3⟩ := p3
                                have k1 : (pp : Int) < (M : Int) + (s : Int) := by omega
                                go_wp2_with fail
                                go_quiet (fail)
                                go_wp2
                                go_roundw
                                case rel => exact ⟨k + 1, pp + 1, by omega, by go_num, by go_num, h1', fb.trans ⟨rfl, rfl, rfl, Nat.le_refl _, fun _ _ => rfl⟩⟩
                                case measure => simp [intOf]; omega
                              · have hd : decide ((hh : Int) ≤ (ll : Int)) = false := by simp; omega
                                have h1' : Hid (later (ht (byt line) n) j NN (k + 1) = pp) := (HNS.out (fun _ => by rw [HH.out, HE.out]; omega)).trans hpp.out
                                clear hrvg hr1e hr2
                                go_wp2_with fail
                                go_quiet (fail)
                                go_wp2
                                go_roundw
                                case rel => exact ⟨k + 1, pp, by omega, by go_num, rfl, h1', fb.trans ⟨rfl, rfl, rfl, Nat.le_refl _, fun _ _ => rfl⟩⟩
                                case measure => simp [intOf]; omega
                            have e91 : (c == 91) = false := by simp [c91]
                            by_cases c123 : c = 123
                            · subst c123
                              have hop : Hid (isOp (byt line k) = true) := by show _ = _; rw [HC.out]; rfl
                              by_cases hcmp : (hh : Int) ≤ (ll : Int)
                              · have hd : decide ((hh : Int) ≤ (ll : Int)) = true := by simp; omega
                                have h1 := HSV.out hop.out (by rw [HH.out, HE.out]; omega)
                                have h2 := sk_sv hNlt (b := byt line) (B := x) (k := k) hlt hop.out (by rw [HH.out, HE.out]; omega)
                                have h3 := later_mono (b := byt line) (n0 := n) (c := j) (N := NN) (t := k + 1) (u := j) (by omega) (Nat.le_refl _)
                                have hlc := HLC.out
                                have hpo := hpp.out
                                have hlen := HLEN.out
                                have hppb : pp < M + s := by omega
                                have hpe : ht (byt line) n k = pp := by omega
                                have hcls : cls (byt line k) = 125 := by rw [HC.out]; rfl
                                rw [hpe, hcls] at h2
                                have h1' : Hid (later (ht (byt line) n) j NN (k + 1) = pp + 1) := by show _ = _; omega
                                have p3 : ∃ g o, vo = some ⟨g, o, none⟩ ∧ wr.cell? ⟨g, o + pp, none⟩ = some (.int .u8 125) := by
                                  rcases hrvg with hz | ⟨g, o, e, _, hbl, hcell⟩
                                  · omega
                                  · refine ⟨g, o, e, ?_⟩
                                    rw [fb.cell (p := ⟨g, o + pp, none⟩) hbl, ← h2]; simpa using hcell pp (by omega) 0 (by omega)
                                clear h1 h2 h3 hlc hpo hlen hpe hcls hrvg hr1e hr2
                                obtain ⟨ga, oa, rfl, p3⟩ := p3
                                have k1 : (pp : Int) < (M : Int) + (s : Int) := by omega
                                go_wp2_with fail
                                go_quiet (fail)
                                go_wp2
                                go_roundw
                                case rel => exact ⟨k + 1, pp + 1, by omega, by go_num, by go_num, h1', fb.trans ⟨rfl, rfl, rfl, Nat.le_refl _, fun _ _ => rfl⟩⟩
                                case measure => simp [intOf]; omega
                              · have hd : decide ((hh : Int) ≤ (ll : Int)) = false := by simp; omega
                                have h1' : Hid (later (ht (byt line) n) j NN (k + 1) = pp) := (HNS.out (fun _ => by rw [HH.out, HE.out]; omega)).trans hpp.out
                                clear hrvg hr1e hr2
                                go_wp2_with fail
                                go_quiet (fail)
                                go_wp2
                                go_roundw
                                case rel => exact ⟨k + 1, pp, by omega, by go_num, rfl, h1', fb.trans ⟨rfl, rfl, rfl, Nat.le_refl _, fun _ _ => rfl⟩⟩
                                case measure => simp [intOf]; omega
                            have e123 : (c == 123) = false := by simp [c123]
                            have h1' : Hid (later (ht (byt line) n) j NN (k + 1) = pp) := (HNS.out (fun h => by rw [HC.out] at h; simp [isOp, e91, e123] at h)).trans hpp.out
                            clear hrvg hr1e hr2
                            go_wp2_with fail
                            go_quiet (fail)
                            go_wp2
                            go_roundw
                            case rel => exact ⟨k + 1, pp, by omega, by go_num, rfl, h1', fb.trans ⟨rfl, rfl, rfl, Nat.le_refl _, fun _ _ => rfl⟩⟩
                            case measure => simp [intOf]; omega
                          · go_wp2
                            go_ret
                            exact ⟨rfl, hbg.trans (fb.mono hbg.size)⟩
              · obtain ⟨u, rfl⟩ : ∃ u, t = u + 1 := ⟨t - 1, by omega⟩
                have hie2 : ((u + 1 : Nat) : Int) - 1 = (u : Int) := by omega
                rw [hie2] at hie
                subst hie
                have q0 : wr.cell? ⟨wd.heap.size, u + 1, none⟩ = some (.int .i64 (later (ht (byt line) n) k NN (u + 1) : Nat)) := by
                  have := lr.cell (show u + 1 < k + 2 by omega)
                  simpa [laF] using this
                have q1 : wr.cell? ⟨wd.heap.size, u, none⟩ = some (.int .i64 (laF (ht (byt line) n) k NN (u + 1) u)) := lr.cell (by omega)
                have q2 : wr.frozen? ⟨wd.heap.size, u, none⟩ = false := lr.frozen _
                have q3 : wr.cell? ⟨wC.heap.size, u, none⟩ = some (.int .i64 (ht (byt line) n u : Nat)) := by
                  rw [lb.cell (p := ⟨wC.heap.size, u, none⟩) hsz1]; exact hr1.cell (by omega)
                have hst := later_step (ht (byt line) n) (c := k) (N := NN) (t := u) (by omega)
                have hb1 := ht_le (byt line) n u
                have i1 : (u : Int) + 1 < (k : Int) + 2 := by omega
                have i2 : (0 : Int) ≤ (u : Int) + 1 := by omega
                have i3 : ((u : Int) + 1).toNat = u + 1 := by omega
                have i4 : (u : Int) < (k : Int) + 1 := by omega
                have i5 : (u : Int) < (k : Int) + 2 := by omega
                have HP : Hid _ := fun (v : Int) (hv : v = (later (ht (byt line) n) k NN u : Nat)) => (lr.set u (.int .i64 v)).congr (fun j _ => la_put hv j)
                obtain ⟨hh, hhe⟩ : ∃ hh, ht (byt line) n u = hh := ⟨_, rfl⟩
                obtain ⟨ll, hle⟩ : ∃ ll, later (ht (byt line) n) k NN (u + 1) = ll := ⟨_, rfl⟩
                rw [hhe] at q3 hst hb1
                rw [hle] at q0 hst
                have HS : Hid _ := hst
                clear hhe hle hst lr
                by_cases hcmp : (hh : Int) < (ll : Int)
                · go_wp2
                  go_roundw
                  case rel => exact ⟨u, by omega, by go_num, lb.setCell (Nat.le_refl _) _, HP.out (hh : Int) (by rw [HS.out]; omega)⟩
                  case measure => simp [intOf]
                · go_wp2
                  go_roundw
                  case rel => exact ⟨u, by omega, by go_num, lb.setCell (Nat.le_refl _) _, HP.out (ll : Int) (by rw [HS.out]; omega)⟩
                  case measure => simp [intOf]
end Go.Proofs.Qxb6601785a
