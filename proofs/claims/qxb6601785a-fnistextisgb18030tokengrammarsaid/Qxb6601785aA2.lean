import Derived.Test.Qxb6601785aA1
import Derived.WalkSpells
import Derived.Deep.DeepCutAuto
namespace Go.Proofs.Qxb6601785a
open Go.RowKit
set_option linter.unusedSimpArgs false
set_option linter.unusedVariables false

theorem prF1 {x : Int} (h : x < 32) : prB x = false := by simp [prB]; omega
theorem prF2 {x : Int} (h : 126 < x) : prB x = false := by simp [prB]; omega
theorem prT {x : Int} (h : 32 ≤ x) (h' : x ≤ 126) : prB x = true := by simp [prB]; omega
theorem leF1 {x : Int} (h : x < 129) : leB x = false := by simp [leB]; omega
theorem leF2 {x : Int} (h : 254 < x) : leB x = false := by simp [leB]; omega
theorem leT {x : Int} (h : 129 ≤ x) (h' : x ≤ 254) : leB x = true := by simp [leB]; omega
theorem trF1 {x : Int} (h : x < 64) : trB x = false := by simp [trB]; omega
theorem trF2 {x : Int} (h : x = 127) : trB x = false := by simp [trB, h]
theorem trF3 {x : Int} (h : 254 < x) : trB x = false := by simp [trB]; omega
theorem trT {x : Int} (h : 64 ≤ x) (h' : x ≤ 254) (h2 : x ≠ 127) : trB x = true := by simp [trB, h2]; omega
theorem diF {x : Int} (h : 57 < x) : diB x = false := by simp [diB]; omega

set_option maxRecDepth 20000 in
set_option maxHeartbeats 20000000 in
theorem isText_any (s : ByteArray) (w : World) (hs : s.size ≤ 1048576) :
    Calls Try.prog 22 #[.string s] w fun e w' => e = .returned (.bool (T (tok s.size (byt s)) s.size 0)) ∧ w = w' := by
  generalize hR : T (tok s.size (byt s)) s.size 0 = R
  have hR' : Hid (R = T (tok s.size (byt s)) s.size 0) := hR.symm
  clear hR
  go_enter Try.func22, Try.ntmps22
  go_wp2
  go_loop [3] (fun i => ∃ k : Nat, k ≤ s.size ∧ i = .int .i64 k ∧ Hid (R = T (tok s.size (byt s)) s.size k)) (fun i => s.size - (intOf i).toNat)
  case atStart => exact ⟨0, Nat.zero_le _, rfl, hR'⟩
  case round =>
    obtain ⟨k, hk, rfl, hT⟩ := hrel
    clear hR'
    by_cases hlt : k < s.size
    · have hI0 := byt_run s k k rfl hlt
      have hb0 := byt_bounds s k
      obtain ⟨c0, hc0⟩ : ∃ c, byt s k = c := ⟨_, rfl⟩
      rw [hc0] at hI0 hb0
      by_cases a1 : c0 < 32
      · go_wp2
        go_ret
        refine ⟨?_, rfl⟩
        show Ending.returned (.bool false) = _
        rw [hT.out, T_stop hlt (tok_none (by rw [hc0]; exact prF1 a1) (by rw [hc0]; rintro ⟨_, h, _⟩; rw [leF1 (by omega)] at h; cases h) (by rw [hc0]; rintro ⟨_, h, _⟩; rw [leF1 (by omega)] at h; cases h))]
      by_cases a2 : c0 = 127
      · have e2 : (c0 == 127) = true := by simp [a2]
        go_wp2
        go_ret
        refine ⟨?_, rfl⟩
        show Ending.returned (.bool false) = _
        rw [hT.out, T_stop hlt (tok_none (by rw [hc0]; exact prF2 (by omega)) (by rw [hc0]; rintro ⟨_, h, _⟩; rw [leF1 (by omega)] at h; cases h) (by rw [hc0]; rintro ⟨_, h, _⟩; rw [leF1 (by omega)] at h; cases h))]
      have e2 : (c0 == 127) = false := by simp [a2]
      by_cases a3 : c0 < 128
      · go_wp2
        go_round
        case rel => exact ⟨k + 1, by omega, by go_num, by show R = _; rw [hT.out]; exact T_step hlt (tok_pr (by rw [hc0]; exact prT (by omega) (by omega))) (by omega)⟩
        case measure => simp [intOf]; omega
      by_cases a4 : c0 = 128
      · have e4 : (c0 == 128) = true := by simp [a4]
        go_wp2
        go_ret
        refine ⟨?_, rfl⟩
        show Ending.returned (.bool false) = _
        rw [hT.out, T_stop hlt (tok_none (by rw [hc0]; exact prF2 (by omega)) (by rw [hc0]; rintro ⟨_, h, _⟩; rw [leF1 (by omega)] at h; cases h) (by rw [hc0]; rintro ⟨_, h, _⟩; rw [leF1 (by omega)] at h; cases h))]
      have e4 : (c0 == 128) = false := by simp [a4]
      by_cases a5 : c0 = 255
      · have e5 : (c0 == 255) = true := by simp [a5]
        go_wp2
        go_ret
        refine ⟨?_, rfl⟩
        show Ending.returned (.bool false) = _
        rw [hT.out, T_stop hlt (tok_none (by rw [hc0]; exact prF2 (by omega)) (by rw [hc0]; rintro ⟨_, h, _⟩; rw [leF2 (by omega)] at h; cases h) (by rw [hc0]; rintro ⟨_, h, _⟩; rw [leF2 (by omega)] at h; cases h))]
      have e5 : (c0 == 255) = false := by simp [a5]
      have hpr : prB (byt s k) = false := by rw [hc0]; exact prF2 (by omega)
      have hle : leB (byt s k) = true := by rw [hc0]; exact leT (by omega) (by omega)
      go_upto_region 11 with fail
      go_cut [30] (fun v wx => (∃ r : Bool, v = .bool r ∧ Hid (r = true ↔ k + 2 ≤ s.size ∧ trB (byt s (k + 1)) = true)) ∧ wx = w)
      case first =>
        by_cases n1 : (s.size : Int) ≤ (k : Int) + 1
        · have n1i : ¬ (k : Int) + 1 < (s.size : Int) := by omega
          go_wp2
          go_meet
          case rel => exact ⟨⟨false, rfl, ⟨fun h => (by cases h), fun h => (by omega)⟩⟩, rfl⟩
        have n1i : (k : Int) + 1 < (s.size : Int) := by omega
        have hI1 := byt_run s (k + 1) ((k : Int) + 1) (by omega) (by omega)
        have hb1 := byt_bounds s (k + 1)
        obtain ⟨c1, hc1⟩ : ∃ c, byt s (k + 1) = c := ⟨_, rfl⟩
        rw [hc1] at hI1 hb1
        clear hI0
        by_cases b1 : ¬ 64 ≤ c1
        · skip
          go_wp2
          go_meet
          case rel => exact ⟨⟨false, rfl, ⟨fun h => (by cases h), fun h => (by rw [hc1, trF1 (x := c1) (by omega)] at h; cases h.2)⟩⟩, rfl⟩
        have b1i : 64 ≤ c1 := by omega
        by_cases b2 : c1 = 127
        · subst b2
          go_wp2
          go_meet
          case rel => exact ⟨⟨false, rfl, ⟨fun h => (by cases h), fun h => (by rw [hc1, trF2 (x := 127) rfl] at h; cases h.2)⟩⟩, rfl⟩
        have g2n : (c1 != 127) = true := by simp [b2]
        by_cases b3 : c1 = 255
        · subst b3
          go_wp2
          go_meet
          case rel => exact ⟨⟨false, rfl, ⟨fun h => (by cases h), fun h => (by rw [hc1, trF3 (x := 255) (by omega)] at h; cases h.2)⟩⟩, rfl⟩
        have g3n : (c1 != 255) = true := by simp [b3]
        go_wp2
        go_meet
        case rel => exact ⟨⟨true, rfl, ⟨fun _ => ⟨(by omega), (by rw [hc1]; exact trT (by omega) (by omega) b2)⟩, fun _ => rfl⟩⟩, rfl⟩
      case rest =>
        obtain ⟨⟨r, rfl, hr⟩, rfl⟩ := hcut
        cases r
        · have hno : ¬ (k + 2 ≤ s.size ∧ leB (byt s k) = true ∧ trB (byt s (k + 1)) = true) := fun h => by have := hr.out.2 ⟨h.1, h.2.2⟩; cases this
          by_cases n3 : ¬ (k : Int) + 3 < (s.size : Int)
          · go_wp2
            go_ret
            refine ⟨?_, rfl⟩
            show Ending.returned (.bool false) = _
            rw [hT.out, T_stop hlt (tok_none hpr hno (by omega))]
          have n3i : (k : Int) + 3 < (s.size : Int) := by omega
          have hI1 := byt_run s (k + 1) ((k : Int) + 1) (by omega) (by omega)
          have hb1 := byt_bounds s (k + 1)
          obtain ⟨c1, hc1⟩ : ∃ c, byt s (k + 1) = c := ⟨_, rfl⟩
          rw [hc1] at hI1 hb1
          have hI2 := byt_run s (k + 2) ((k : Int) + 2) (by omega) (by omega)
          have hb2 := byt_bounds s (k + 2)
          obtain ⟨c2, hc2⟩ : ∃ c, byt s (k + 2) = c := ⟨_, rfl⟩
          rw [hc2] at hI2 hb2
          have hI3 := byt_run s (k + 3) ((k : Int) + 3) (by omega) (by omega)
          have hb3 := byt_bounds s (k + 3)
          obtain ⟨c3, hc3⟩ : ∃ c, byt s (k + 3) = c := ⟨_, rfl⟩
          rw [hc3] at hI3 hb3
          have htr : trB (byt s (k + 1)) = false := by
            cases h : trB (byt s (k + 1))
            · rfl
            · exact absurd ⟨by omega, hle, h⟩ hno
          cases hd1 : diB c1
          · have hd3 := hd1
            go_wp2_with (first | (go_at_call 24; refine (dg_is _ _ hd1 _).mono ?_; rintro _ _ ⟨rfl, rfl⟩) | (go_at_call 24; refine (dg_is _ _ hd3 _).mono ?_; rintro _ _ ⟨rfl, rfl⟩))
            go_ret
            refine ⟨?_, rfl⟩
            show Ending.returned (.bool false) = _
            rw [hT.out, T_stop hlt (tok_none hpr hno (by rw [hc1, hd1]; rintro ⟨_, _, h, _⟩; cases h))]
          by_cases d1 : ¬ 129 ≤ c2
          · have hd3 := hd1
            go_wp2_with (first | (go_at_call 24; refine (dg_is _ _ hd1 _).mono ?_; rintro _ _ ⟨rfl, rfl⟩) | (go_at_call 24; refine (dg_is _ _ hd3 _).mono ?_; rintro _ _ ⟨rfl, rfl⟩))
            go_ret
            refine ⟨?_, rfl⟩
            show Ending.returned (.bool false) = _
            rw [hT.out, T_stop hlt (tok_none hpr hno (by rw [hc2, leF1 (x := c2) (by omega)]; rintro ⟨_, _, _, h, _⟩; cases h))]
          have d1i : 129 ≤ c2 := by omega
          by_cases d2 : c2 = 255
          · subst d2
            have hd3 := hd1
            go_wp2_with (first | (go_at_call 24; refine (dg_is _ _ hd1 _).mono ?_; rintro _ _ ⟨rfl, rfl⟩) | (go_at_call 24; refine (dg_is _ _ hd3 _).mono ?_; rintro _ _ ⟨rfl, rfl⟩))
            go_ret
            refine ⟨?_, rfl⟩
            show Ending.returned (.bool false) = _
            rw [hT.out, T_stop hlt (tok_none hpr hno (by rw [hc2, leF2 (x := 255) (by omega)]; rintro ⟨_, _, _, h, _⟩; cases h))]
          have f2n : (c2 != 255) = true := by simp [d2]
          cases hd3 : diB c3
          · go_wp2_with (first | (go_at_call 24; refine (dg_is _ _ hd1 _).mono ?_; rintro _ _ ⟨rfl, rfl⟩) | (go_at_call 24; refine (dg_is _ _ hd3 _).mono ?_; rintro _ _ ⟨rfl, rfl⟩))
            go_ret
            refine ⟨?_, rfl⟩
            show Ending.returned (.bool false) = _
            rw [hT.out, T_stop hlt (tok_none hpr hno (by rw [hc3, hd3]; rintro ⟨_, _, _, _, h⟩; cases h))]
          · go_wp2_with (first | (go_at_call 24; refine (dg_is _ _ hd1 _).mono ?_; rintro _ _ ⟨rfl, rfl⟩) | (go_at_call 24; refine (dg_is _ _ hd3 _).mono ?_; rintro _ _ ⟨rfl, rfl⟩))
            go_round
            case rel => exact ⟨k + 4, by omega, by go_num, by show R = _; rw [hT.out]; exact T_step hlt (tok_four hpr htr (by omega) hle (by rw [hc1]; exact hd1) (by rw [hc2]; exact leT (by omega) (by omega)) (by rw [hc3]; exact hd3)) (by omega)⟩
            case measure => simp [intOf]; omega
        · have hyes := hr.out.1 rfl
          go_wp2
          go_round
          case rel => exact ⟨k + 2, by omega, by go_num, by show R = _; rw [hT.out]; exact T_step hlt (tok_two hpr hyes.1 hle hyes.2) (by omega)⟩
          case measure => simp [intOf]; omega
    · have hkn : s.size = k := by omega
      go_wp2
      go_ret
      refine ⟨?_, rfl⟩
      show Ending.returned (.bool true) = _
      rw [hT.out, ← hkn, T_end]

theorem zzIsText_any (s : ByteArray) (w : World) (hs : s.size ≤ 1048576) :
    Calls Try.prog 14 #[.string s] w fun e w' => e = .returned (.bool (T (tok s.size (byt s)) s.size 0)) ∧ w = w' := by
  go_enter Try.func14, Try.ntmps14
  go_wp2_with fail
  refine (isText_any s w hs).mono ?_
  rintro _ _ ⟨rfl, rfl⟩
  go_wp2
  go_ret
  exact ⟨rfl, rfl⟩
end Go.Proofs.Qxb6601785a
