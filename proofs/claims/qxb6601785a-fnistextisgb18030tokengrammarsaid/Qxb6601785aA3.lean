import Derived.Test.Qxb6601785aA2
import Derived.Deep.RegionHeld3
import Derived.BigRegion
import Derived.BigQuiet
namespace Go.Proofs.Qxb6601785a
open Go.RowKit
set_option linter.unusedSimpArgs false
set_option linter.unusedVariables false

theorem info4 : (Try.prog.info? 4).map (fun i => (i.zero, i.size, i.bytes)) = some (some (.bool false), 1, 1) := by kernel_rfl
theorem trDi {x : Int} (h : trB x = true) : diB x = false := by
  simp [trB] at h; exact diF (by omega)
theorem prLe {x : Int} (h : prB x = true) : leB x = false := by
  simp [prB] at h; exact leF1 (by omega)
theorem put_row (f : Nat → Bool) (m j : Nat) : (if j = m then Value.bool true else .bool (f j)) = .bool (if j = m then true else f j) := by split <;> rfl

set_option maxRecDepth 20000 in
set_option maxHeartbeats 20000000 in
theorem token_walk (s : ByteArray) (w : World) (hs0 : s.size ≤ maxLen) :
    Calls Try.prog 3 #[.string s] w fun e w' => e = .returned (.bool true) ∧ Below w.heap.size w w' := by
  go_enter Try.func3, Try.ntmps3
  go_wp2_with fail
  refine (bytes9_any s _ hs0).mono ?_
  rintro e w1 ⟨he, hw1⟩
  replace hw1 := hw1.symm
  subst hw1
  rcases he with rfl | ⟨rfl, hs⟩
  · go_wp2
    go_ret
    exact ⟨rfl, Below.refl _ _⟩
  clear hs0
  have hmk := run_make_any (P := Try.prog) 23 4 (.bool false) 1 1 Try.underlying23 info4 .i64 .i64 (s.size + 1) (by omega) (by omega)
  rw [show ((s.size + 1 : Nat) : Int) = (s.size : Int) + 1 by omega] at hmk
  generalize hR : tok s.size (byt s) = tk
  have HK : Hid (tok s.size (byt s) = tk) := hR
  clear hR
  have r0 := World.rowIs_made w (.bool false) (s.size + 1) 4
  have q0 := r0.cell (show 0 < s.size + 1 by omega)
  have q1 := r0.frozen 0
  have b0 : Below w.heap.size w (w.alloc (.cells ((madeCells #[.bool false] (s.size + 1)).setIfInBounds 0 (.bool true)) 4)) := (Below.refl _ _).alloc (Nat.le_refl _) _
  have r1 : (w.alloc (.cells ((madeCells #[.bool false] (s.size + 1)).setIfInBounds 0 (.bool true)) 4)).rowIs w.heap.size 4 (s.size + 1) (fun j => .bool (decide (j = 0))) :=
    ⟨_, blk_new _ _ rfl, by simp [madeCells], fun i hi => by
      by_cases h : i = 0
      · subst h; simp [madeCells]
      · have h' : 0 ≠ i := fun e => h e.symm
        simp [madeCells, h, hi, Array.getElem?_setIfInBounds, h', Nat.mod_one]⟩
  go_wp2
  go_loopw [5] (fun i wr => ∃ k : Nat, k ≤ s.size ∧ i = .int .i64 k ∧ Below w.heap.size w wr ∧ ∃ f : Nat → Bool, wr.rowIs w.heap.size 4 (s.size + 1) (fun j => .bool (f j)) ∧ Reach tk s.size k f) (fun i _ => s.size - (intOf i).toNat)
  case atStart => exact ⟨0, Nat.zero_le _, rfl, b0, _, r1, Reach.start _ _⟩
  case round =>
    obtain ⟨k, hk, rfl, kb, f, kr, kR⟩ := hrel
    clear b0 r0 q0 q1 r1 hmk
    by_cases hlt : k < s.size
    · have q2 : wr.cell? ⟨w.heap.size, k, none⟩ = some (.bool (f k)) := kr.cell (by omega)
      have hik : (k : Int) < (s.size : Int) + 1 := by omega
      cases hf : f k
      · rw [hf] at q2
        go_wp2
        go_roundw
        case rel => exact ⟨k + 1, by omega, by go_num, kb, f, kr, kR.skip hlt hf⟩
        case measure => simp [intOf]; omega
      rw [hf] at q2
      have hI0 := byt_run s k k rfl hlt
      have hb0 := byt_bounds s k
      obtain ⟨c0, hc0⟩ : ∃ c, byt s k = c := ⟨_, rfl⟩
      rw [hc0] at hI0 hb0
      cases hp0 : prB c0
      · cases hl0 : leB c0
        · skip
          have ht1 := hl0
          have hd1 := hl0
          have hl2 := hl0
          have hd3 := hl0
          by_cases n2 : ¬ (k : Int) + 2 ≤ (s.size : Int)
          · have n4 : ¬ (k : Int) + 4 ≤ (s.size : Int) := by omega
            have htk : tk k = 0 := by rw [← HK.out]; exact tok_none (by rw [hc0]; exact hp0) (by rw [hc0, hl0]; rintro ⟨_, h, _⟩; cases h) (by rw [hc0, hl0]; rintro ⟨_, h, _⟩; cases h)
            go_wp2_with (first | (go_at_call 10; refine (pr_is _ _ hp0 _).mono ?_; rintro _ _ ⟨rfl, rfl⟩) | (go_at_call 11; refine (le_is _ _ hl0 _).mono ?_; rintro _ _ ⟨rfl, rfl⟩) | (go_at_call 12; refine (tr_is _ _ ht1 _).mono ?_; rintro _ _ ⟨rfl, rfl⟩) | (go_at_call 13; refine (di_is _ _ hd1 _).mono ?_; rintro _ _ ⟨rfl, rfl⟩) | (go_at_call 11; refine (le_is _ _ hl2 _).mono ?_; rintro _ _ ⟨rfl, rfl⟩) | (go_at_call 13; refine (di_is _ _ hd3 _).mono ?_; rintro _ _ ⟨rfl, rfl⟩))
            go_roundw
            case rel => exact ⟨k + 1, by omega, by go_num, kb, f, kr, kR.dead hlt hf htk⟩
            case measure => simp [intOf]; omega
          have n2i : (k : Int) + 2 ≤ (s.size : Int) := by omega
          by_cases n4 : ¬ (k : Int) + 4 ≤ (s.size : Int)
          · skip
            have htk : tk k = 0 := by rw [← HK.out]; exact tok_none (by rw [hc0]; exact hp0) (by rw [hc0, hl0]; rintro ⟨_, h, _⟩; cases h) (by rw [hc0, hl0]; rintro ⟨_, h, _⟩; cases h)
            go_wp2_with (first | (go_at_call 10; refine (pr_is _ _ hp0 _).mono ?_; rintro _ _ ⟨rfl, rfl⟩) | (go_at_call 11; refine (le_is _ _ hl0 _).mono ?_; rintro _ _ ⟨rfl, rfl⟩) | (go_at_call 12; refine (tr_is _ _ ht1 _).mono ?_; rintro _ _ ⟨rfl, rfl⟩) | (go_at_call 13; refine (di_is _ _ hd1 _).mono ?_; rintro _ _ ⟨rfl, rfl⟩) | (go_at_call 11; refine (le_is _ _ hl2 _).mono ?_; rintro _ _ ⟨rfl, rfl⟩) | (go_at_call 13; refine (di_is _ _ hd3 _).mono ?_; rintro _ _ ⟨rfl, rfl⟩))
            go_roundw
            case rel => exact ⟨k + 1, by omega, by go_num, kb, f, kr, kR.dead hlt hf htk⟩
            case measure => simp [intOf]; omega
          have n4i : (k : Int) + 4 ≤ (s.size : Int) := by omega
          have htk : tk k = 0 := by rw [← HK.out]; exact tok_none (by rw [hc0]; exact hp0) (by rw [hc0, hl0]; rintro ⟨_, h, _⟩; cases h) (by rw [hc0, hl0]; rintro ⟨_, h, _⟩; cases h)
          go_wp2_with (first | (go_at_call 10; refine (pr_is _ _ hp0 _).mono ?_; rintro _ _ ⟨rfl, rfl⟩) | (go_at_call 11; refine (le_is _ _ hl0 _).mono ?_; rintro _ _ ⟨rfl, rfl⟩) | (go_at_call 12; refine (tr_is _ _ ht1 _).mono ?_; rintro _ _ ⟨rfl, rfl⟩) | (go_at_call 13; refine (di_is _ _ hd1 _).mono ?_; rintro _ _ ⟨rfl, rfl⟩) | (go_at_call 11; refine (le_is _ _ hl2 _).mono ?_; rintro _ _ ⟨rfl, rfl⟩) | (go_at_call 13; refine (di_is _ _ hd3 _).mono ?_; rintro _ _ ⟨rfl, rfl⟩))
          go_roundw
          case rel => exact ⟨k + 1, by omega, by go_num, kb, f, kr, kR.dead hlt hf htk⟩
          case measure => simp [intOf]; omega
        · by_cases n2 : ¬ (k : Int) + 2 ≤ (s.size : Int)
          · have n4 : ¬ (k : Int) + 4 ≤ (s.size : Int) := by omega
            have ht1 := hl0
            have hd1 := hl0
            have hl2 := hl0
            have hd3 := hl0
            have htk : tk k = 0 := by rw [← HK.out]; exact tok_none (by rw [hc0]; exact hp0) (by omega) (by omega)
            go_wp2_with (first | (go_at_call 10; refine (pr_is _ _ hp0 _).mono ?_; rintro _ _ ⟨rfl, rfl⟩) | (go_at_call 11; refine (le_is _ _ hl0 _).mono ?_; rintro _ _ ⟨rfl, rfl⟩) | (go_at_call 12; refine (tr_is _ _ ht1 _).mono ?_; rintro _ _ ⟨rfl, rfl⟩) | (go_at_call 13; refine (di_is _ _ hd1 _).mono ?_; rintro _ _ ⟨rfl, rfl⟩) | (go_at_call 11; refine (le_is _ _ hl2 _).mono ?_; rintro _ _ ⟨rfl, rfl⟩) | (go_at_call 13; refine (di_is _ _ hd3 _).mono ?_; rintro _ _ ⟨rfl, rfl⟩))
            go_roundw
            case rel => exact ⟨k + 1, by omega, by go_num, kb, f, kr, kR.dead hlt hf htk⟩
            case measure => simp [intOf]; omega
          have n2i : (k : Int) + 2 ≤ (s.size : Int) := by omega
          have hI1 := byt_run s (k + 1) ((k : Int) + 1) (by omega) (by omega)
          have hb1 := byt_bounds s (k + 1)
          obtain ⟨c1, hc1⟩ : ∃ c, byt s (k + 1) = c := ⟨_, rfl⟩
          rw [hc1] at hI1 hb1
          cases ht1 : trB c1
          · by_cases n4 : ¬ (k : Int) + 4 ≤ (s.size : Int)
            · skip
              have hd1 := hl0
              have hl2 := hl0
              have hd3 := hl0
              have htk : tk k = 0 := by rw [← HK.out]; exact tok_none (by rw [hc0]; exact hp0) (by rw [hc1, ht1]; rintro ⟨_, _, h⟩; cases h) (by omega)
              go_wp2_with (first | (go_at_call 10; refine (pr_is _ _ hp0 _).mono ?_; rintro _ _ ⟨rfl, rfl⟩) | (go_at_call 11; refine (le_is _ _ hl0 _).mono ?_; rintro _ _ ⟨rfl, rfl⟩) | (go_at_call 12; refine (tr_is _ _ ht1 _).mono ?_; rintro _ _ ⟨rfl, rfl⟩) | (go_at_call 13; refine (di_is _ _ hd1 _).mono ?_; rintro _ _ ⟨rfl, rfl⟩) | (go_at_call 11; refine (le_is _ _ hl2 _).mono ?_; rintro _ _ ⟨rfl, rfl⟩) | (go_at_call 13; refine (di_is _ _ hd3 _).mono ?_; rintro _ _ ⟨rfl, rfl⟩))
              go_roundw
              case rel => exact ⟨k + 1, by omega, by go_num, kb, f, kr, kR.dead hlt hf htk⟩
              case measure => simp [intOf]; omega
            have n4i : (k : Int) + 4 ≤ (s.size : Int) := by omega
            cases hd1 : diB c1
            · skip
              have hl2 := hl0
              have hd3 := hl0
              have htk : tk k = 0 := by rw [← HK.out]; exact tok_none (by rw [hc0]; exact hp0) (by rw [hc1, ht1]; rintro ⟨_, _, h⟩; cases h) (by rw [hc1, hd1]; rintro ⟨_, _, h, _⟩; cases h)
              go_wp2_with (first | (go_at_call 10; refine (pr_is _ _ hp0 _).mono ?_; rintro _ _ ⟨rfl, rfl⟩) | (go_at_call 11; refine (le_is _ _ hl0 _).mono ?_; rintro _ _ ⟨rfl, rfl⟩) | (go_at_call 12; refine (tr_is _ _ ht1 _).mono ?_; rintro _ _ ⟨rfl, rfl⟩) | (go_at_call 13; refine (di_is _ _ hd1 _).mono ?_; rintro _ _ ⟨rfl, rfl⟩) | (go_at_call 11; refine (le_is _ _ hl2 _).mono ?_; rintro _ _ ⟨rfl, rfl⟩) | (go_at_call 13; refine (di_is _ _ hd3 _).mono ?_; rintro _ _ ⟨rfl, rfl⟩))
              go_roundw
              case rel => exact ⟨k + 1, by omega, by go_num, kb, f, kr, kR.dead hlt hf htk⟩
              case measure => simp [intOf]; omega
            have hI2 := byt_run s (k + 2) ((k : Int) + 2) (by omega) (by omega)
            have hb2 := byt_bounds s (k + 2)
            obtain ⟨c2, hc2⟩ : ∃ c, byt s (k + 2) = c := ⟨_, rfl⟩
            rw [hc2] at hI2 hb2
            cases hl2 : leB c2
            · skip
              have hd3 := hl0
              have htk : tk k = 0 := by rw [← HK.out]; exact tok_none (by rw [hc0]; exact hp0) (by rw [hc1, ht1]; rintro ⟨_, _, h⟩; cases h) (by rw [hc2, hl2]; rintro ⟨_, _, _, h, _⟩; cases h)
              go_wp2_with (first | (go_at_call 10; refine (pr_is _ _ hp0 _).mono ?_; rintro _ _ ⟨rfl, rfl⟩) | (go_at_call 11; refine (le_is _ _ hl0 _).mono ?_; rintro _ _ ⟨rfl, rfl⟩) | (go_at_call 12; refine (tr_is _ _ ht1 _).mono ?_; rintro _ _ ⟨rfl, rfl⟩) | (go_at_call 13; refine (di_is _ _ hd1 _).mono ?_; rintro _ _ ⟨rfl, rfl⟩) | (go_at_call 11; refine (le_is _ _ hl2 _).mono ?_; rintro _ _ ⟨rfl, rfl⟩) | (go_at_call 13; refine (di_is _ _ hd3 _).mono ?_; rintro _ _ ⟨rfl, rfl⟩))
              go_roundw
              case rel => exact ⟨k + 1, by omega, by go_num, kb, f, kr, kR.dead hlt hf htk⟩
              case measure => simp [intOf]; omega
            have hI3 := byt_run s (k + 3) ((k : Int) + 3) (by omega) (by omega)
            have hb3 := byt_bounds s (k + 3)
            obtain ⟨c3, hc3⟩ : ∃ c, byt s (k + 3) = c := ⟨_, rfl⟩
            rw [hc3] at hI3 hb3
            cases hd3 : diB c3
            · skip
              have htk : tk k = 0 := by rw [← HK.out]; exact tok_none (by rw [hc0]; exact hp0) (by rw [hc1, ht1]; rintro ⟨_, _, h⟩; cases h) (by rw [hc3, hd3]; rintro ⟨_, _, _, _, h⟩; cases h)
              go_wp2_with (first | (go_at_call 10; refine (pr_is _ _ hp0 _).mono ?_; rintro _ _ ⟨rfl, rfl⟩) | (go_at_call 11; refine (le_is _ _ hl0 _).mono ?_; rintro _ _ ⟨rfl, rfl⟩) | (go_at_call 12; refine (tr_is _ _ ht1 _).mono ?_; rintro _ _ ⟨rfl, rfl⟩) | (go_at_call 13; refine (di_is _ _ hd1 _).mono ?_; rintro _ _ ⟨rfl, rfl⟩) | (go_at_call 11; refine (le_is _ _ hl2 _).mono ?_; rintro _ _ ⟨rfl, rfl⟩) | (go_at_call 13; refine (di_is _ _ hd3 _).mono ?_; rintro _ _ ⟨rfl, rfl⟩))
              go_roundw
              case rel => exact ⟨k + 1, by omega, by go_num, kb, f, kr, kR.dead hlt hf htk⟩
              case measure => simp [intOf]; omega
            · skip
              have htk : tk k = 4 := by rw [← HK.out]; exact tok_four (by rw [hc0]; exact hp0) (by rw [hc1]; exact ht1) (by omega) (by rw [hc0]; exact hl0) (by rw [hc1]; exact hd1) (by rw [hc2]; exact hl2) (by rw [hc3]; exact hd3)
              have q3 : wr.cell? ⟨w.heap.size, k + 4, none⟩ = some (.bool (f (k + 4))) := kr.cell (by omega)
              have q4 : wr.frozen? ⟨w.heap.size, k + 4, none⟩ = false := kr.frozen _
              have j1 : (k : Int) + 4 < (s.size : Int) + 1 := by omega
              have j2 : (0 : Int) ≤ (k : Int) + 4 := by omega
              have j3 : ((k : Int) + 4).toNat = k + 4 := by omega
              have R1 : Hid _ := (kr.set (k + 4) (.bool true)).congr (fun j _ => put_row f (k + 4) j)
              go_wp2_with (first | (go_at_call 10; refine (pr_is _ _ hp0 _).mono ?_; rintro _ _ ⟨rfl, rfl⟩) | (go_at_call 11; refine (le_is _ _ hl0 _).mono ?_; rintro _ _ ⟨rfl, rfl⟩) | (go_at_call 12; refine (tr_is _ _ ht1 _).mono ?_; rintro _ _ ⟨rfl, rfl⟩) | (go_at_call 13; refine (di_is _ _ hd1 _).mono ?_; rintro _ _ ⟨rfl, rfl⟩) | (go_at_call 11; refine (le_is _ _ hl2 _).mono ?_; rintro _ _ ⟨rfl, rfl⟩) | (go_at_call 13; refine (di_is _ _ hd3 _).mono ?_; rintro _ _ ⟨rfl, rfl⟩))
              go_roundw
              case rel => exact ⟨k + 1, by omega, by go_num, kb.setCell (Nat.le_refl _) _, _, R1.out, kR.put hlt hf htk (by omega) (by omega)⟩
              case measure => simp [intOf]; omega
          · have hd1 := trDi ht1
            have hl2 := hl0
            have hd3 := hl0
            by_cases n4 : ¬ (k : Int) + 4 ≤ (s.size : Int)
            · skip
              have htk : tk k = 2 := by rw [← HK.out]; exact tok_two (by rw [hc0]; exact hp0) (by omega) (by rw [hc0]; exact hl0) (by rw [hc1]; exact ht1)
              have q3 : wr.cell? ⟨w.heap.size, k + 2, none⟩ = some (.bool (f (k + 2))) := kr.cell (by omega)
              have q4 : wr.frozen? ⟨w.heap.size, k + 2, none⟩ = false := kr.frozen _
              have j1 : (k : Int) + 2 < (s.size : Int) + 1 := by omega
              have j2 : (0 : Int) ≤ (k : Int) + 2 := by omega
              have j3 : ((k : Int) + 2).toNat = k + 2 := by omega
              have R1 : Hid _ := (kr.set (k + 2) (.bool true)).congr (fun j _ => put_row f (k + 2) j)
              go_wp2_with (first | (go_at_call 10; refine (pr_is _ _ hp0 _).mono ?_; rintro _ _ ⟨rfl, rfl⟩) | (go_at_call 11; refine (le_is _ _ hl0 _).mono ?_; rintro _ _ ⟨rfl, rfl⟩) | (go_at_call 12; refine (tr_is _ _ ht1 _).mono ?_; rintro _ _ ⟨rfl, rfl⟩) | (go_at_call 13; refine (di_is _ _ hd1 _).mono ?_; rintro _ _ ⟨rfl, rfl⟩) | (go_at_call 11; refine (le_is _ _ hl2 _).mono ?_; rintro _ _ ⟨rfl, rfl⟩) | (go_at_call 13; refine (di_is _ _ hd3 _).mono ?_; rintro _ _ ⟨rfl, rfl⟩))
              go_roundw
              case rel => exact ⟨k + 1, by omega, by go_num, kb.setCell (Nat.le_refl _) _, _, R1.out, kR.put hlt hf htk (by omega) (by omega)⟩
              case measure => simp [intOf]; omega
            have n4i : (k : Int) + 4 ≤ (s.size : Int) := by omega
            have htk : tk k = 2 := by rw [← HK.out]; exact tok_two (by rw [hc0]; exact hp0) (by omega) (by rw [hc0]; exact hl0) (by rw [hc1]; exact ht1)
            have q3 : wr.cell? ⟨w.heap.size, k + 2, none⟩ = some (.bool (f (k + 2))) := kr.cell (by omega)
            have q4 : wr.frozen? ⟨w.heap.size, k + 2, none⟩ = false := kr.frozen _
            have j1 : (k : Int) + 2 < (s.size : Int) + 1 := by omega
            have j2 : (0 : Int) ≤ (k : Int) + 2 := by omega
            have j3 : ((k : Int) + 2).toNat = k + 2 := by omega
            have R1 : Hid _ := (kr.set (k + 2) (.bool true)).congr (fun j _ => put_row f (k + 2) j)
            go_wp2_with (first | (go_at_call 10; refine (pr_is _ _ hp0 _).mono ?_; rintro _ _ ⟨rfl, rfl⟩) | (go_at_call 11; refine (le_is _ _ hl0 _).mono ?_; rintro _ _ ⟨rfl, rfl⟩) | (go_at_call 12; refine (tr_is _ _ ht1 _).mono ?_; rintro _ _ ⟨rfl, rfl⟩) | (go_at_call 13; refine (di_is _ _ hd1 _).mono ?_; rintro _ _ ⟨rfl, rfl⟩) | (go_at_call 11; refine (le_is _ _ hl2 _).mono ?_; rintro _ _ ⟨rfl, rfl⟩) | (go_at_call 13; refine (di_is _ _ hd3 _).mono ?_; rintro _ _ ⟨rfl, rfl⟩))
            go_roundw
            case rel => exact ⟨k + 1, by omega, by go_num, kb.setCell (Nat.le_refl _) _, _, R1.out, kR.put hlt hf htk (by omega) (by omega)⟩
            case measure => simp [intOf]; omega
      · have hl0 := prLe hp0
        have ht1 := hl0
        have hd1 := hl0
        have hl2 := hl0
        have hd3 := hl0
        by_cases n2 : ¬ (k : Int) + 2 ≤ (s.size : Int)
        · have n4 : ¬ (k : Int) + 4 ≤ (s.size : Int) := by omega
          have htk : tk k = 1 := by rw [← HK.out]; exact tok_pr (by rw [hc0]; exact hp0)
          have q3 : wr.cell? ⟨w.heap.size, k + 1, none⟩ = some (.bool (f (k + 1))) := kr.cell (by omega)
          have q4 : wr.frozen? ⟨w.heap.size, k + 1, none⟩ = false := kr.frozen _
          have j1 : (k : Int) + 1 < (s.size : Int) + 1 := by omega
          have j2 : (0 : Int) ≤ (k : Int) + 1 := by omega
          have j3 : ((k : Int) + 1).toNat = k + 1 := by omega
          have R1 : Hid _ := (kr.set (k + 1) (.bool true)).congr (fun j _ => put_row f (k + 1) j)
          go_wp2_with (first | (go_at_call 10; refine (pr_is _ _ hp0 _).mono ?_; rintro _ _ ⟨rfl, rfl⟩) | (go_at_call 11; refine (le_is _ _ hl0 _).mono ?_; rintro _ _ ⟨rfl, rfl⟩) | (go_at_call 12; refine (tr_is _ _ ht1 _).mono ?_; rintro _ _ ⟨rfl, rfl⟩) | (go_at_call 13; refine (di_is _ _ hd1 _).mono ?_; rintro _ _ ⟨rfl, rfl⟩) | (go_at_call 11; refine (le_is _ _ hl2 _).mono ?_; rintro _ _ ⟨rfl, rfl⟩) | (go_at_call 13; refine (di_is _ _ hd3 _).mono ?_; rintro _ _ ⟨rfl, rfl⟩))
          go_roundw
          case rel => exact ⟨k + 1, by omega, by go_num, kb.setCell (Nat.le_refl _) _, _, R1.out, kR.put hlt hf htk (by omega) (by omega)⟩
          case measure => simp [intOf]; omega
        have n2i : (k : Int) + 2 ≤ (s.size : Int) := by omega
        by_cases n4 : ¬ (k : Int) + 4 ≤ (s.size : Int)
        · skip
          have htk : tk k = 1 := by rw [← HK.out]; exact tok_pr (by rw [hc0]; exact hp0)
          have q3 : wr.cell? ⟨w.heap.size, k + 1, none⟩ = some (.bool (f (k + 1))) := kr.cell (by omega)
          have q4 : wr.frozen? ⟨w.heap.size, k + 1, none⟩ = false := kr.frozen _
          have j1 : (k : Int) + 1 < (s.size : Int) + 1 := by omega
          have j2 : (0 : Int) ≤ (k : Int) + 1 := by omega
          have j3 : ((k : Int) + 1).toNat = k + 1 := by omega
          have R1 : Hid _ := (kr.set (k + 1) (.bool true)).congr (fun j _ => put_row f (k + 1) j)
          go_wp2_with (first | (go_at_call 10; refine (pr_is _ _ hp0 _).mono ?_; rintro _ _ ⟨rfl, rfl⟩) | (go_at_call 11; refine (le_is _ _ hl0 _).mono ?_; rintro _ _ ⟨rfl, rfl⟩) | (go_at_call 12; refine (tr_is _ _ ht1 _).mono ?_; rintro _ _ ⟨rfl, rfl⟩) | (go_at_call 13; refine (di_is _ _ hd1 _).mono ?_; rintro _ _ ⟨rfl, rfl⟩) | (go_at_call 11; refine (le_is _ _ hl2 _).mono ?_; rintro _ _ ⟨rfl, rfl⟩) | (go_at_call 13; refine (di_is _ _ hd3 _).mono ?_; rintro _ _ ⟨rfl, rfl⟩))
          go_roundw
          case rel => exact ⟨k + 1, by omega, by go_num, kb.setCell (Nat.le_refl _) _, _, R1.out, kR.put hlt hf htk (by omega) (by omega)⟩
          case measure => simp [intOf]; omega
        have n4i : (k : Int) + 4 ≤ (s.size : Int) := by omega
        have htk : tk k = 1 := by rw [← HK.out]; exact tok_pr (by rw [hc0]; exact hp0)
        have q3 : wr.cell? ⟨w.heap.size, k + 1, none⟩ = some (.bool (f (k + 1))) := kr.cell (by omega)
        have q4 : wr.frozen? ⟨w.heap.size, k + 1, none⟩ = false := kr.frozen _
        have j1 : (k : Int) + 1 < (s.size : Int) + 1 := by omega
        have j2 : (0 : Int) ≤ (k : Int) + 1 := by omega
        have j3 : ((k : Int) + 1).toNat = k + 1 := by omega
        have R1 : Hid _ := (kr.set (k + 1) (.bool true)).congr (fun j _ => put_row f (k + 1) j)
        go_wp2_with (first | (go_at_call 10; refine (pr_is _ _ hp0 _).mono ?_; rintro _ _ ⟨rfl, rfl⟩) | (go_at_call 11; refine (le_is _ _ hl0 _).mono ?_; rintro _ _ ⟨rfl, rfl⟩) | (go_at_call 12; refine (tr_is _ _ ht1 _).mono ?_; rintro _ _ ⟨rfl, rfl⟩) | (go_at_call 13; refine (di_is _ _ hd1 _).mono ?_; rintro _ _ ⟨rfl, rfl⟩) | (go_at_call 11; refine (le_is _ _ hl2 _).mono ?_; rintro _ _ ⟨rfl, rfl⟩) | (go_at_call 13; refine (di_is _ _ hd3 _).mono ?_; rintro _ _ ⟨rfl, rfl⟩))
        go_roundw
        case rel => exact ⟨k + 1, by omega, by go_num, kb.setCell (Nat.le_refl _) _, _, R1.out, kR.put hlt hf htk (by omega) (by omega)⟩
        case measure => simp [intOf]; omega
    · have hkn : k = s.size := by omega
      subst hkn
      have q2 : wr.cell? ⟨w.heap.size, s.size, none⟩ = some (.bool (f s.size)) := kr.cell (by omega)
      rw [kR.fin] at q2
      generalize hU : T tk s.size 0 = U at q2
      have HU : Hid (T (tok s.size (byt s)) s.size 0 = U) := by show _ = _; rw [HK.out]; exact hU
      clear hU HK
      have HZ : ∀ w, Calls Try.prog 14 #[.string s] w fun e w' => e = .returned (.bool U) ∧ w' = w := fun w => (zzIsText_any s w hs).mono fun e w' ⟨a, b⟩ => ⟨by rw [a, HU.out], b.symm⟩
      have hi1 : (s.size : Int) < (s.size : Int) + 1 := by omega
      cases U
      · go_wp2_with fail
        go_quiet ((go_at_call 14; refine Calls.quiet_of_same (HZ _)))
        go_wp2
        go_ret
        exact ⟨rfl, kb.trans ⟨rfl, rfl, rfl, Nat.le_refl _, fun _ _ => rfl⟩⟩
      · go_wp2_with fail
        go_quiet ((go_at_call 14; refine Calls.quiet_of_same (HZ _)))
        go_wp2
        go_ret
        exact ⟨rfl, kb.trans ⟨rfl, rfl, rfl, Nat.le_refl _, fun _ _ => rfl⟩⟩
end Go.Proofs.Qxb6601785a
