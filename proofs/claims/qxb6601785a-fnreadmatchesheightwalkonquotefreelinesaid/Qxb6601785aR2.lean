import Derived.Test.Qxb6601785aR1
import Derived.WalkSpells
import Derived.OwnWalk
namespace Go.Proofs.Qxb6601785a
open Go.RowKit
set_option linter.unusedSimpArgs false
set_option linter.unusedVariables false

theorem blk_grown {w w' : World} {k : Nat} {o : Obj} {row : Option Nat} (h : w.heap[k]? = some o) (hg : w.grownBy w' row) (hr : row ≠ some k) : w'.heap[k]? = some o := by
  rw [hg.block k (lt_of_block h) (fun e => hr e.symm)]; exact h
theorem owns_set {w : World} {base : Nat} {e : TypeId} {size : Nat} {v : Value} {n : Nat} {xs : List Value} (h : w.ownsRow base e size v n xs) {a : Addr} (ha : v.ownBlock ≠ some a.block) (u : Value) : (w.setCell a u).ownsRow base e size v n xs := by
  obtain ⟨h1, h2⟩ := h
  refine ⟨h1, ?_⟩
  rcases h2 with h2 | ⟨g, cap, cur, hv, hg, hh, r⟩
  · exact Or.inl h2
  · refine Or.inr ⟨g, cap, cur, hv, hg, ?_, r⟩
    rw [Below.heap_setCell _ _ _ _ (fun e => ha (by rw [hv]; simp [Value.ownBlock, e]))]; exact hh
theorem owns_drew {w : World} {base : Nat} {e : TypeId} {size : Nat} {v : Value} {n : Nat} {xs : List Value} (h : w.ownsRow base e size v n xs) : w.drew.ownsRow base e size v n xs := h
theorem owns_slice {w : World} {base : Nat} {e : TypeId} {size : Nat} {v : Value} {n : Nat} {xs : List Value} (h : w.ownsRow base e size v n xs) : ∃ ao cap, v = .slice ao n cap := by
  rcases h.2 with ⟨h1, h2⟩ | ⟨g, cap, cur, hv, _⟩
  · exact ⟨none, 0, by rw [h1, h2]⟩
  · exact ⟨_, cap, hv⟩
theorem owns_some {w : World} {base : Nat} {e : TypeId} {size : Nat} {v : Value} {n : Nat} {xs : List Value} (h : w.ownsRow base e size v (n + 1) xs) : ∃ g cap, v = .slice (some ⟨g, 0, none⟩) (n + 1) cap ∧ n + 1 ≤ cap := by
  rcases h.2 with ⟨h1, h2⟩ | ⟨g, cap, cur, hv, _, _, h4, _⟩
  · omega
  · exact ⟨g, cap, hv, h4⟩
theorem owns_pop {w : World} {base : Nat} {e : TypeId} {g cap n : Nat} {xs ys : List Value} (h : w.ownsRow base e 1 (.slice (some ⟨g, 0, none⟩) (n + 1) cap) (n + 1) xs) (hx : ys = xs.take n) : w.ownsRow base e 1 (.slice (some ⟨g, 0, none⟩) n cap) n ys := by
  subst hx
  obtain ⟨h1, h2⟩ := h
  rcases h2 with ⟨h0, _⟩ | ⟨g', cap', cur, hv, hg, hh, hn, hcap, hsz, htake⟩
  · cases h0
  · cases hv
    refine ⟨by rw [List.length_take]; omega, .inr ⟨g, cap, cur, rfl, hg, hh, by omega, hcap, hsz, ?_⟩⟩
    rw [← htake, List.take_take]
    congr 1; omega

/-- The stack's cells, as a list. -/
def xs (b : Nat → Int) (n0 : Nat) (B : Nat → Int) (k : Nat) : List Value := (List.range (ht b n0 k)).map fun j => Value.int .u8 (sk b n0 B k j)
theorem xs_op {b : Nat → Int} {n0 : Nat} {B : Nat → Int} {k : Nat} (h : isOp (b k) = true) : xs b n0 B (k + 1) = xs b n0 B k ++ [.int .u8 (cls (b k))] := by
  unfold xs
  rw [ht_op h, List.range_succ, List.map_append]
  congr 1
  · apply List.map_congr_left
    intro j hj
    have : j < ht b n0 k := List.mem_range.1 hj
    have : ¬ j = ht b n0 k := by omega
    simp [sk, this]
  · simp [sk, h]
theorem xs_cl {b : Nat → Int} {n0 : Nat} {B : Nat → Int} {k m : Nat} (h : isOp (b k) = false) (h2 : isCl (b k) = true) (hm : ht b n0 k = m + 1) : xs b n0 B (k + 1) = (xs b n0 B k).take m := by
  unfold xs
  rw [ht_cl h h2, hm, ← List.map_take, List.take_range]
  simp [sk, h]
theorem xs_no {b : Nat → Int} {n0 : Nat} {B : Nat → Int} {k : Nat} (h : isOp (b k) = false) (h2 : ht b n0 (k + 1) = ht b n0 k) : xs b n0 B (k + 1) = xs b n0 B k := by
  unfold xs
  rw [h2]
  simp [sk, h]

theorem run_popTo (g n cap : Nat) (hn : n + 1 ≤ cap) : ∀ w, (Instr.slice 26 (.slice (some ⟨g, 0, none⟩) (n + 1) cap) none (some (.int .i64 (n : Int))) none).run Try.prog w = .ok (.slice (some ⟨g, 0, none⟩) n cap) w := by
  intro w
  have ht : Try.prog.underlying 26 = some (.slice (Try.prog.elem 26)) := by simp [Program.elem, Try.underlying26]
  have he : Try.prog.elem 26 = 5 := by simp [Program.elem, Try.underlying26]
  rw [run_slice_h w 26 _ _ _ ht .i64 _ (by omega) (by omega), he, Try.sizeOf5 w]
  have h0 : ¬ cap = 0 := by omega
  simp [Result.andThen, sliced, h0, Addr.add_lit]

set_option maxRecDepth 20000 in
set_option maxHeartbeats 20000000 in
theorem read_any (line : ByteArray) (gp base n0 cut : Nat) (B : Nat → Int) (v0 : Value) (w0 w : World) (hl : line.size ≤ 1048576) (hn0 : n0 ≤ 1048576)
    (hq : ∀ k, k < line.size → byt line k ≠ 34 ∧ byt line k ≠ 39) (hbg : base ≤ gp) (hb : Below base w0 w)
    (hgp : w.heap[gp]? = some (.cells #[v0, .string ⟨#[]⟩] 34 (0, 0))) (hown : w.ownsRow base 5 1 v0 n0 (xs (byt line) n0 B 0)) (hne : v0.ownBlock ≠ some gp)
    (hcut : cut ≤ line.size) (hc1 : ∀ k, k < cut → byt line k ≠ 35) (hc2 : cut < line.size → byt line cut = 35) :
    Calls Try.prog 23 #[.pointer (some ⟨gp, 0, none⟩), .string line] w fun e w' => e = .returned (.int .i64 (mn (byt line) n0 cut : Nat)) ∧ Below base w0 w' ∧
      ∃ v, w'.heap[gp]? = some (.cells #[v, .string ⟨#[]⟩] 34 (0, 0)) ∧ w'.ownsRow base 5 1 v (ht (byt line) n0 cut) (xs (byt line) n0 B cut) := by
  obtain ⟨i0, hi, hz0, hz1, hz2⟩ := info_parts info5
  generalize hbb : byt line = b at *
  have HB : Hid (byt line = b) := hbb
  clear hbb
  obtain ⟨ao0, cap0, rfl⟩ := owns_slice hown
  go_enter Try.func23, Try.ntmps23
  go_wp2_with (go_at_call 25; refine (depth_any gp _ _ _ _ hgp).mono ?_; rintro _ _ ⟨rfl, rfl⟩)
  go_loopw [5, 4] (fun i l wr => ∃ k : Nat, k ≤ cut ∧ i = .int .i64 k ∧ l = .int .i64 (mn b n0 k : Nat) ∧ Below base w0 wr ∧ ∃ v, wr.heap[gp]? = some (.cells #[v, .string ⟨#[]⟩] 34 (0, 0)) ∧ wr.ownsRow base 5 1 v (ht b n0 k) (xs b n0 B k) ∧ v.ownBlock ≠ some gp) (fun i _ _ => line.size - (intOf i).toNat)
  case atStart => exact ⟨0, Nat.zero_le _, rfl, rfl, hb, _, hgp, hown, hne⟩
  case round =>
    obtain ⟨k, hk, rfl, rfl, kb, v, kg, kown, kne⟩ := hrel
    clear hb hgp hown hne
    have hbz : base ≤ wr.heap.size := by have := lt_of_block kg; omega
    have hhk := ht_le b n0 k
    have hmk := mn_le b n0 (Nat.le_refl k)
    by_cases hlt : k < line.size
    · have hI0 := byt_run line k k rfl hlt
      rw [HB.out] at hI0
      have hqk := hq k hlt
      obtain ⟨ao, cap, hv⟩ := owns_slice kown
      subst hv
      have q0 : wr.cell? ⟨gp, 0, none⟩ = some (.slice ao (ht b n0 k) cap) := cell_at kg
      have q1 : wr.cell? ⟨gp, 1, none⟩ = some (.string ⟨#[]⟩) := cell_at kg
      have q2 : wr.frozen? ⟨gp, 0, none⟩ = false := free_at kg
      have KG : Hid _ := kg
      by_cases hkc : k = cut
      · subst hkc
        rw [hc2 hlt] at hI0
        clear hq hc1 hc2 hqk
        go_wp2
        go_ret
        exact ⟨rfl, kb, _, KG.out, kown⟩
      · have h35 := hc1 k (by omega)
        obtain ⟨c, hc⟩ : ∃ c, b k = c := ⟨_, rfl⟩
        rw [hc] at hI0 hqk h35
        clear hq hc1 hc2
        by_cases c91 : c = 91
        · subst c91
          have hop : isOp (b k) = true := by rw [hc]; rfl
          have hx : Hid _ := xs_op (b := b) (n0 := n0) (B := B) hop
          have hh : Hid _ := ht_op (b := b) (n0 := n0) hop
          have hm : Hid _ := mn_op (b := b) (n0 := n0) hop
          have hcl : cls (b k) = 93 := by rw [hc]; rfl
          go_wp2_with (first
            | (at_builtin; refine wpList_append_lies _ rfl _ _ 26 rfl base 5 i0 (.int .u8 0) 1 1 Try.underlying26 hi hz0 hz1 hz2 rfl (by decide) _ _ _ rfl (kown.alloc _) ⟨wr.heap.size, 0, none⟩ 1 1 [.int .u8 93] rfl rfl ?c1 ?c2 (by decide) ?c3 ?c4 ?c5 _ rfl ?_)
            | go_in)
          case c1 => exact news_block (blk_new _ _ rfl)
          case c2 => intro u hu; simp at hu; subst hu; rfl
          case c3 => unfold maxLen; omega
          case c4 => omega
          case c5 => simp; omega
          · intro g cp w1 hown1 hgrow hgg _
            have hgne : g ≠ gp := by
              have hlt0 := lt_of_block KG.out
              rcases hgg with e | e
              · intro e2; subst e2; exact kne e
              · (try simp only [World.size_alloc] at e); omega
            have b1 : Below base w0 w1 := (kb.alloc hbz _).grown hgrow (by simp; omega) (fun j hj => (kown.lt j hj).1)
            have m1 : Hid _ := blk_grown (blk_alloc KG.out _) hgrow kne
            have r0 : w1.cell? ⟨gp, 0, none⟩ = some (.slice ao (ht b n0 k) cap) := cell_at m1.out
            have r2 : w1.frozen? ⟨gp, 0, none⟩ = false := free_at m1.out
            clear q0 q1 q2 hgrow kown hgg KG
            go_wp2
            go_roundw
            case rel =>
              have lv := blk_put (i := 0) (u := .slice (some ⟨g, 0, none⟩) (ht b n0 k + 1) cp) m1.out
              simp only [List.setIfInBounds_toArray, List.set_cons_zero, List.set_cons_succ] at lv
              refine ⟨k + 1, by omega, by go_num, by rw [hm.out], b1.setCell hbg _, _, lv, ?_, by simpa [Value.ownBlock] using hgne⟩
              rw [hx.out, hh.out, hcl]
              exact owns_set hown1 (by simpa [Value.ownBlock] using hgne) _
            case measure => simp [intOf]; omega
        have e91 : (c == 91) = false := by simp [c91]
        by_cases c123 : c = 123
        · subst c123
          have hop : isOp (b k) = true := by rw [hc]; rfl
          have hx : Hid _ := xs_op (b := b) (n0 := n0) (B := B) hop
          have hh : Hid _ := ht_op (b := b) (n0 := n0) hop
          have hm : Hid _ := mn_op (b := b) (n0 := n0) hop
          have hcl : cls (b k) = 125 := by rw [hc]; rfl
          go_wp2_with (first
            | (at_builtin; refine wpList_append_lies _ rfl _ _ 26 rfl base 5 i0 (.int .u8 0) 1 1 Try.underlying26 hi hz0 hz1 hz2 rfl (by decide) _ _ _ rfl (kown.alloc _) ⟨wr.heap.size, 0, none⟩ 1 1 [.int .u8 125] rfl rfl ?c1 ?c2 (by decide) ?c3 ?c4 ?c5 _ rfl ?_)
            | go_in)
          case c1 => exact news_block (blk_new _ _ rfl)
          case c2 => intro u hu; simp at hu; subst hu; rfl
          case c3 => unfold maxLen; omega
          case c4 => omega
          case c5 => simp; omega
          · intro g cp w1 hown1 hgrow hgg _
            have hgne : g ≠ gp := by
              have hlt0 := lt_of_block KG.out
              rcases hgg with e | e
              · intro e2; subst e2; exact kne e
              · (try simp only [World.size_alloc] at e); omega
            have b1 : Below base w0 w1 := (kb.alloc hbz _).grown hgrow (by simp; omega) (fun j hj => (kown.lt j hj).1)
            have m1 : Hid _ := blk_grown (blk_alloc KG.out _) hgrow kne
            have r0 : w1.cell? ⟨gp, 0, none⟩ = some (.slice ao (ht b n0 k) cap) := cell_at m1.out
            have r2 : w1.frozen? ⟨gp, 0, none⟩ = false := free_at m1.out
            clear q0 q1 q2 hgrow kown hgg KG
            go_wp2
            go_roundw
            case rel =>
              have lv := blk_put (i := 0) (u := .slice (some ⟨g, 0, none⟩) (ht b n0 k + 1) cp) m1.out
              simp only [List.setIfInBounds_toArray, List.set_cons_zero, List.set_cons_succ] at lv
              refine ⟨k + 1, by omega, by go_num, by rw [hm.out], b1.setCell hbg _, _, lv, ?_, by simpa [Value.ownBlock] using hgne⟩
              rw [hx.out, hh.out, hcl]
              exact owns_set hown1 (by simpa [Value.ownBlock] using hgne) _
            case measure => simp [intOf]; omega
        have e123 : (c == 123) = false := by simp [c123]
        by_cases c93 : c = 93
        · subst c93
          have hop : isOp (b k) = false := by rw [hc]; rfl
          have hcl : isCl (b k) = true := by rw [hc]; rfl
          by_cases h0 : ht b n0 k = 0
          · have hh : ht b n0 (k + 1) = ht b n0 k := by rw [ht_cl hop hcl]; omega
            have hm : Hid (mn b n0 (k + 1) = mn b n0 k) := by show _ = _; simp only [mn]; omega
            have hx : Hid _ := xs_no (b := b) (n0 := n0) (B := B) hop hh
            have hh2 : Hid (ht b n0 (k + 1) = ht b n0 k) := hh
            clear hh
            rw [h0] at q0
            go_wp2
            go_roundw
            case rel => exact ⟨k + 1, by omega, by go_num, by rw [hm.out], kb, _, KG.out, by rw [hx.out, hh2.out]; exact kown, kne⟩
            case measure => simp [intOf]; omega
          · obtain ⟨m, hmm⟩ : ∃ m, ht b n0 k = m + 1 := ⟨ht b n0 k - 1, by omega⟩
            have hx : Hid _ := xs_cl (b := b) (n0 := n0) (B := B) hop hcl hmm
            have hh : Hid (ht b n0 (k + 1) = m) := by show _ = _; rw [ht_cl hop hcl]; omega
            have hm : Hid (mn b n0 (k + 1) = min (mn b n0 k) m) := by show _ = _; simp only [mn]; rw [hh.out]
            rw [hmm] at kown q0 kg hmk hhk
            clear KG h0
            have KG : Hid _ := kg
            obtain ⟨g, cp, hv, hcp⟩ := owns_some kown
            simp only [Value.slice.injEq] at hv
            obtain ⟨rfl, _, rfl⟩ := hv
            have hpop := run_popTo g m cap hcp
            have pown : Hid _ := owns_pop (ys := xs b n0 B (k + 1)) kown hx.out
            have hmne : g ≠ gp := by simpa [Value.ownBlock] using kne
            obtain ⟨mk, hmk2⟩ : ∃ mk, mn b n0 k = mk := ⟨_, rfl⟩
            rw [hmk2] at hmk
            have HM : Hid _ := hmk2
            have lv : Hid _ := blk_put (i := 0) (u := .slice (some ⟨g, 0, none⟩) m cap) kg
            simp only [List.setIfInBounds_toArray, List.set_cons_zero, List.set_cons_succ] at lv
            clear kown kg hmm
            go_wp2_with fail
            go_region
            go_wp2_with (go_at_call 25; refine (depth_any gp m cap _ _ (blk_drew lv.out)).mono ?_; rintro _ _ ⟨rfl, rfl⟩)
            go_roundw
            case rel => exact ⟨k + 1, by omega, by go_num, by rw [hm.out, HM.out]; congr 1; split <;> omega, (kb.setCell hbg _).drew, _, blk_drew lv.out, by rw [hh.out]; exact owns_drew (owns_set pown.out (by simpa [Value.ownBlock] using hmne) _), by simpa [Value.ownBlock] using hmne⟩
            case measure => simp [intOf]; omega
        have e93 : (c == 93) = false := by simp [c93]
        by_cases c125 : c = 125
        · subst c125
          have hop : isOp (b k) = false := by rw [hc]; rfl
          have hcl : isCl (b k) = true := by rw [hc]; rfl
          by_cases h0 : ht b n0 k = 0
          · have hh : ht b n0 (k + 1) = ht b n0 k := by rw [ht_cl hop hcl]; omega
            have hm : Hid (mn b n0 (k + 1) = mn b n0 k) := by show _ = _; simp only [mn]; omega
            have hx : Hid _ := xs_no (b := b) (n0 := n0) (B := B) hop hh
            have hh2 : Hid (ht b n0 (k + 1) = ht b n0 k) := hh
            clear hh
            rw [h0] at q0
            go_wp2
            go_roundw
            case rel => exact ⟨k + 1, by omega, by go_num, by rw [hm.out], kb, _, KG.out, by rw [hx.out, hh2.out]; exact kown, kne⟩
            case measure => simp [intOf]; omega
          · obtain ⟨m, hmm⟩ : ∃ m, ht b n0 k = m + 1 := ⟨ht b n0 k - 1, by omega⟩
            have hx : Hid _ := xs_cl (b := b) (n0 := n0) (B := B) hop hcl hmm
            have hh : Hid (ht b n0 (k + 1) = m) := by show _ = _; rw [ht_cl hop hcl]; omega
            have hm : Hid (mn b n0 (k + 1) = min (mn b n0 k) m) := by show _ = _; simp only [mn]; rw [hh.out]
            rw [hmm] at kown q0 kg hmk hhk
            clear KG h0
            have KG : Hid _ := kg
            obtain ⟨g, cp, hv, hcp⟩ := owns_some kown
            simp only [Value.slice.injEq] at hv
            obtain ⟨rfl, _, rfl⟩ := hv
            have hpop := run_popTo g m cap hcp
            have pown : Hid _ := owns_pop (ys := xs b n0 B (k + 1)) kown hx.out
            have hmne : g ≠ gp := by simpa [Value.ownBlock] using kne
            obtain ⟨mk, hmk2⟩ : ∃ mk, mn b n0 k = mk := ⟨_, rfl⟩
            rw [hmk2] at hmk
            have HM : Hid _ := hmk2
            have lv : Hid _ := blk_put (i := 0) (u := .slice (some ⟨g, 0, none⟩) m cap) kg
            simp only [List.setIfInBounds_toArray, List.set_cons_zero, List.set_cons_succ] at lv
            clear kown kg hmm
            go_wp2_with fail
            go_region
            go_wp2_with (go_at_call 25; refine (depth_any gp m cap _ _ (blk_drew lv.out)).mono ?_; rintro _ _ ⟨rfl, rfl⟩)
            go_roundw
            case rel => exact ⟨k + 1, by omega, by go_num, by rw [hm.out, HM.out]; congr 1; split <;> omega, (kb.setCell hbg _).drew, _, blk_drew lv.out, by rw [hh.out]; exact owns_drew (owns_set pown.out (by simpa [Value.ownBlock] using hmne) _), by simpa [Value.ownBlock] using hmne⟩
            case measure => simp [intOf]; omega
        have e125 : (c == 125) = false := by simp [c125]
        have hop : isOp (b k) = false := by rw [hc]; simp [isOp, e91, e123]
        have hcl : isCl (b k) = false := by rw [hc]; simp [isCl, e93, e125]
        have hh : Hid _ := ht_no (b := b) (n0 := n0) hop hcl
        have hm : Hid _ := mn_no (b := b) (n0 := n0) hop hcl
        have hx : Hid _ := xs_no (b := b) (n0 := n0) (B := B) hop hh.out
        have z35 : (c == 35) = false := by simp; omega
        have z34 : (c == 34) = false := by simp; omega
        have z39 : (c == 39) = false := by simp; omega
        go_wp2
        go_roundw
        case rel => exact ⟨k + 1, by omega, by go_num, by rw [hm.out], kb, _, KG.out, by rw [hx.out, hh.out]; exact kown, kne⟩
        case measure => simp [intOf]; omega
    · have hkc : k = cut := by omega
      subst hkc
      go_wp2
      go_ret
      exact ⟨rfl, kb, _, kg, kown⟩

theorem zzread_any (line : ByteArray) (base n0 cut : Nat) (B : Nat → Int) (v0 : Value) (w0 w : World) (hl : line.size ≤ 1048576) (hn0 : n0 ≤ 1048576)
    (hq : ∀ k, k < line.size → byt line k ≠ 34 ∧ byt line k ≠ 39) (hbg : base ≤ w.heap.size) (hb : Below base w0 w)
    (hown : w.ownsRow base 5 1 v0 n0 (xs (byt line) n0 B 0))
    (hcut : cut ≤ line.size) (hc1 : ∀ k, k < cut → byt line k ≠ 35) (hc2 : cut < line.size → byt line cut = 35) :
    Calls Try.prog 19 #[v0, .string ⟨#[]⟩, .string line] w fun e w' => ∃ v, e = .returned (.tuple #[.int .i64 (mn (byt line) n0 cut : Nat), v, .string ⟨#[]⟩]) ∧ Below base w0 w' ∧
      w'.ownsRow base 5 1 v (ht (byt line) n0 cut) (xs (byt line) n0 B cut) := by
  have hne : v0.ownBlock ≠ some w.heap.size := fun e => by have := (hown.lt _ e).2; omega
  obtain ⟨ao, cap, hv⟩ := owns_slice hown
  subst hv
  go_enter Try.func19, Try.ntmps19
  go_wp2_with fail
  refine (read_any line w.heap.size base n0 cut B _ w0 _ hl hn0 hq hbg (hb.alloc hbg _) (blk_new _ _ rfl) (hown.alloc _) hne hcut hc1 hc2).mono ?_
  rintro e w1 ⟨rfl, hb1, v, hg1, hown1⟩
  have r0 : w1.cell? ⟨w.heap.size, 0, none⟩ = some v := cell_at hg1
  have r1 : w1.cell? ⟨w.heap.size, 1, none⟩ = some (.string ⟨#[]⟩) := cell_at hg1
  obtain ⟨ao1, cap1, hv⟩ := owns_slice hown1
  subst hv
  go_wp2_with fail
  go_region
  go_wp2
  go_ret3
  exact ⟨_, rfl, hb1.drew, owns_drew hown1⟩
end Go.Proofs.Qxb6601785a
