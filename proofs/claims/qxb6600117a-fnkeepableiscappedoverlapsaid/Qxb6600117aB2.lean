import Derived.Test.Qxb6600117aB1
import Derived.Test.Qxb6600117aPlain3
import Derived.Deep.RegionHeld3
import Derived.BigRegion
namespace Go.Proofs.Qxb6600117a
open Go.RowKit
set_option linter.unusedSimpArgs false
set_option linter.unusedVariables false

theorem cnt_put (N : Nat → Nat) (k j : Nat) : (if j = N k then Value.int .i64 ((cnt N (N k) k : Nat) + 1) else .int .i64 (cnt N j k : Nat)) = .int .i64 (cnt N j (k + 1) : Nat) := by
  by_cases h : j = N k
  · subst h; simp [cnt_succ]
  · have : ¬ N k = j := fun e => h e.symm
    simp [h, cnt_succ, this]
theorem lft_put (S L : Nat → Nat) (ns k j : Nat) (hp : 0 < lft S L ns k (L k)) : (if j = L k then Value.int .i64 ((lft S L ns k (L k) : Nat) - 1) else .int .i64 (lft S L ns k j : Nat)) = .int .i64 (lft S L ns (k + 1) j : Nat) := by
  by_cases h : j = L k
  · subst h
    simp only [lft, cnt_succ, if_true] at *
    congr 1; omega
  · have : ¬ L k = j := fun e => h e.symm
    simp [h, lft, cnt_succ, this]
theorem lft_stay (S L : Nat → Nat) (ns k j : Nat) (hp : ¬ 0 < lft S L ns k (L k)) : lft S L ns (k + 1) j = lft S L ns k j := by
  by_cases h : j = L k
  · subst h
    simp only [lft, cnt_succ, if_true] at *
    omega
  · have : ¬ L k = j := fun e => h e.symm
    simp [lft, cnt_succ, this]

set_option maxRecDepth 20000 in
set_option maxHeartbeats 4000000 in
theorem keepable_any (w0 w : World) (gp : Nat) (ce : Array Value) (va vb : Value) (aLo aHi bLo bHi : Int) (so lo : Option Addr) (ns cs nl cl n up : Nat) (S L : Nat → Nat)
    (hb0 : Below w0.heap.size w0 w) (hgp : gp ≠ w0.heap.size) (hE : w.heap[gp]? = some (.cells ce 47 (0, 0))) (hE0 : ce[0]? = some va) (hE1 : ce[1]? = some vb) (hE12 : ce[12]? = some (.slice (some ⟨w0.heap.size, 0, none⟩) n n))
    (hc : w.rowIs w0.heap.size 3 n (fun _ => .int .i64 0))
    (ha : ∃ ao na ca, va = .slice ao na ca) (hb : ∃ bo nb cb, vb = .slice bo nb cb)
    (hsa : ∀ w, (Instr.slice 28 va (some (.int .i64 aLo)) (some (.int .i64 aHi)) none).run Try.prog w = .ok (.slice so ns cs) w)
    (hsb : ∀ w, (Instr.slice 28 vb (some (.int .i64 bLo)) (some (.int .i64 bHi)) none).run Try.prog w = .ok (.slice lo nl cl) w)
    (hS : RowIn w0 0 so ns 1 (fun k _ => .int .i64 (S k : Int))) (hL : RowIn w0 0 lo nl 1 (fun k _ => .int .i64 (L k : Int)))
    (hSn : ∀ i, i < ns → S i < n) (hLn : ∀ i, i < nl → L i < n) (hns : ns ≤ 1048576) (hnl : nl ≤ 1048576) (hn : n ≤ 65536) (hup : up ≤ 9223372036854775807) :
    Calls Try.prog 28 #[.pointer (some ⟨gp, 0, none⟩), .int .i64 aLo, .int .i64 aHi, .int .i64 bLo, .int .i64 bHi, .int .i64 up] w fun e w' => e = .returned (.int .i64 ((min up (ov (fun j => cnt S j ns) (fun j => cnt L j nl) n) : Nat) : Int)) ∧ Below w0.heap.size w0 w' := by
  obtain ⟨ao, na, ca, rfl⟩ := ha
  obtain ⟨bo, nb, cb, rfl⟩ := hb
  have q0 : w.cell? ⟨gp, 0, none⟩ = some (.slice ao na ca) := by rw [cell_at hE]; exact hE0
  have q1 : w.cell? ⟨gp, 1, none⟩ = some (.slice bo nb cb) := by rw [cell_at hE]; exact hE1
  clear hE0 hE1
  go_enter Try.func28, Try.ntmps28
  go_wp2_with fail
  go_region
  by_cases hsw : (nl : Int) < ns
  · go_wp2
    go_loopw [45] (fun i wr => ∃ k : Nat, k ≤ nl ∧ i = .int .i64 k ∧ Below w0.heap.size w0 wr ∧ wr.heap[gp]? = some (.cells ce 47 (0, 0)) ∧ wr.rowIs w0.heap.size 3 n (fun j => .int .i64 (cnt L j k : Nat))) (fun i _ => nl - (intOf i).toNat)
    case atStart => exact ⟨0, Nat.zero_le _, rfl, hb0.drew, blk_drew hE, World.rowIs.drew (hc.congr (fun j _ => by simp [cnt_zero]))⟩
    case round =>
      obtain ⟨k, hk, rfl, kb, kE, k1⟩ := hrel
      clear hb0 hE hc
      by_cases hlt : k < nl
      · rcases hL with hz | ⟨b, o, rfl, _, hbl, hcell⟩
        · omega
        · have q0 : wr.cell? ⟨b, o + k, none⟩ = some (.int .i64 (L k : Int)) := by
            rw [kb.cell (p := ⟨b, o + k, none⟩) hbl]; simpa using hcell k hlt 0 (by omega)
          have hNk := hLn k hlt
          have q1 : wr.cell? ⟨gp, 12, none⟩ = some (.slice (some ⟨w0.heap.size, 0, none⟩) n n) := by rw [cell_at kE]; exact hE12
          have q2 : wr.cell? ⟨w0.heap.size, L k, none⟩ = some (.int .i64 (cnt L (L k) k : Nat)) := k1.cell (by omega)
          have q3 : wr.frozen? ⟨w0.heap.size, L k, none⟩ = false := k1.frozen _
          have hst : (cnt L (L k) k : Int) ≤ 1048576 := by
            have := cnt_le L (L k) k
            omega
          have R1 : Hid _ := (k1.set (L k) (.int .i64 ((cnt L (L k) k : Nat) + 1))).congr (fun j _ => cnt_put L k j)
          clear hcell
          go_wp2
          go_roundw
          case rel => exact ⟨k + 1, by omega, by go_num, kb.setCell (Nat.le_refl _) _, blk_set kE hgp _, R1.out⟩
          case measure => simp [intOf]; omega
      · have hkn : nl = k := by omega
        subst hkn
        go_wp2
        go_loopw [61, 17] (fun i v wr => ∃ t q : Nat, t ≤ ns ∧ i = .int .i64 t ∧ v = .int .i64 q ∧ q ≤ up ∧ q = ov (fun j => cnt L j nl) (fun j => cnt S j t) n ∧ Below w0.heap.size w0 wr ∧ wr.heap[gp]? = some (.cells ce 47 (0, 0)) ∧ wr.rowIs w0.heap.size 3 n (fun j => .int .i64 (lft L S nl t j : Nat))) (fun i _ _ => ns - (intOf i).toNat)
        case atStart => exact ⟨0, 0, Nat.zero_le _, rfl, rfl, Nat.zero_le _, (ov_zero _ _).symm, kb, kE, k1.congr (fun j _ => by rw [lft_zero])⟩
        case round =>
          obtain ⟨t, q, ht, rfl, rfl, hqu, hq, jb, jE, j1⟩ := hrel
          clear kb kE k1
          have hov : ov (fun j => cnt L j nl) (fun j => cnt S j t) n ≤ ov (fun j => cnt L j nl) (fun j => cnt S j ns) n := ov_mono (fun i _ => cnt_mono _ _ ht)
          have hqt := ov_le L S nl t n
          have hcm := ov_comm (fun j => cnt S j ns) (fun j => cnt L j nl) n
          by_cases hlt2 : t < ns
          · have qL : ∃ b o, so = some ⟨b, o, none⟩ ∧ wr.cell? ⟨b, o + t, none⟩ = some (.int .i64 (S t : Int)) := by
              rcases hS with hz | ⟨b, o, e, _, hbl, hcell⟩
              · omega
              · refine ⟨b, o, e, ?_⟩
                rw [jb.cell (p := ⟨b, o + t, none⟩) hbl]; simpa using hcell t hlt2 0 (by omega)
            obtain ⟨b, o, hlo, q0⟩ := qL
            subst hlo
            by_cases hqe : q = up
            · subst hqe
              go_wp2
              go_loopw [90] (fun i wr => ∃ k : Nat, k ≤ nl ∧ i = .int .i64 k ∧ Below w0.heap.size w0 wr ∧ wr.heap[gp]? = some (.cells ce 47 (0, 0)) ∧ ∃ f : Nat → Int, wr.rowIs w0.heap.size 3 n (fun j => .int .i64 (f j))) (fun i _ => nl - (intOf i).toNat)
              case atStart => exact ⟨0, Nat.zero_le _, rfl, jb, jE, _, j1⟩
              case round =>
                obtain ⟨s, hs, rfl, sb, sE, f, s1⟩ := hrel
                clear jb jE j1
                by_cases hlt3 : s < nl
                · rcases hL with hz | ⟨b, o, rfl, _, hbl, hcell⟩
                  · omega
                  · have q0 : wr.cell? ⟨b, o + s, none⟩ = some (.int .i64 (L s : Int)) := by
                      rw [sb.cell (p := ⟨b, o + s, none⟩) hbl]; simpa using hcell s hlt3 0 (by omega)
                    have hNk := hLn s hlt3
                    have q1 : wr.cell? ⟨gp, 12, none⟩ = some (.slice (some ⟨w0.heap.size, 0, none⟩) n n) := by rw [cell_at sE]; exact hE12
                    have q2 : wr.cell? ⟨w0.heap.size, L s, none⟩ = some (.int .i64 (f (L s))) := s1.cell (by omega)
                    have q3 : wr.frozen? ⟨w0.heap.size, L s, none⟩ = false := s1.frozen _
                    have R1 : Hid _ := (s1.set (L s) (.int .i64 0)).congr (g := fun j => .int .i64 (if j = L s then 0 else f j)) (fun j _ => by split <;> rfl)
                    clear hcell
                    go_wp2
                    go_roundw
                    case rel => exact ⟨s + 1, by omega, by go_num, sb.setCell (Nat.le_refl _) _, blk_set sE hgp _, _, R1.out⟩
                    case measure => simp [intOf]; omega
                · go_wp2
                  go_ret
                  refine ⟨?_, sb⟩
                  show Ending.returned (.int .i64 (q : Int)) = _
                  exact congrArg (fun z : Nat => Ending.returned (.int .i64 (z : Int))) (by omega)

            · have hNk := hSn t hlt2
              have q1 : wr.cell? ⟨gp, 12, none⟩ = some (.slice (some ⟨w0.heap.size, 0, none⟩) n n) := by rw [cell_at jE]; exact hE12
              have q2 : wr.cell? ⟨w0.heap.size, S t, none⟩ = some (.int .i64 (lft L S nl t (S t) : Nat)) := j1.cell (by omega)
              have q3 : wr.frozen? ⟨w0.heap.size, S t, none⟩ = false := j1.frozen _
              have hst : (lft L S nl t (S t) : Int) ≤ 1048576 := by
                have := lft_le L S nl t (S t)
                omega
              have hstep := ov_cnt_step (S := L) (L := S) (ns := nl) (k := t) (n := n) hNk
              have hpi := lft_pos L S nl t
              by_cases hp : 0 < lft L S nl t (S t)
              · have R1 : Hid _ := (j1.set (S t) (.int .i64 ((lft L S nl t (S t) : Nat) - 1))).congr (fun j _ => lft_put L S nl t j hp)
                rw [if_pos (hpi.1 hp)] at hstep
                go_wp2
                go_roundw
                case rel => exact ⟨t + 1, q + 1, by omega, by go_num, by go_num, by omega, by omega, jb.setCell (Nat.le_refl _) _, blk_set jE hgp _, R1.out⟩
                case measure => simp [intOf]; omega
              · rw [if_neg (fun e => hp (hpi.2 e))] at hstep
                have R1 : Hid _ := j1.congr (fun j _ => by rw [← lft_stay L S nl t j hp])
                go_wp2
                go_roundw
                case rel => exact ⟨t + 1, q, by omega, by go_num, rfl, by omega, by omega, jb, jE, R1.out⟩
                case measure => simp [intOf]; omega
          · have hov2 : q = ov (fun j => cnt L j nl) (fun j => cnt S j ns) n := by
              have htn : ns = t := by omega
              rw [hq, htn]
            go_wp2
            go_loopw [90] (fun i wr => ∃ k : Nat, k ≤ nl ∧ i = .int .i64 k ∧ Below w0.heap.size w0 wr ∧ wr.heap[gp]? = some (.cells ce 47 (0, 0)) ∧ ∃ f : Nat → Int, wr.rowIs w0.heap.size 3 n (fun j => .int .i64 (f j))) (fun i _ => nl - (intOf i).toNat)
            case atStart => exact ⟨0, Nat.zero_le _, rfl, jb, jE, _, j1⟩
            case round =>
              obtain ⟨s, hs, rfl, sb, sE, f, s1⟩ := hrel
              clear jb jE j1
              by_cases hlt3 : s < nl
              · rcases hL with hz | ⟨b, o, rfl, _, hbl, hcell⟩
                · omega
                · have q0 : wr.cell? ⟨b, o + s, none⟩ = some (.int .i64 (L s : Int)) := by
                    rw [sb.cell (p := ⟨b, o + s, none⟩) hbl]; simpa using hcell s hlt3 0 (by omega)
                  have hNk := hLn s hlt3
                  have q1 : wr.cell? ⟨gp, 12, none⟩ = some (.slice (some ⟨w0.heap.size, 0, none⟩) n n) := by rw [cell_at sE]; exact hE12
                  have q2 : wr.cell? ⟨w0.heap.size, L s, none⟩ = some (.int .i64 (f (L s))) := s1.cell (by omega)
                  have q3 : wr.frozen? ⟨w0.heap.size, L s, none⟩ = false := s1.frozen _
                  have R1 : Hid _ := (s1.set (L s) (.int .i64 0)).congr (g := fun j => .int .i64 (if j = L s then 0 else f j)) (fun j _ => by split <;> rfl)
                  clear hcell
                  go_wp2
                  go_roundw
                  case rel => exact ⟨s + 1, by omega, by go_num, sb.setCell (Nat.le_refl _) _, blk_set sE hgp _, _, R1.out⟩
                  case measure => simp [intOf]; omega
              · go_wp2
                go_ret
                refine ⟨?_, sb⟩
                show Ending.returned (.int .i64 (q : Int)) = _
                exact congrArg (fun z : Nat => Ending.returned (.int .i64 (z : Int))) (by omega)
  · go_wp2
    go_loopw [45] (fun i wr => ∃ k : Nat, k ≤ ns ∧ i = .int .i64 k ∧ Below w0.heap.size w0 wr ∧ wr.heap[gp]? = some (.cells ce 47 (0, 0)) ∧ wr.rowIs w0.heap.size 3 n (fun j => .int .i64 (cnt S j k : Nat))) (fun i _ => ns - (intOf i).toNat)
    case atStart => exact ⟨0, Nat.zero_le _, rfl, hb0.drew, blk_drew hE, World.rowIs.drew (hc.congr (fun j _ => by simp [cnt_zero]))⟩
    case round =>
      obtain ⟨k, hk, rfl, kb, kE, k1⟩ := hrel
      clear hb0 hE hc
      by_cases hlt : k < ns
      · rcases hS with hz | ⟨b, o, rfl, _, hbl, hcell⟩
        · omega
        · have q0 : wr.cell? ⟨b, o + k, none⟩ = some (.int .i64 (S k : Int)) := by
            rw [kb.cell (p := ⟨b, o + k, none⟩) hbl]; simpa using hcell k hlt 0 (by omega)
          have hNk := hSn k hlt
          have q1 : wr.cell? ⟨gp, 12, none⟩ = some (.slice (some ⟨w0.heap.size, 0, none⟩) n n) := by rw [cell_at kE]; exact hE12
          have q2 : wr.cell? ⟨w0.heap.size, S k, none⟩ = some (.int .i64 (cnt S (S k) k : Nat)) := k1.cell (by omega)
          have q3 : wr.frozen? ⟨w0.heap.size, S k, none⟩ = false := k1.frozen _
          have hst : (cnt S (S k) k : Int) ≤ 1048576 := by
            have := cnt_le S (S k) k
            omega
          have R1 : Hid _ := (k1.set (S k) (.int .i64 ((cnt S (S k) k : Nat) + 1))).congr (fun j _ => cnt_put S k j)
          clear hcell
          go_wp2
          go_roundw
          case rel => exact ⟨k + 1, by omega, by go_num, kb.setCell (Nat.le_refl _) _, blk_set kE hgp _, R1.out⟩
          case measure => simp [intOf]; omega
      · have hkn : ns = k := by omega
        subst hkn
        go_wp2
        go_loopw [61, 17] (fun i v wr => ∃ t q : Nat, t ≤ nl ∧ i = .int .i64 t ∧ v = .int .i64 q ∧ q ≤ up ∧ q = ov (fun j => cnt S j ns) (fun j => cnt L j t) n ∧ Below w0.heap.size w0 wr ∧ wr.heap[gp]? = some (.cells ce 47 (0, 0)) ∧ wr.rowIs w0.heap.size 3 n (fun j => .int .i64 (lft S L ns t j : Nat))) (fun i _ _ => nl - (intOf i).toNat)
        case atStart => exact ⟨0, 0, Nat.zero_le _, rfl, rfl, Nat.zero_le _, (ov_zero _ _).symm, kb, kE, k1.congr (fun j _ => by rw [lft_zero])⟩
        case round =>
          obtain ⟨t, q, ht, rfl, rfl, hqu, hq, jb, jE, j1⟩ := hrel
          clear kb kE k1
          have hov : ov (fun j => cnt S j ns) (fun j => cnt L j t) n ≤ ov (fun j => cnt S j ns) (fun j => cnt L j nl) n := ov_mono (fun i _ => cnt_mono _ _ ht)
          have hqt := ov_le S L ns t n
          skip
          by_cases hlt2 : t < nl
          · have qL : ∃ b o, lo = some ⟨b, o, none⟩ ∧ wr.cell? ⟨b, o + t, none⟩ = some (.int .i64 (L t : Int)) := by
              rcases hL with hz | ⟨b, o, e, _, hbl, hcell⟩
              · omega
              · refine ⟨b, o, e, ?_⟩
                rw [jb.cell (p := ⟨b, o + t, none⟩) hbl]; simpa using hcell t hlt2 0 (by omega)
            obtain ⟨b, o, hlo, q0⟩ := qL
            subst hlo
            by_cases hqe : q = up
            · subst hqe
              go_wp2
              go_loopw [90] (fun i wr => ∃ k : Nat, k ≤ ns ∧ i = .int .i64 k ∧ Below w0.heap.size w0 wr ∧ wr.heap[gp]? = some (.cells ce 47 (0, 0)) ∧ ∃ f : Nat → Int, wr.rowIs w0.heap.size 3 n (fun j => .int .i64 (f j))) (fun i _ => ns - (intOf i).toNat)
              case atStart => exact ⟨0, Nat.zero_le _, rfl, jb, jE, _, j1⟩
              case round =>
                obtain ⟨s, hs, rfl, sb, sE, f, s1⟩ := hrel
                clear jb jE j1
                by_cases hlt3 : s < ns
                · rcases hS with hz | ⟨b, o, rfl, _, hbl, hcell⟩
                  · omega
                  · have q0 : wr.cell? ⟨b, o + s, none⟩ = some (.int .i64 (S s : Int)) := by
                      rw [sb.cell (p := ⟨b, o + s, none⟩) hbl]; simpa using hcell s hlt3 0 (by omega)
                    have hNk := hSn s hlt3
                    have q1 : wr.cell? ⟨gp, 12, none⟩ = some (.slice (some ⟨w0.heap.size, 0, none⟩) n n) := by rw [cell_at sE]; exact hE12
                    have q2 : wr.cell? ⟨w0.heap.size, S s, none⟩ = some (.int .i64 (f (S s))) := s1.cell (by omega)
                    have q3 : wr.frozen? ⟨w0.heap.size, S s, none⟩ = false := s1.frozen _
                    have R1 : Hid _ := (s1.set (S s) (.int .i64 0)).congr (g := fun j => .int .i64 (if j = S s then 0 else f j)) (fun j _ => by split <;> rfl)
                    clear hcell
                    go_wp2
                    go_roundw
                    case rel => exact ⟨s + 1, by omega, by go_num, sb.setCell (Nat.le_refl _) _, blk_set sE hgp _, _, R1.out⟩
                    case measure => simp [intOf]; omega
                · go_wp2
                  go_ret
                  refine ⟨?_, sb⟩
                  show Ending.returned (.int .i64 (q : Int)) = _
                  exact congrArg (fun z : Nat => Ending.returned (.int .i64 (z : Int))) (by omega)

            · have hNk := hLn t hlt2
              have q1 : wr.cell? ⟨gp, 12, none⟩ = some (.slice (some ⟨w0.heap.size, 0, none⟩) n n) := by rw [cell_at jE]; exact hE12
              have q2 : wr.cell? ⟨w0.heap.size, L t, none⟩ = some (.int .i64 (lft S L ns t (L t) : Nat)) := j1.cell (by omega)
              have q3 : wr.frozen? ⟨w0.heap.size, L t, none⟩ = false := j1.frozen _
              have hst : (lft S L ns t (L t) : Int) ≤ 1048576 := by
                have := lft_le S L ns t (L t)
                omega
              have hstep := ov_cnt_step (S := S) (L := L) (ns := ns) (k := t) (n := n) hNk
              have hpi := lft_pos S L ns t
              by_cases hp : 0 < lft S L ns t (L t)
              · have R1 : Hid _ := (j1.set (L t) (.int .i64 ((lft S L ns t (L t) : Nat) - 1))).congr (fun j _ => lft_put S L ns t j hp)
                rw [if_pos (hpi.1 hp)] at hstep
                go_wp2
                go_roundw
                case rel => exact ⟨t + 1, q + 1, by omega, by go_num, by go_num, by omega, by omega, jb.setCell (Nat.le_refl _) _, blk_set jE hgp _, R1.out⟩
                case measure => simp [intOf]; omega
              · rw [if_neg (fun e => hp (hpi.2 e))] at hstep
                have R1 : Hid _ := j1.congr (fun j _ => by rw [← lft_stay S L ns t j hp])
                go_wp2
                go_roundw
                case rel => exact ⟨t + 1, q, by omega, by go_num, rfl, by omega, by omega, jb, jE, R1.out⟩
                case measure => simp [intOf]; omega
          · have hov2 : q = ov (fun j => cnt S j ns) (fun j => cnt L j nl) n := by
              have htn : nl = t := by omega
              rw [hq, htn]
            go_wp2
            go_loopw [90] (fun i wr => ∃ k : Nat, k ≤ ns ∧ i = .int .i64 k ∧ Below w0.heap.size w0 wr ∧ wr.heap[gp]? = some (.cells ce 47 (0, 0)) ∧ ∃ f : Nat → Int, wr.rowIs w0.heap.size 3 n (fun j => .int .i64 (f j))) (fun i _ => ns - (intOf i).toNat)
            case atStart => exact ⟨0, Nat.zero_le _, rfl, jb, jE, _, j1⟩
            case round =>
              obtain ⟨s, hs, rfl, sb, sE, f, s1⟩ := hrel
              clear jb jE j1
              by_cases hlt3 : s < ns
              · rcases hS with hz | ⟨b, o, rfl, _, hbl, hcell⟩
                · omega
                · have q0 : wr.cell? ⟨b, o + s, none⟩ = some (.int .i64 (S s : Int)) := by
                    rw [sb.cell (p := ⟨b, o + s, none⟩) hbl]; simpa using hcell s hlt3 0 (by omega)
                  have hNk := hSn s hlt3
                  have q1 : wr.cell? ⟨gp, 12, none⟩ = some (.slice (some ⟨w0.heap.size, 0, none⟩) n n) := by rw [cell_at sE]; exact hE12
                  have q2 : wr.cell? ⟨w0.heap.size, S s, none⟩ = some (.int .i64 (f (S s))) := s1.cell (by omega)
                  have q3 : wr.frozen? ⟨w0.heap.size, S s, none⟩ = false := s1.frozen _
                  have R1 : Hid _ := (s1.set (S s) (.int .i64 0)).congr (g := fun j => .int .i64 (if j = S s then 0 else f j)) (fun j _ => by split <;> rfl)
                  clear hcell
                  go_wp2
                  go_roundw
                  case rel => exact ⟨s + 1, by omega, by go_num, sb.setCell (Nat.le_refl _) _, blk_set sE hgp _, _, R1.out⟩
                  case measure => simp [intOf]; omega
              · go_wp2
                go_ret
                refine ⟨?_, sb⟩
                show Ending.returned (.int .i64 (q : Int)) = _
                exact congrArg (fun z : Nat => Ending.returned (.int .i64 (z : Int))) (by omega)
end Go.Proofs.Qxb6600117a
