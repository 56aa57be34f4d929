import Derived.Test.Qxb6600117aB3
namespace Go.Proofs.Qxb6600117a
open Go.RowKit
set_option linter.unusedSimpArgs false
set_option linter.unusedVariables false

theorem clone_full (ao : Option Addr) (n cap : Nat) (x : Nat → Int) (w : World) (hn : n ≤ 1048576) (hnl : ao = none → n = 0 ∧ cap = 0) (h : RowIn w 0 ao n 1 (fun k _ => .int .i64 (x k))) :
    Calls Try.prog 16 #[.slice ao n cap] w fun e w' => ∃ ao', e = .returned (.slice ao' n n) ∧ RowIn w' w.heap.size ao' n 1 (fun k _ => .int .i64 (x k)) ∧ Below w.heap.size w w' := by
  cases ao with
  | some a =>
    refine (clone_some a n cap x w hn h).mono ?_
    rintro e w' ⟨rfl, hr, hb⟩
    refine ⟨_, rfl, .inr ⟨_, 0, rfl, Nat.le_refl _, hr.lt, fun k hk c hc => ?_⟩, hb⟩
    have : c = 0 := by omega
    subst this
    rw [hr.cell (by omega)]; simp
  | none =>
    obtain ⟨rfl, rfl⟩ := hnl rfl
    have hnil := fun w => Lib.run_eql_slice_nil (P := Try.prog) w 28 3 none 0 0 0 0 Try.underlying28
    go_enter Try.func16, Try.ntmps16
    go_wp2
    go_ret
    exact ⟨_, rfl, .inl rfl, Below.refl _ _⟩

theorem cnt_put' (N : Nat → Nat) (k j y : Nat) (hy : N k = y) : (if j = y then Value.int .i64 ((cnt N y k : Nat) + 1) else .int .i64 (cnt N j k : Nat)) = .int .i64 (cnt N j (k + 1) : Nat) := by
  subst hy; exact cnt_put N k j

set_option maxRecDepth 20000 in
set_option maxHeartbeats 4000000 in
theorem overlap_walk (ao bo : Option Addr) (na ca nb cb : Nat) (x y : Nat → Int) (aL aH bL bH u : Int) (w : World) (hu : -9223372036854775808 ≤ u ∧ u ≤ 9223372036854775807)
    (hnla : ao = none → na = 0 ∧ ca = 0) (ha : RowIn w 0 ao na 1 (fun k _ => .int .i64 (x k))) (hnlb : bo = none → nb = 0 ∧ cb = 0) (hb : RowIn w 0 bo nb 1 (fun k _ => .int .i64 (y k))) :
    Calls Try.prog 7 #[.slice ao na ca, .slice bo nb cb, .int .i64 aL, .int .i64 aH, .int .i64 bL, .int .i64 bH, .int .i64 u] w fun e w' => e = .returned (.bool true) ∧ Below w.heap.size w w' := by
  go_enter Try.func7, Try.ntmps7
  go_wp2_with fail
  refine (bytes19_any ao bo na ca nb cb _ _ _ _ _ _).mono ?_
  rintro e w1 ⟨he, hw1⟩
  replace hw1 := hw1.symm
  subst hw1
  rcases he with rfl | ⟨rfl, hna, hnb⟩
  · go_wp2
    go_ret
    exact ⟨rfl, Below.refl _ _⟩
  by_cases hbig : 65536 < na
  · go_wp2
    go_ret
    exact ⟨rfl, Below.refl _ _⟩
  by_cases hbig2 : 65536 < nb
  · go_wp2
    go_ret
    exact ⟨rfl, Below.refl _ _⟩
  go_wp2_with fail
  refine (range_any ao na ca aL aH _).mono ?_
  rintro e w2 ⟨he, hw2⟩
  replace hw2 := hw2.symm
  subst hw2
  rcases he with rfl | ⟨rfl, hr1, hr2, hr3⟩
  · go_wp2
    go_ret
    exact ⟨rfl, Below.refl _ _⟩
  go_wp2_with fail
  refine (range_any bo nb cb bL bH _).mono ?_
  rintro e w2 ⟨he, hw2⟩
  replace hw2 := hw2.symm
  subst hw2
  rcases he with rfl | ⟨rfl, hr4, hr5, hr6⟩
  · go_wp2
    go_ret
    exact ⟨rfl, Below.refl _ _⟩
  by_cases hu0 : u < 0
  · go_wp2
    go_ret
    exact ⟨rfl, Below.refl _ _⟩
  obtain ⟨aLo, rfl⟩ : ∃ c : Nat, aL = (c : Int) := ⟨aL.toNat, by omega⟩
  obtain ⟨aHi, rfl⟩ : ∃ c : Nat, aH = (c : Int) := ⟨aH.toNat, by omega⟩
  obtain ⟨bLo, rfl⟩ : ∃ c : Nat, bL = (c : Int) := ⟨bL.toNat, by omega⟩
  obtain ⟨bHi, rfl⟩ : ∃ c : Nat, bH = (c : Int) := ⟨bH.toNat, by omega⟩
  obtain ⟨up, rfl⟩ : ∃ c : Nat, u = (c : Int) := ⟨u.toNat, by omega⟩
  go_wp2_with fail
  refine (ids_any ao na ca x aLo aHi 0 _ hna (by omega) (by omega) (by omega) ha).mono ?_
  rintro e w2 ⟨he, hw2⟩
  replace hw2 := hw2.symm
  subst hw2
  rcases he with ⟨z, rfl⟩ | ⟨n1, rfl, _, hn1, hxa⟩
  · go_wp2
    go_ret
    exact ⟨rfl, Below.refl _ _⟩
  go_wp2_with fail
  refine (ids_any bo nb cb y bLo bHi n1 _ hnb (by omega) (by omega) (by omega) hb).mono ?_
  rintro e w2 ⟨he, hw2⟩
  replace hw2 := hw2.symm
  subst hw2
  rcases he with ⟨z, rfl⟩ | ⟨n, rfl, hn12, hn, hyb⟩
  · go_wp2
    go_ret
    exact ⟨rfl, Below.refl _ _⟩
  have hxa' : ∀ k, k < aHi - aLo → x (aLo + k) = (((x (aLo + k)).toNat : Nat) : Int) ∧ (x (aLo + k)).toNat < n := by
    intro k hk
    have := hxa (aLo + k) (by omega) (by omega)
    omega
  have hyb' : ∀ k, k < bHi - bLo → y (bLo + k) = (((y (bLo + k)).toNat : Nat) : Int) ∧ (y (bLo + k)).toNat < n := by
    intro k hk
    have := hyb (bLo + k) (by omega) (by omega)
    omega
  clear hxa hyb
  obtain ⟨S, hS⟩ : ∃ S : Nat → Nat, ∀ k, k < aHi - aLo → x (aLo + k) = (S k : Int) ∧ S k < n := ⟨_, hxa'⟩
  obtain ⟨L, hL⟩ : ∃ L : Nat → Nat, ∀ k, k < bHi - bLo → y (bLo + k) = (L k : Int) ∧ L k < n := ⟨_, hyb'⟩
  clear hxa' hyb'
  have hmk := run_make_any (P := Try.prog) 28 3 (.int .i64 0) 1 8 Try.underlying28 info3 .i64 .i64 n (by omega) (by omega)
  go_wp2_with fail
  refine (clone_full ao na ca x _ hna hnla ha).mono ?_
  rintro e wa ⟨ao', rfl, hra, hba⟩
  go_wp2_with fail
  refine (clone_full bo nb cb y _ hnb hnlb (hb.below hba (Nat.le_refl _))).mono ?_
  rintro e wb ⟨bo', rfl, hrb, hbb⟩
  have hra2 := (hra.below hbb (Nat.le_refl _)).lower (Nat.zero_le _)
  have hrb2 := hrb.lower (Nat.zero_le _)
  have hwb : Below w.heap.size w wb := hba.trans (hbb.mono hba.size)
  clear hra hrb hba hbb ha hb
  go_wp2_with fail
  refine (zzKeep_any wb _ ao' bo' na nb n up aLo aHi bLo bHi x y S L ((Below.refl _ _).alloc (Nat.le_refl _) _) ?_ hra2 hrb2 (by omega) (by omega) (by omega) (by omega) hna hnb hn (by omega) hS hL).mono ?_
  · exact World.rowIs_made wb (.int .i64 0) n 3
  rintro e wk ⟨rfl, hbk⟩
  have z1 := hbk.size
  obtain ⟨got, hgot⟩ : ∃ got : Nat, min up (ov (fun j => cnt S j (aHi - aLo)) (fun j => cnt L j (bHi - bLo)) n) = got := ⟨_, rfl⟩
  rw [hgot]
  have B1 : Below wb.heap.size wb ((wk.alloc (.cells (madeCells #[.int .i64 0] n) 3)).alloc (.cells (madeCells #[.int .i64 0] n) 3)) := (hbk.alloc z1 _).alloc (by simp; omega) _
  have R1 : ((wk.alloc (.cells (madeCells #[.int .i64 0] n) 3)).alloc (.cells (madeCells #[.int .i64 0] n) 3)).rowIs wk.heap.size 3 n (fun _ => .int .i64 0) := World.rowIs.alloc (World.rowIs_made wk (.int .i64 0) n 3) _
  have R2 : ((wk.alloc (.cells (madeCells #[.int .i64 0] n) 3)).alloc (.cells (madeCells #[.int .i64 0] n) 3)).rowIs (wk.heap.size + 1) 3 n (fun _ => .int .i64 0) := by
    have := World.rowIs_made (wk.alloc (.cells (madeCells #[.int .i64 0] n) 3)) (.int .i64 0) n 3
    simpa using this
  obtain ⟨g1, hg1⟩ : ∃ g1, wk.heap.size = g1 := ⟨_, rfl⟩
  go_wp2
  go_loopw [21] (fun i wr => ∃ t k : Nat, aLo + t = k ∧ k ≤ aHi ∧ i = .int .i64 k ∧ Below wb.heap.size wb wr ∧ wr.rowIs g1 3 n (fun j => .int .i64 (cnt S j t : Nat)) ∧ wr.rowIs (g1 + 1) 3 n (fun _ => .int .i64 0)) (fun i _ => aHi - (intOf i).toNat)
  case atStart => exact ⟨0, aLo, by omega, by omega, rfl, B1, by subst hg1; exact R1.congr (fun j _ => by simp [cnt_zero]), by subst hg1; exact R2⟩
  case round =>
    obtain ⟨t, k, hkt, hk, rfl, kb, k1, k2⟩ := hrel
    clear B1 R1 R2
    by_cases hlt : k < aHi
    · have hSt := hS t (by omega)
      rw [hkt] at hSt
      obtain ⟨s, hs⟩ : ∃ s, S t = s := ⟨_, rfl⟩
      rw [hs] at hSt
      rcases hra2 with hz | ⟨b, o, rfl, _, hbl, hcell⟩
      · omega
      · have q0 : wr.cell? ⟨b, o + k, none⟩ = some (.int .i64 (s : Int)) := by
          rw [kb.cell (p := ⟨b, o + k, none⟩) hbl, ← hSt.1]; simpa using hcell k (by omega) 0 (by omega)
        have hsn := hSt.2
        have q2 : wr.cell? ⟨g1, s, none⟩ = some (.int .i64 (cnt S s t : Nat)) := k1.cell (by omega)
        have q3 : wr.frozen? ⟨g1, s, none⟩ = false := k1.frozen _
        have hst : (cnt S s t : Int) ≤ 1048576 := by
          have := cnt_le S s t
          omega
        have R1 : Hid _ := (k1.set s (.int .i64 ((cnt S s t : Nat) + 1))).congr (fun j _ => cnt_put' S t j s hs)
        clear hcell hSt
        go_wp2
        go_roundw
        case rel => exact ⟨t + 1, k + 1, by omega, by omega, by go_num, kb.setCell (by simp; omega) _, R1.out, k2.setOther (by simp) _⟩
        case measure => simp [intOf]; omega
    · have htA : t = aHi - aLo := by omega
      subst htA
      go_wp2
      go_loopw [22] (fun i wr => ∃ t k : Nat, bLo + t = k ∧ k ≤ bHi ∧ i = .int .i64 k ∧ Below wb.heap.size wb wr ∧ wr.rowIs g1 3 n (fun j => .int .i64 (cnt S j (aHi - aLo) : Nat)) ∧ wr.rowIs (g1 + 1) 3 n (fun j => .int .i64 (cnt L j t : Nat))) (fun i _ => bHi - (intOf i).toNat)
      case atStart => exact ⟨0, bLo, by omega, by omega, rfl, kb, k1, k2.congr (fun j _ => by simp [cnt_zero])⟩
      case round =>
        obtain ⟨t, k', hkt', hk', rfl, jb, j1, j2⟩ := hrel
        clear kb k1 k2
        by_cases hlt2 : k' < bHi
        · have hSt := hL t (by omega)
          rw [hkt'] at hSt
          obtain ⟨s, hs⟩ : ∃ s, L t = s := ⟨_, rfl⟩
          rw [hs] at hSt
          rcases hrb2 with hz | ⟨b, o, rfl, _, hbl, hcell⟩
          · omega
          · have q0 : wr.cell? ⟨b, o + k', none⟩ = some (.int .i64 (s : Int)) := by
              rw [jb.cell (p := ⟨b, o + k', none⟩) hbl, ← hSt.1]; simpa using hcell k' (by omega) 0 (by omega)
            have hsn := hSt.2
            have q2 : wr.cell? ⟨g1 + 1, s, none⟩ = some (.int .i64 (cnt L s t : Nat)) := j2.cell (by omega)
            have q3 : wr.frozen? ⟨g1 + 1, s, none⟩ = false := j2.frozen _
            have hst : (cnt L s t : Int) ≤ 1048576 := by
              have := cnt_le L s t
              omega
            have R1 : Hid _ := (j2.set s (.int .i64 ((cnt L s t : Nat) + 1))).congr (fun j _ => cnt_put' L t j s hs)
            clear hcell hSt
            go_wp2
            go_roundw
            case rel => exact ⟨t + 1, k' + 1, by omega, by omega, by go_num, jb.setCell (by simp; omega) _, j1.setOther (by simp) _, R1.out⟩
            case measure => simp [intOf]; omega
        · have htB : t = bHi - bLo := by omega
          subst htB
          go_wp2
          go_loopw [24, 23] (fun i v wr => ∃ id : Nat, id ≤ n ∧ i = .int .i64 id ∧ v = .int .i64 ((ov (fun j => cnt S j (aHi - aLo)) (fun j => cnt L j (bHi - bLo)) id : Nat) : Int) ∧ Below wb.heap.size wb wr ∧ wr.rowIs g1 3 n (fun j => .int .i64 (cnt S j (aHi - aLo) : Nat)) ∧ wr.rowIs (g1 + 1) 3 n (fun j => .int .i64 (cnt L j (bHi - bLo) : Nat))) (fun i _ _ => n - (intOf i).toNat)
          case atStart => exact ⟨0, Nat.zero_le _, rfl, rfl, jb, j1, j2⟩
          case round =>
            obtain ⟨id, hid, rfl, rfl, lb, l1, l2⟩ := hrel
            clear jb j1 j2
            have hm1 := ov_le S L (aHi - aLo) (bHi - bLo) id
            by_cases hlt3 : id < n
            · have q1 : wr.cell? ⟨g1, id, none⟩ = some (.int .i64 (cnt S id (aHi - aLo) : Nat)) := l1.cell (by omega)
              have q2 : wr.cell? ⟨g1 + 1, id, none⟩ = some (.int .i64 (cnt L id (bHi - bLo) : Nat)) := l2.cell (by omega)
              have e1 : ov (fun j => cnt S j (aHi - aLo)) (fun j => cnt L j (bHi - bLo)) (id + 1) = ov (fun j => cnt S j (aHi - aLo)) (fun j => cnt L j (bHi - bLo)) id + min (cnt S id (aHi - aLo)) (cnt L id (bHi - bLo)) := rfl
              have c1 := cnt_le S id (aHi - aLo)
              have c2 := cnt_le L id (bHi - bLo)
              obtain ⟨m, hm⟩ : ∃ m, ov (fun j => cnt S j (aHi - aLo)) (fun j => cnt L j (bHi - bLo)) id = m := ⟨_, rfl⟩
              obtain ⟨p, hp⟩ : ∃ p, cnt S id (aHi - aLo) = p := ⟨_, rfl⟩
              obtain ⟨q, hq⟩ : ∃ q, cnt L id (bHi - bLo) = q := ⟨_, rfl⟩
              rw [hm] at hm1 e1 ⊢
              rw [hp] at q1 e1 c1
              rw [hq] at q2 e1 c2
              have hi0 : (0 : Int) ≤ (id : Int) := by omega
              have hi1 : (id : Int) < (n : Int) := by omega
              by_cases hpq : p < q
              · go_wp2_with fail
                go_region
                go_wp2
                go_roundw
                case rel => exact ⟨id + 1, by omega, by go_num, by rw [e1]; go_num, lb.drew, World.rowIs.drew l1, World.rowIs.drew l2⟩
                case measure => simp [intOf]; omega
              · go_wp2_with fail
                go_region
                go_wp2
                go_roundw
                case rel => exact ⟨id + 1, by omega, by go_num, by rw [e1]; go_num, lb.drew, World.rowIs.drew l1, World.rowIs.drew l2⟩
                case measure => simp [intOf]; omega
            · have hidn : n = id := by omega
              subst hidn
              obtain ⟨m, hm⟩ : ∃ m, ov (fun j => cnt S j (aHi - aLo)) (fun j => cnt L j (bHi - bLo)) n = m := ⟨_, rfl⟩
              rw [hm] at hgot ⊢
              by_cases hum : up < m
              · have : up = got := by omega
                subst this
                go_wp2
                go_ret
                exact ⟨rfl, hwb.trans (lb.mono hwb.size)⟩
              · have : m = got := by omega
                subst this
                go_wp2
                go_ret
                exact ⟨rfl, hwb.trans (lb.mono hwb.size)⟩
end Go.Proofs.Qxb6600117a
