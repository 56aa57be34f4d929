import Derived.Test.Qxb6600017aA3
import Derived.Test.Qxb6600017aC3
namespace Go.Proofs.Qxb6600017a
open Go.RowKit
set_option linter.unusedSimpArgs false
set_option linter.unusedVariables false

/-- A table as it was read. -/
structure Tab where
  p : Int
  s : Int
  np : Bool
  qp : Bool
  fo : Option Addr
  n : Nat
  cap : Nat
  x : Nat → Int
  fa : Option Addr
  m : Nat
  mcap : Nat
  fx : Nat → Int
  fb : Nat → Bool
  ba : Option Addr
  l : Nat
  lcap : Nat
  bx : Nat → Int
  bb : Nat → Bool

def Tab.cells (t : Tab) : Array Value := #[.int .i32 t.p, .int .i32 t.s, .bool t.np, .bool t.qp, .slice t.fo t.n t.cap, .slice t.fa t.m t.mcap, .slice t.ba t.l t.lcap]
def Tab.cell (t : Tab) (c : Nat) : Value := t.cells.getD c undef

/-- Its numbers fit; its slices lie in w. -/
structure Tab.Ok (t : Tab) (w : World) : Prop where
  p : -2147483648 ≤ t.p ∧ t.p ≤ 2147483647
  s : -2147483648 ≤ t.s ∧ t.s ≤ 2147483647
  fo : t.fo = none → t.n = 0 ∧ t.cap = 0
  rx : RowIn w 0 t.fo t.n 1 (fun k _ => .int .i32 (t.x k))
  bx' : ∀ k, -2147483648 ≤ t.x k ∧ t.x k ≤ 2147483647
  fa : t.fa = none → t.m = 0 ∧ t.mcap = 0
  rf : RowIn w 0 t.fa t.m 2 (zfV t.fx t.fb)
  bf : ∀ k, -2147483648 ≤ t.fx k ∧ t.fx k ≤ 2147483647
  ba : t.ba = none → t.l = 0 ∧ t.lcap = 0
  rb : RowIn w 0 t.ba t.l 2 (zfV t.bx t.bb)
  bb : ∀ k, -2147483648 ≤ t.bx k ∧ t.bx k ≤ 2147483647

theorem Tab.Ok.below {t : Tab} {w w' : World} (h : t.Ok w) (hb : Below w.heap.size w w') : t.Ok w' :=
  ⟨h.p, h.s, h.fo, h.rx.below hb (Nat.le_refl _), h.bx', h.fa, h.rf.below hb (Nat.le_refl _), h.bf, h.ba, h.rb.below hb (Nat.le_refl _), h.bb⟩

/-- Its lengths. -/
def Tab.Fits (t : Tab) : Prop := t.n ≤ 1048576 ∧ t.m ≤ 1048576 ∧ t.l ≤ 1048576

/-- The seven cells of table k. -/
theorem tab_cells {w : World} {b o tn : Nat} {T : Nat → Tab} (hc : ∀ k, k < tn → ∀ c, c < 7 → w.cell? ⟨b, o + k * 7 + c, none⟩ = some ((T k).cell c)) (k : Nat) (hk : k < tn) :
    w.cell? ⟨b, o + k * 7, none⟩ = some (.int .i32 (T k).p) ∧ w.cell? ⟨b, o + k * 7 + 1, none⟩ = some (.int .i32 (T k).s) ∧ w.cell? ⟨b, o + k * 7 + 2, none⟩ = some (.bool (T k).np) ∧ w.cell? ⟨b, o + k * 7 + 3, none⟩ = some (.bool (T k).qp) ∧
    w.cell? ⟨b, o + k * 7 + 4, none⟩ = some (.slice (T k).fo (T k).n (T k).cap) ∧ w.cell? ⟨b, o + k * 7 + 5, none⟩ = some (.slice (T k).fa (T k).m (T k).mcap) ∧ w.cell? ⟨b, o + k * 7 + 6, none⟩ = some (.slice (T k).ba (T k).l (T k).lcap) :=
  ⟨hc k hk 0 (by omega), hc k hk 1 (by omega), hc k hk 2 (by omega), hc k hk 3 (by omega), hc k hk 4 (by omega), hc k hk 5 (by omega), hc k hk 6 (by omega)⟩

set_option maxHeartbeats 2000000 in
theorem bytes10_any (ao : Option Addr) (tn tcap : Nat) (T : Nat → Tab) (nd : Value) (w : World) (h : RowIn w 0 ao tn 7 (fun k c => (T k).cell c)) :
    Calls Try.prog 10 #[.slice ao tn tcap, nd] w fun e w' => (e = .returned (.bool false) ∨ e = .returned (.bool true) ∧ tn ≤ 1048576 ∧ ∀ i, i < tn → (T i).Fits) ∧ w' = w := by
  by_cases hbig : 1048576 < tn
  · go_enter Try.func10, Try.ntmps10
    go_wp2
    go_ret
    exact ⟨.inl rfl, rfl⟩
  · go_enter Try.func10, Try.ntmps10
    go_wp2
    go_loop [5, 6] (fun z i => ∃ k : Nat, k ≤ tn ∧ i = .int .i64 k ∧ (∃ zn : Nat, zn ≤ 1048576 ∧ z = .int .i64 zn) ∧ ∀ i, i < k → (T i).Fits) (fun _ i => tn - (intOf i).toNat)
    case atStart => exact ⟨0, Nat.zero_le _, rfl, ⟨tn, by omega, rfl⟩, fun i hi => by omega⟩
    case round =>
      obtain ⟨k, hk, rfl, ⟨zn, hz, rfl⟩, hfit⟩ := hrel
      by_cases hlt : k < tn
      · rcases h with h | ⟨b, o, hab, _, hbl, hc⟩
        · omega
        · cases hab
          obtain ⟨_, _, _, _, c4, c5, c6⟩ := tab_cells hc k hlt
          have HF : Hid _ := hfit
          clear hc hfit
          go_wp2
          all_goals (first | (go_ret; exact ⟨.inl rfl, rfl⟩) | skip)
          go_round
          case rel =>
            refine ⟨k + 1, by omega, by go_num, ⟨zn + (T k).n + (T k).m + (T k).l, by omega, by go_num⟩, fun i hi => ?_⟩
            by_cases hik : i = k
            · subst hik; exact ⟨by omega, by omega, by omega⟩
            · exact HF.out i (by omega)
          case measure => simp [intOf]; omega
      · have hkn : k = tn := by omega
        subst hkn
        go_wp2
        go_ret
        exact ⟨.inr ⟨rfl, by omega, hfit⟩, rfl⟩

set_option maxHeartbeats 2000000 in
theorem fit_any (ao : Option Addr) (tn tcap : Nat) (T : Nat → Tab) (w : World) (h : RowIn w 0 ao tn 7 (fun k c => (T k).cell c)) (hfit : ∀ i, i < tn → (T i).Fits) :
    Calls Try.prog 11 #[.slice ao tn tcap] w fun e w' => (e = .returned (.bool false) ∨ e = .returned (.bool true)) ∧ Below w.heap.size w w' := by
  by_cases hbig : 65536 < tn
  · go_enter Try.func11, Try.ntmps11
    go_wp2
    go_ret
    exact ⟨.inl rfl, Below.refl _ _⟩
  · go_enter Try.func11, Try.ntmps11
    go_wp2
    go_loopw [3, 4] (fun z i wr => ∃ k : Nat, k ≤ tn ∧ i = .int .i64 k ∧ (∃ zn : Int, 0 ≤ zn ∧ zn ≤ 1048576 ∧ z = .int .i64 zn) ∧ Below w.heap.size w wr) (fun _ i _ => tn - (intOf i).toNat)
    case atStart => exact ⟨0, Nat.zero_le _, rfl, ⟨0, by omega, by omega, rfl⟩, Below.refl _ _⟩
    case round =>
      obtain ⟨k, hk, rfl, ⟨zn, hz0, hz, rfl⟩, hbel⟩ := hrel
      by_cases hlt : k < tn
      · rcases h with h | ⟨b, o, hab, _, hbl, hc⟩
        · omega
        · cases hab
          obtain ⟨c0, c1, c2, c3, c4, c5, c6⟩ := tab_cells (w := wr) (fun k hk c hc' => (hbel.cell (p := ⟨b, o + k * 7 + c, none⟩) hbl).trans (hc k hk c hc')) k hlt
          have hf := hfit k hlt
          obtain ⟨f1, f2, f3⟩ := hf
          clear hc hfit
          go_wp2_with fail
          refine (tableBytes_any _ _ _ _ _ _ _ (T k).n _ (T k).m _ (T k).l _ _ f1 f2 f3).mono ?_
          rintro e w1 ⟨rfl, hb1⟩
          have hbel1 := hbel.trans (hb1.mono hbel.size)
          clear c0 c1 c2 c3 c4 c5 c6 hb1
          go_wp2
          · go_ret
            exact ⟨.inl rfl, hbel1⟩
          · go_roundw
            case rel => exact ⟨k + 1, by omega, by go_num, ⟨_, by omega, by omega, rfl⟩, hbel1⟩
            case measure => simp [intOf]; omega
      · go_wp2
        go_ret
        exact ⟨.inr rfl, hbel⟩
end Go.Proofs.Qxb6600017a
