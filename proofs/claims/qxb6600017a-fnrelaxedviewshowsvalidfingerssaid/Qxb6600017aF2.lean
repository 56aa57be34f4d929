import Derived.Test.Qxb6600017aF1
import Derived.Test.Qxb6600017aE2
namespace Go.Proofs.Qxb6600017a
open Go.RowKit Go.Deep
set_option linter.unusedSimpArgs false
set_option linter.unusedVariables false


theorem read33t {H : Type} {enc : TypeId × Value → H} {w : World} {spare : Nat → Bool} {held : Bool} {fuel : Nat} {cs : List Value} {y : DataW H × List MemPlace} (h : DataW.trod enc Try.prog w 0 spare held fuel 33 cs = some y) :
    ∃ t : Tab, cs = t.cells.toList ∧ t.Ok w := by
  obtain ⟨p, s, np, qp, fo, n, cap, x, fa, m, mcap, fx, fb, ba, l, lcap, bx, bb, hcs, hp, hs, ⟨a1, a2, a3⟩, ⟨b1, b2, b3⟩, ⟨c1, c2, c3⟩⟩ := read33 h
  exact ⟨⟨p, s, np, qp, fo, n, cap, x, fa, m, mcap, fx, fb, ba, l, lcap, bx, bb⟩, hcs, ⟨hp, hs, a1, a2, a3, b1, b2, b3, c1, c2, c3⟩⟩

theorem cells_get {w : World} {a : Addr} {n : Nat} {cs : List Value} (h : w.cells? 0 a n = some cs) : cs.length = n ∧ ∀ j, j < n → w.cell? (a.add j) = cs[j]? := by
  exact (World.cells?_some h).2

def Tab0 : Tab := ⟨0, 0, false, false, none, 0, 0, fun _ => 0, none, 0, 0, fun _ => 0, fun _ => false, none, 0, 0, fun _ => 0, fun _ => false⟩

theorem read22 {H : Type} {enc : TypeId × Value → H} {w : World} {spare : Nat → Bool} {held : Bool} {fuel : Nat} {cs : List Value} {y : DataW H × List MemPlace} (h : DataW.trod enc Try.prog w 0 spare held fuel 22 cs = some y) :
    ∃ ao tn tcap, ∃ T : Nat → Tab, cs = [.slice ao tn tcap] ∧ RowIn w 0 ao tn 7 (fun k c => (T k).cell c) ∧ ∀ i, i < tn → (T i).Ok w := by
  rcases open_slice Try.underlying22 h with ⟨rfl, _⟩ | ⟨a, len, cap, m, n, D, Pl, rfl, _, hl, _, hm, _, hx⟩
  · exact ⟨none, 0, 0, fun _ => Tab0, rfl, .inl rfl, fun i hi => by omega⟩
  · have hlm : len ≤ m := by rw [hm]; split <;> omega
    have each : ∀ i, i < len → ∃ t : Tab, t.Ok w ∧ ∀ c, c < 7 → w.cell? (a.add (i * 7 + c)) = some (t.cell c) := fun i hi => by
      obtain ⟨cs', h1, h2⟩ := hx i (by omega)
      rw [cells33] at h1
      obtain ⟨t, rfl, hok⟩ := read33t h2
      refine ⟨t, hok, fun c hc => ?_⟩
      have h3 := (cells_get h1).2 c hc
      rw [add_add] at h3
      rw [h3]
      rcases (by omega : c = 0 ∨ c = 1 ∨ c = 2 ∨ c = 3 ∨ c = 4 ∨ c = 5 ∨ c = 6) with rfl | rfl | rfl | rfl | rfl | rfl | rfl <;> rfl
    classical
    refine ⟨some a, len, cap, fun i => if hi : i < len then Classical.choose (each i hi) else Tab0, rfl, rowIn_of (by omega) (fun i hi c hc => ?_), fun i hi => ?_⟩
    · simp only [dif_pos hi]
      exact (Classical.choose_spec (each i hi)).2 c hc
    · simp only [dif_pos hi]
      exact (Classical.choose_spec (each i hi)).1
end Go.Proofs.Qxb6600017a
