import Derived.Test.Qxb6600117aA2
namespace Go.Proofs.Qxb6600117a
open Go.RowKit
set_option linter.unusedSimpArgs false
set_option linter.unusedVariables false

/-- What ZZPlacesOf gives back. -/
def PlacesAt (w : World) (lo : Nat) (v : Value) (n c : Nat) (N : Nat → Nat) : Prop :=
  ∃ g1 g2, v = .agg #[.slice (some ⟨g1, 0, none⟩) (c + 1) (c + 1), .slice (some ⟨g2, 0, none⟩) n n] ∧ lo ≤ g1 ∧ lo ≤ g2 ∧ w.rowIs g1 3 (c + 1) (fun j => .int .i64 (lt N j n : Nat)) ∧
    ∃ AT : Nat → Int, w.rowIs g2 3 n (fun j => .int .i64 (AT j)) ∧ ∀ i, i < n → AT (slot N n i) = (i : Int)

set_option maxHeartbeats 1000000 in
theorem zzPlaces_any (ao : Option Addr) (n cap c : Nat) (N : Nat → Nat) (w : World) (hn : n ≤ 65537) (hc : c ≤ 65536) (hN : ∀ i, i < n → N i < c) (h : RowIn w 0 ao n 1 (fun k _ => .int .i64 (N k : Int))) :
    Calls Try.prog 17 #[.slice ao n cap, .int .i64 c] w fun e w' => ∃ g1 g2, e = .returned (.agg #[.slice (some ⟨g1, 0, none⟩) (c + 1) (c + 1), .slice (some ⟨g2, 0, none⟩) n n]) ∧ w.heap.size ≤ g1 ∧ w.heap.size ≤ g2 ∧
      w'.rowIs g1 3 (c + 1) (fun j => .int .i64 (lt N j n : Nat)) ∧ (∃ AT : Nat → Int, w'.rowIs g2 3 n (fun j => .int .i64 (AT j)) ∧ ∀ i, i < n → AT (slot N n i) = (i : Int)) ∧ Below w.heap.size w w' := by
  go_enter Try.func17, Try.ntmps17
  go_wp2_with fail
  have hb0 : Below w.heap.size w (w.alloc (.cells #[.slice none 0 0, .slice none 0 0] 32)) := (Below.refl _ _).alloc (Nat.le_refl _) _
  have h32 : (w.alloc (.cells #[.slice none 0 0, .slice none 0 0] 32)).heap[w.heap.size]? = some (.cells #[.slice none 0 0, .slice none 0 0] 32 (0, 0)) := blk_new _ _ rfl
  have hs0 : (w.alloc (.cells #[.slice none 0 0, .slice none 0 0] 32)).heap.size = w.heap.size + 1 := by simp
  generalize w.alloc (.cells #[.slice none 0 0, .slice none 0 0] 32) = wr at hb0 h32 hs0 ⊢
  refine (places_any ao n cap c N wr hn hc hN (h.below hb0 (Nat.le_refl _))).mono ?_
  rintro e w1 ⟨g1, g2, rfl, l1, l2, r1, ⟨AT, r2, hAT⟩, hb1⟩
  have k32 := blk_keep h32 hb1 (Nat.le_refl _)
  have z1 := lt_of_block k32
  have qc : ∀ i, w1.cell? ⟨w.heap.size, i, none⟩ = (#[.slice none 0 0, .slice none 0 0] : Array Value)[i]? := fun i => cell_at k32
  have qf : ∀ i, w1.frozen? ⟨w.heap.size, i, none⟩ = false := fun i => free_at k32
  go_wp2
  have R := blk_alloc (blk_full2 (v0 := .slice (some ⟨g1, 0, none⟩) (c + 1) (c + 1)) (v1 := .slice (some ⟨g2, 0, none⟩) n n) k32) (.cells #[.slice (some ⟨g1, 0, none⟩) (c + 1) (c + 1), .slice (some ⟨g2, 0, none⟩) n n] 43)
  have hb2 := hb0.trans (hb1.mono hb0.size)
  have hb3 := (hb2.setCell (p := ⟨w.heap.size, 0, none⟩) (Nat.le_refl _) (.slice (some ⟨g1, 0, none⟩) (c + 1) (c + 1))).setCell (p := ⟨w.heap.size, 1, none⟩) (Nat.le_refl _) (.slice (some ⟨g2, 0, none⟩) n n)
  exact bodyPost_ret (results_cell_row (P := Try.prog) (fn := Try.f17) (by rfl) _ _ w.heap.size 32 _ (0, 0) _ (by rfl) R Try.underlying32 rfl (by kernel_rfl)) rfl ⟨g1, g2, rfl, by omega, by omega, ((r1.setOther (by simp; omega) _).setOther (by simp; omega) _).alloc _, ⟨AT, ((r2.setOther (by simp; omega) _).setOther (by simp; omega) _).alloc _, hAT⟩, hb3.alloc hb3.size _⟩
end Go.Proofs.Qxb6600117a
