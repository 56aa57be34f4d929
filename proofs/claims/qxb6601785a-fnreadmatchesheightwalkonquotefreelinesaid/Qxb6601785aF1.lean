import Derived.Test.Qxb6601785aBase
namespace Go.Proofs.Qxb6601785a
open Go.RowKit

theorem addr_of {w : World} {a : Addr} {v : Value} (h : w.cell? a = some v) : a = ⟨a.block, a.off, none⟩ := by
  obtain ⟨b, o, sp⟩ := a
  cases sp with
  | none => rfl
  | some q =>
    simp only [World.cell?] at h
    split at h <;> simp at h

theorem rowIn_of {w : World} {a : Addr} {n s : Nat} {g : Nat → Nat → Value} (hs : 0 < s) (h : ∀ i, i < n → ∀ c, c < s → w.cell? (a.add (i * s + c)) = some (g i c)) : RowIn w 0 (some a) n s g := by
  rcases Nat.eq_zero_or_pos n with h0 | hp
  · exact .inl h0
  · have h00 := h 0 hp 0 hs
    have e : a.add (0 * s + 0) = a := by simp [Addr.add]
    rw [e] at h00
    have ea := addr_of h00
    refine .inr ⟨a.block, a.off, by rw [← ea], Nat.zero_le _, World.block_lt_of_cell? w a h00, fun k hk c hc => ?_⟩
    rw [← h k hk c hc, ea, Addr.add_lit, Nat.add_assoc]

/-- A slice of bytes that came in, as a row. -/
theorem row_in {w : World} {a : Option Addr} {len cap : Nat} {zs : List Int}
    (h : (a = none ∧ len = 0 ∧ cap = 0 ∧ zs = []) ∨ ∃ x, a = some x ∧ len ≤ cap ∧ cap ≤ maxLen ∧ zs.length = cap ∧ (∀ i, i < zs.length → w.cell? (x.add i) = some (.int .u8 (zs.getD i 0))) ∧ ∀ n ∈ zs, (Lit.int .u8 n).wf = true) :
    (a = none → len = 0 ∧ cap = 0) ∧ RowIn w 0 a len 1 (fun k _ => .int .u8 (zs.getD k 0)) := by
  rcases h with ⟨rfl, rfl, rfl, rfl⟩ | ⟨x, rfl, hl, hm, hz, hc, hwf⟩
  · exact ⟨fun _ => ⟨rfl, rfl⟩, .inl rfl⟩
  · refine ⟨fun h => (by cases h), rowIn_of (by omega) (fun i hi c hc' => ?_)⟩
    have : c = 0 := by omega
    subst this
    simpa using hc i (by omega)
end Go.Proofs.Qxb6601785a
