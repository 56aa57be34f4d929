import Derived.Test.Qxb6600117aBase
namespace Go.Proofs.Qxb6600117a
open Go.RowKit

theorem addr_of {w : World} {a : Addr} {v : Value} (h : w.cell? a = some v) : a = ⟨a.block, a.off, none⟩ := by
  obtain ⟨b, o, sp⟩ := a
  cases sp with
  | none => rfl
  | some q =>
    simp only [World.cell?] at h
    split at h <;> simp at h

theorem rowIn_of {w : World} {a : Addr} {n s : Nat} {g : Nat → Nat → Value} (hs : 0 < s) (h : ∀ i, i < n → ∀ c, c < s → w.cell? (a.add (i * s + c)) = some (g i c)) : RowIn w 0 (some a) n s g := by
  rcases Nat.eq_zero_or_pos n with h0 | hp
  · exact .inl h0
  · have h00 := h 0 hp 0 hs
    have e : a.add (0 * s + 0) = a := by simp [Addr.add]
    rw [e] at h00
    have ea := addr_of h00
    refine .inr ⟨a.block, a.off, by rw [← ea], Nat.zero_le _, World.block_lt_of_cell? w a h00, fun k hk c hc => ?_⟩
    rw [← h k hk c hc, ea, Addr.add_lit, Nat.add_assoc]

theorem i64_bounds {n : Int} (h : (Lit.int .i64 n).wf = true) : -9223372036854775808 ≤ n ∧ n ≤ 9223372036854775807 := by
  simp [Lit.wf] at h
  have e1 : IntKind.i64.min = -9223372036854775808 := by decide
  have e2 : IntKind.i64.max = 9223372036854775807 := by decide
  omega

/-- A slice of integers that came in, as a row. -/
theorem row_in {w : World} {a : Option Addr} {len cap : Nat} {zs : List Int}
    (h : (a = none ∧ len = 0 ∧ cap = 0 ∧ zs = []) ∨ ∃ x, a = some x ∧ len ≤ cap ∧ cap ≤ maxLen ∧ zs.length = cap ∧ (∀ i, i < zs.length → w.cell? (x.add i) = some (.int .i64 (zs.getD i 0))) ∧ ∀ n ∈ zs, (Lit.int .i64 n).wf = true) :
    (a = none → len = 0 ∧ cap = 0) ∧ RowIn w 0 a len 1 (fun k _ => .int .i64 (zs.getD k 0)) ∧ ∀ k, -9223372036854775808 ≤ zs.getD k 0 ∧ zs.getD k 0 ≤ 9223372036854775807 := by
  rcases h with ⟨rfl, rfl, rfl, rfl⟩ | ⟨x, rfl, hl, hm, hz, hc, hwf⟩
  · exact ⟨fun _ => ⟨rfl, rfl⟩, .inl rfl, fun k => by simp⟩
  · refine ⟨fun h => (by cases h), rowIn_of (by omega) (fun i hi c hc' => ?_), fun k => ?_⟩
    · have : c = 0 := by omega
      subst this
      simpa using hc i (by omega)
    · by_cases hk : k < zs.length
      · have e : zs.getD k 0 = zs[k] := by simp [List.getD, hk]
        rw [e]
        exact i64_bounds (hwf _ (List.getElem_mem hk))
      · have e : zs.getD k 0 = 0 := by simp [List.getD, hk]
        rw [e]; decide
end Go.Proofs.Qxb6600117a
