import Derived.Test.Qxb6600117aPlain
namespace Go.Proofs.Qxb6600117a

/-- The numbers with X behind them. -/
def ext (N : Nat → Nat) (n X i : Nat) : Nat := if i < n then N i else X

theorem lt_ext (N : Nat → Nat) (n X id : Nat) : lt (ext N n X) id (n + 1) = lt N id n + if X < id then 1 else 0 := by
  have e : cP (fun i => decide (ext N n X i < id)) n = cP (fun i => decide (N i < id)) n := cP_congr (fun i hi => by simp [ext, hi])
  simp only [lt, cP, e]
  simp [ext]
theorem cnt_ext (N : Nat → Nat) (n X id i : Nat) (h : i ≤ n) : cnt (ext N n X) id i = cnt N id i :=
  cP_congr (fun j hj => by simp [ext, show j < n by omega])
theorem slot_ext (N : Nat → Nat) (n X i : Nat) (h : i < n) : slot (ext N n X) (n + 1) i = slot N n i + if X < N i then 1 else 0 := by
  have e : ext N n X i = N i := by simp [ext, h]
  unfold slot
  rw [e, lt_ext, cnt_ext N n X (N i) i (by omega)]
  omega
theorem slot_last (N : Nat → Nat) (n X : Nat) : slot (ext N n X) (n + 1) n = lt N (X + 1) n := by
  have e : ext N n X n = X := by simp [ext]
  unfold slot
  rw [e, lt_ext, cnt_ext N n X X n (Nat.le_refl _), lt_succ]
  simp
theorem slot_any (N : Nat → Nat) (n c k : Nat) (hN : ∀ i, i < n → N i < c) (hk : k < n) : ∃ i, i < n ∧ slot N n i = k := by
  obtain ⟨id, _, h1, h2⟩ := find_block N n c k (by rw [lt_all N c n hN]; exact hk)
  obtain ⟨i, hi, _, hs⟩ := slot_block N n id k h1 h2
  exact ⟨i, hi, hs⟩

section
variable {N : Nat → Nat} {n c X : Nat} {AT AT' : Nat → Int} (hN : ∀ i, i < n → N i < c) (hA : ∀ i, i < n → AT (slot N n i) = (i : Int)) (hA' : ∀ i, i < n + 1 → AT' (slot (ext N n X) (n + 1) i) = (i : Int))

theorem before_cut (hN : ∀ i, i < n → N i < c) (hA : ∀ i, i < n → AT (slot N n i) = (i : Int)) (hA' : ∀ i, i < n + 1 → AT' (slot (ext N n X) (n + 1) i) = (i : Int)) (k : Nat) (hk : k < lt N (X + 1) n) : AT' k = AT k := by
  obtain ⟨i, hi, hs⟩ := slot_any N n c k hN (Nat.lt_of_lt_of_le hk (lt_le _ _ _))
  have hx : ¬ X < N i := fun h => by
    have a := slot_ge N n i
    have b := lt_mono N n (show X + 1 ≤ N i by omega)
    omega
  have h1 := hA i hi
  have h2 := hA' i (by omega)
  rw [slot_ext N n X i hi, if_neg hx, Nat.add_zero] at h2
  rw [hs] at h1 h2
  rw [h1, h2]
theorem at_cut (hA' : ∀ i, i < n + 1 → AT' (slot (ext N n X) (n + 1) i) = (i : Int)) : AT' (lt N (X + 1) n) = (n : Int) := by
  have := hA' n (by omega)
  rwa [slot_last] at this
theorem behind_cut (hN : ∀ i, i < n → N i < c) (hA : ∀ i, i < n → AT (slot N n i) = (i : Int)) (hA' : ∀ i, i < n + 1 → AT' (slot (ext N n X) (n + 1) i) = (i : Int)) (k : Nat) (hk : lt N (X + 1) n ≤ k) (hkn : k < n) : AT' (k + 1) = AT k := by
  obtain ⟨i, hi, hs⟩ := slot_any N n c k hN hkn
  have hx : X < N i := by
    rcases Nat.lt_or_ge X (N i) with h | h
    · exact h
    · have a := slot_up N hi
      have b := lt_mono N n (show N i + 1 ≤ X + 1 by omega)
      omega
  have h1 := hA i hi
  have h2 := hA' i (by omega)
  rw [slot_ext N n X i hi, if_pos hx] at h2
  rw [hs] at h1 h2
  rw [h1, h2]
end
end Go.Proofs.Qxb6600117a
