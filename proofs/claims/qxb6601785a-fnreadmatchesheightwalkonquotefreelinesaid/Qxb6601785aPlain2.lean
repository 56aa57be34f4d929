/-! Heights and stacks, plainly: no Go in sight. -/
namespace Go.Proofs.Qxb6601785a
set_option linter.unusedSectionVars false

def isOp (c : Int) : Bool := c == 91 || c == 123
def isCl (c : Int) : Bool := c == 93 || c == 125
def cls (c : Int) : Int := if c = 123 then 125 else 93

/-- The height before byte k. -/
def ht (b : Nat → Int) (n0 : Nat) : Nat → Nat
  | 0 => n0
  | k + 1 => if isOp (b k) then ht b n0 k + 1 else if isCl (b k) then ht b n0 k - 1 else ht b n0 k
/-- What lies in the stack's cells before byte k. -/
def sk (b : Nat → Int) (n0 : Nat) (B : Nat → Int) : Nat → Nat → Int
  | 0, j => B j
  | k + 1, j => if isOp (b k) = true ∧ j = ht b n0 k then cls (b k) else sk b n0 B k j
/-- The least height up to k. -/
def mn (b : Nat → Int) (n0 : Nat) : Nat → Nat
  | 0 => n0
  | k + 1 => min (mn b n0 k) (ht b n0 (k + 1))
/-- The least of the heights from t on, up to c. -/
def la (h : Nat → Nat) (c N : Nat) : Nat → Nat
  | 0 => N
  | d + 1 => min (la h c N d) (h (c - d))
def later (h : Nat → Nat) (c N t : Nat) : Nat := la h c N (c + 1 - t)

theorem later_end (h : Nat → Nat) (c N : Nat) : later h c N (c + 1) = N := by simp [later, la]
theorem later_step (h : Nat → Nat) {c N t : Nat} (ht : t ≤ c) : later h c N t = min (later h c N (t + 1)) (h t) := by
  unfold later
  have e : c + 1 - t = (c - t) + 1 := by omega
  have e2 : c + 1 - (t + 1) = c - t := by omega
  have e3 : c - (c - t) = t := by omega
  rw [e, e2]
  simp only [la]
  rw [e3]

variable {b : Nat → Int} {n0 : Nat}

theorem ht_zero : ht b n0 0 = n0 := rfl
theorem ht_op {k : Nat} (h : isOp (b k) = true) : ht b n0 (k + 1) = ht b n0 k + 1 := by simp [ht, h]
theorem ht_cl {k : Nat} (h : isOp (b k) = false) (h2 : isCl (b k) = true) : ht b n0 (k + 1) = ht b n0 k - 1 := by simp [ht, h, h2]
theorem ht_no {k : Nat} (h : isOp (b k) = false) (h2 : isCl (b k) = false) : ht b n0 (k + 1) = ht b n0 k := by simp [ht, h, h2]
theorem ht_down {k : Nat} (h : isOp (b k) = false) : ht b n0 (k + 1) ≤ ht b n0 k := by
  cases h2 : isCl (b k)
  · rw [ht_no h h2]; exact Nat.le_refl _
  · rw [ht_cl h h2]; omega
theorem ht_le (b : Nat → Int) (n0 k : Nat) : ht b n0 k ≤ n0 + k := by
  induction k with
  | zero => exact Nat.le_refl _
  | succ k ih =>
    cases h : isOp (b k)
    · have := ht_down (n0 := n0) h; omega
    · rw [ht_op h]; omega

theorem mn_le (b : Nat → Int) (n0 : Nat) {k i : Nat} (h : i ≤ k) : mn b n0 k ≤ ht b n0 i := by
  induction k with
  | zero => have : i = 0 := by omega
            subst this; exact Nat.le_refl _
  | succ k ih =>
    simp only [mn]
    rcases Nat.lt_or_ge i (k + 1) with h' | h'
    · have := ih (by omega); omega
    · have : i = k + 1 := by omega
      subst this; omega
theorem mn_at (b : Nat → Int) (n0 k : Nat) : ∃ i, i ≤ k ∧ mn b n0 k = ht b n0 i := by
  induction k with
  | zero => exact ⟨0, Nat.le_refl _, rfl⟩
  | succ k ih =>
    obtain ⟨i, hi, e⟩ := ih
    simp only [mn]
    by_cases h : mn b n0 k ≤ ht b n0 (k + 1)
    · exact ⟨i, by omega, by omega⟩
    · exact ⟨k + 1, Nat.le_refl _, by omega⟩
theorem mn_op {k : Nat} (h : isOp (b k) = true) : mn b n0 (k + 1) = mn b n0 k := by
  have := mn_le b n0 (Nat.le_refl k)
  simp only [mn]; rw [ht_op h]; omega
theorem mn_no {k : Nat} (h : isOp (b k) = false) (h2 : isCl (b k) = false) : mn b n0 (k + 1) = mn b n0 k := by
  have := mn_le b n0 (Nat.le_refl k)
  simp only [mn]; rw [ht_no h h2]; omega

section
variable {c N : Nat} (hN : n0 + c < N)
include hN

theorem later_le {t i : Nat} (h1 : t ≤ i) (h2 : i ≤ c) : later (ht b n0) c N t ≤ ht b n0 i := by
  obtain ⟨d, rfl⟩ : ∃ d, i = t + d := ⟨i - t, by omega⟩
  induction d generalizing t with
  | zero => rw [later_step _ (by omega)]; simp only [Nat.add_zero]; omega
  | succ d ih =>
    rw [later_step _ (by omega)]
    have := ih (t := t + 1) (by omega) (by omega)
    rw [show t + 1 + d = t + (d + 1) by omega] at this
    omega
theorem later_at {t : Nat} (h : t ≤ c) : ∃ i, t ≤ i ∧ i ≤ c ∧ later (ht b n0) c N t = ht b n0 i := by
  obtain ⟨d, hd⟩ : ∃ d, c = t + d := ⟨c - t, by omega⟩
  induction d generalizing t with
  | zero =>
    have : t = c := by omega
    subst this
    refine ⟨t, Nat.le_refl _, Nat.le_refl _, ?_⟩
    rw [later_step _ (Nat.le_refl _), later_end]
    have := ht_le b n0 t
    omega
  | succ d ih =>
    obtain ⟨i, h1, h2, h3⟩ := ih (t := t + 1) (by omega) (by omega)
    rw [later_step _ h]
    by_cases e : later (ht b n0) c N (t + 1) ≤ ht b n0 t
    · exact ⟨i, by omega, h2, by omega⟩
    · exact ⟨t, Nat.le_refl _, h, by omega⟩
theorem later_zero : later (ht b n0) c N 0 = mn b n0 c := by
  obtain ⟨i, _, h2, h3⟩ := later_at hN (b := b) (Nat.zero_le c)
  obtain ⟨j, h4, h5⟩ := mn_at b n0 c
  have a := mn_le b n0 h2
  have b' := later_le hN (b := b) (Nat.zero_le j) h4
  omega
theorem later_cut : later (ht b n0) c N c = ht b n0 c := by
  have h1 := later_le hN (b := b) (Nat.le_refl c) (Nat.le_refl c)
  obtain ⟨i, h2, h3, h4⟩ := later_at hN (b := b) (Nat.le_refl c)
  have : i = c := by omega
  subst this; exact h4

/-- Whether the opener at k stays. -/
theorem later_sv {k : Nat} (hk : k < c) (ho : isOp (b k) = true) (hs : ht b n0 (k + 1) ≤ later (ht b n0) c N (k + 2)) :
    later (ht b n0) c N (k + 1) = later (ht b n0) c N k + 1 ∧ later (ht b n0) c N k = ht b n0 k := by
  have e1 := later_step (ht b n0) (c := c) (N := N) (t := k) (by omega)
  have e2 := later_step (ht b n0) (c := c) (N := N) (t := k + 1) (by omega)
  have e3 := ht_op (n0 := n0) ho
  rw [show k + 1 + 1 = k + 2 from rfl] at e2
  omega
theorem later_nsv {k : Nat} (hk : k < c) (hs : isOp (b k) = true → ¬ ht b n0 (k + 1) ≤ later (ht b n0) c N (k + 2)) :
    later (ht b n0) c N (k + 1) = later (ht b n0) c N k := by
  have e1 := later_step (ht b n0) (c := c) (N := N) (t := k) (by omega)
  have e2 := later_step (ht b n0) (c := c) (N := N) (t := k + 1) (by omega)
  rw [show k + 1 + 1 = k + 2 from rfl] at e2
  cases ho : isOp (b k)
  · have := ht_down (n0 := n0) ho; omega
  · have e3 := ht_op (n0 := n0) ho
    have := hs ho
    omega

theorem sk_keep {B : Nat → Int} {k j : Nat} : ∀ d, k + d ≤ c → (∀ i, k ≤ i → i < k + d → j < ht b n0 i) → sk b n0 B (k + d) j = sk b n0 B k j := by
  intro d
  induction d with
  | zero => intro _ _; rfl
  | succ d ih =>
    intro h1 h2
    rw [← ih (by omega) (fun i a b => h2 i a (by omega))]
    show sk b n0 B (k + d + 1) j = _
    simp only [sk]
    have := h2 (k + d) (by omega) (by omega)
    rw [if_neg (by omega)]
theorem sk_low {B : Nat → Int} {j : Nat} (h : j < mn b n0 c) : sk b n0 B c j = B j := by
  have := sk_keep hN (b := b) (B := B) (k := 0) (j := j) c (by omega) (fun i _ hi => Nat.lt_of_lt_of_le h (mn_le b n0 (by omega)))
  rw [Nat.zero_add] at this
  exact this
theorem sk_sv {B : Nat → Int} {k : Nat} (hk : k < c) (ho : isOp (b k) = true) (hs : ht b n0 (k + 1) ≤ later (ht b n0) c N (k + 2)) : sk b n0 B c (ht b n0 k) = cls (b k) := by
  have e1 := later_sv hN hk ho hs
  obtain ⟨d, hd⟩ : ∃ d, c = k + 1 + d := ⟨c - (k + 1), by omega⟩
  have h3 := sk_keep hN (b := b) (B := B) (k := k + 1) (j := ht b n0 k) d (by omega) (fun i a hi => by
    have := later_le hN (b := b) (t := k + 1) (i := i) a (by omega)
    omega)
  rw [← hd] at h3
  rw [h3]
  simp [sk, ho]
end
end Go.Proofs.Qxb6601785a
