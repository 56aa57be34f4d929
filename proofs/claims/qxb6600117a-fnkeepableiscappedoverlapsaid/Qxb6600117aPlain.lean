/-! Plain counting: no Go in sight. -/
namespace Go.Proofs.Qxb6600117a

/-- How many of the first k places meet p. -/
def cP (p : Nat → Bool) : Nat → Nat
  | 0 => 0
  | k + 1 => cP p k + if p k then 1 else 0

theorem cP_le (p : Nat → Bool) (k : Nat) : cP p k ≤ k := by
  induction k with
  | zero => simp [cP]
  | succ k ih => simp only [cP]; split <;> omega
theorem cP_mono (p : Nat → Bool) {i j : Nat} (h : i ≤ j) : cP p i ≤ cP p j := by
  induction j with
  | zero => have : i = 0 := by omega
            subst this; exact Nat.le_refl _
  | succ j ih =>
    rcases Nat.lt_or_ge i (j + 1) with h' | h'
    · have := ih (by omega); simp only [cP]; split <;> omega
    · have : i = j + 1 := by omega
      subst this; exact Nat.le_refl _
theorem cP_congr {p q : Nat → Bool} {k : Nat} (h : ∀ i, i < k → p i = q i) : cP p k = cP q k := by
  induction k with
  | zero => rfl
  | succ k ih => simp only [cP]; rw [ih (fun i hi => h i (by omega)), h k (by omega)]
theorem cP_hit {p : Nat → Bool} {i j : Nat} (hi : p i = true) (h : i < j) : cP p i + 1 ≤ cP p j := by
  have h1 := cP_mono p (show i + 1 ≤ j by omega)
  simp only [cP, hi, if_true] at h1
  exact h1
theorem cP_find (p : Nat → Bool) (n r : Nat) (hr : r < cP p n) : ∃ i, i < n ∧ p i = true ∧ cP p i = r := by
  induction n with
  | zero => simp [cP] at hr
  | succ n ih =>
    simp only [cP] at hr
    by_cases h : r < cP p n
    · obtain ⟨i, hi, h1, h2⟩ := ih h
      exact ⟨i, by omega, h1, h2⟩
    · cases hp : p n
      · simp [hp] at hr; omega
      · simp [hp] at hr
        exact ⟨n, by omega, hp, by omega⟩

/-- How many of the first k are id; how many lie below j. -/
def cnt (N : Nat → Nat) (id k : Nat) : Nat := cP (fun i => N i == id) k
def lt (N : Nat → Nat) (j k : Nat) : Nat := cP (fun i => decide (N i < j)) k

theorem cnt_zero (N : Nat → Nat) (id : Nat) : cnt N id 0 = 0 := rfl
theorem cnt_succ (N : Nat → Nat) (id k : Nat) : cnt N id (k + 1) = cnt N id k + if N k = id then 1 else 0 := by simp [cnt, cP]
theorem lt_zero (N : Nat → Nat) (k : Nat) : lt N 0 k = 0 := by
  induction k with
  | zero => rfl
  | succ k ih => simp [lt, cP] at ih ⊢; exact ih
theorem lt_succ (N : Nat → Nat) (j k : Nat) : lt N (j + 1) k = lt N j k + cnt N j k := by
  induction k with
  | zero => rfl
  | succ k ih =>
    simp only [lt, cnt, cP] at ih ⊢
    rw [ih]
    by_cases h1 : N k < j
    · have h2 : N k < j + 1 := by omega
      have h3 : ¬ N k = j := by omega
      simp [h1, h2, h3]; omega
    · by_cases h3 : N k = j
      · simp [h3]; omega
      · have h2 : ¬ N k < j + 1 := by omega
        simp [h1, h2, h3]
theorem lt_all (N : Nat → Nat) (c k : Nat) (h : ∀ i, i < k → N i < c) : lt N c k = k := by
  induction k with
  | zero => rfl
  | succ k ih =>
    have := ih (fun i hi => h i (by omega))
    simp only [lt, cP] at this ⊢
    simp [this, h k (by omega)]
theorem lt_mono (N : Nat → Nat) {i j : Nat} (k : Nat) (h : i ≤ j) : lt N i k ≤ lt N j k := by
  induction j with
  | zero => have : i = 0 := by omega
            subst this; exact Nat.le_refl _
  | succ j ih =>
    rcases Nat.lt_or_ge i (j + 1) with h' | h'
    · have := ih (by omega); rw [lt_succ]; omega
    · have : i = j + 1 := by omega
      subst this; exact Nat.le_refl _
theorem lt_le (N : Nat → Nat) (j k : Nat) : lt N j k ≤ k := cP_le _ _
theorem cnt_le (N : Nat → Nat) (j k : Nat) : cnt N j k ≤ k := cP_le _ _
theorem cnt_mono (N : Nat → Nat) (id : Nat) {i j : Nat} (h : i ≤ j) : cnt N id i ≤ cnt N id j := cP_mono _ h
theorem cnt_lt (N : Nat → Nat) {i n : Nat} (h : i < n) : cnt N (N i) i + 1 ≤ cnt N (N i) n := cP_hit (by simp) h

/-- Where place i goes. -/
def slot (N : Nat → Nat) (n i : Nat) : Nat := lt N (N i) n + cnt N (N i) i

theorem slot_ge (N : Nat → Nat) (n i : Nat) : lt N (N i) n ≤ slot N n i := by unfold slot; omega
theorem slot_up (N : Nat → Nat) {n i : Nat} (h : i < n) : slot N n i < lt N (N i + 1) n := by
  have := cnt_lt N h
  rw [lt_succ]; unfold slot; omega
theorem slot_lt (N : Nat → Nat) {n i : Nat} (h : i < n) : slot N n i < n := Nat.lt_of_lt_of_le (slot_up N h) (lt_le _ _ _)
theorem slot_inj (N : Nat → Nat) {n i j : Nat} (hi : i < n) (hj : j < n) (h : slot N n i = slot N n j) : i = j := by
  rcases Nat.lt_trichotomy (N i) (N j) with h1 | h1 | h1
  · have a := slot_up N hi
    have b := slot_ge N n j
    have c := lt_mono N n (show N i + 1 ≤ N j by omega)
    omega
  · have e : cnt N (N i) i = cnt N (N i) j := by
      unfold slot at h; rw [h1] at h ⊢; omega
    rcases Nat.lt_trichotomy i j with h2 | h2 | h2
    · have : cnt N (N i) i + 1 ≤ cnt N (N i) j := cP_hit (by simp) h2
      omega
    · exact h2
    · have : cnt N (N i) j + 1 ≤ cnt N (N i) i := cP_hit (by simp [h1]) h2
      omega
  · have a := slot_up N hj
    have b := slot_ge N n i
    have c := lt_mono N n (show N j + 1 ≤ N i by omega)
    omega
/-- Every place of block id is somebody's. -/
theorem slot_block (N : Nat → Nat) (n id k : Nat) (h1 : lt N id n ≤ k) (h2 : k < lt N (id + 1) n) : ∃ i, i < n ∧ N i = id ∧ slot N n i = k := by
  rw [lt_succ] at h2
  obtain ⟨i, hi, h3, h4⟩ := cP_find (fun i => N i == id) n (k - lt N id n) (show _ < cnt N id n by omega)
  have h3' : N i = id := by simpa using h3
  refine ⟨i, hi, h3', ?_⟩
  unfold slot
  rw [h3']
  have : cnt N id i = k - lt N id n := h4
  omega
theorem find_block (N : Nat → Nat) (n c k : Nat) (h : k < lt N c n) : ∃ id, id < c ∧ lt N id n ≤ k ∧ k < lt N (id + 1) n := by
  induction c with
  | zero => rw [lt_zero] at h; omega
  | succ c ih =>
    by_cases h' : k < lt N c n
    · obtain ⟨id, a, b⟩ := ih h'
      exact ⟨id, by omega, b⟩
    · exact ⟨c, by omega, by omega, h⟩
end Go.Proofs.Qxb6600117a
