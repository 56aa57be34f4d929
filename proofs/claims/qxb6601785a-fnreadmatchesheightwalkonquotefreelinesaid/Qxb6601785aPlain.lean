/-! The token grammar, plainly: no Go in sight. -/
namespace Go.Proofs.Qxb6601785a

def prB (x : Int) : Bool := decide (32 ≤ x) && decide (x ≤ 126)
def leB (x : Int) : Bool := decide (129 ≤ x) && decide (x ≤ 254)
def trB (x : Int) : Bool := decide (64 ≤ x) && decide (x ≤ 254) && x != 127
def diB (x : Int) : Bool := decide (48 ≤ x) && decide (x ≤ 57)

/-- The scanner, with fuel: 'tk j' is the length of the token at j, 0 for none. -/
def scan (tk : Nat → Nat) (n : Nat) : Nat → Nat → Bool
  | 0, _ => true
  | f + 1, j => if j < n then (if tk j = 0 then false else scan tk n f (j + tk j)) else true

theorem scan_fuel (tk : Nat → Nat) (n : Nat) : ∀ f g j, n - j ≤ f → n - j ≤ g → scan tk n f j = scan tk n g j := by
  intro f
  induction f with
  | zero =>
    intro g j hf _
    cases g with
    | zero => rfl
    | succ g => have : ¬ j < n := by omega
                simp [scan, this]
  | succ f ih =>
    intro g j hf hg
    cases g with
    | zero => have : ¬ j < n := by omega
              simp [scan, this]
    | succ g =>
      simp only [scan]
      by_cases hj : j < n
      · by_cases ht : tk j = 0
        · simp [hj, ht]
        · simp only [hj, ht, if_true, if_false]
          exact ih g (j + tk j) (by omega) (by omega)
      · simp [hj]

def T (tk : Nat → Nat) (n j : Nat) : Bool := scan tk n n j
theorem T_end (tk : Nat → Nat) (n : Nat) : T tk n n = true := by
  unfold T
  cases n with
  | zero => rfl
  | succ n => simp [scan]
theorem T_stop {tk : Nat → Nat} {n j : Nat} (h : j < n) (ht : tk j = 0) : T tk n j = false := by
  unfold T
  cases n with
  | zero => omega
  | succ n => simp [scan, h, ht]
theorem T_step {tk : Nat → Nat} {n j t : Nat} (h : j < n) (ht : tk j = t) (h0 : 0 < t) : T tk n j = T tk n (j + t) := by
  unfold T
  subst ht
  cases n with
  | zero => omega
  | succ n =>
    have e : scan tk (n + 1) (n + 1) j = scan tk (n + 1) n (j + tk j) := by
      have : ¬ tk j = 0 := by omega
      simp [scan, h, this]
    rw [e]
    exact scan_fuel _ _ _ _ _ (by omega) (by omega)

/-- The length of the token at j. -/
def tok (n : Nat) (b : Nat → Int) (j : Nat) : Nat :=
  if prB (b j) then 1 else if j + 2 ≤ n ∧ leB (b j) = true ∧ trB (b (j + 1)) = true then 2
  else if j + 4 ≤ n ∧ leB (b j) = true ∧ diB (b (j + 1)) = true ∧ leB (b (j + 2)) = true ∧ diB (b (j + 3)) = true then 4 else 0

theorem tok_pr {n : Nat} {b : Nat → Int} {j : Nat} (h : prB (b j) = true) : tok n b j = 1 := by simp [tok, h]
theorem tok_two {n : Nat} {b : Nat → Int} {j : Nat} (h : prB (b j) = false) (h2 : j + 2 ≤ n) (h3 : leB (b j) = true) (h4 : trB (b (j + 1)) = true) : tok n b j = 2 := by simp [tok, h, h2, h3, h4]
theorem tok_four {n : Nat} {b : Nat → Int} {j : Nat} (h : prB (b j) = false) (h1 : trB (b (j + 1)) = false) (h2 : j + 4 ≤ n) (h3 : leB (b j) = true) (h4 : diB (b (j + 1)) = true) (h5 : leB (b (j + 2)) = true) (h6 : diB (b (j + 3)) = true) : tok n b j = 4 := by
  simp [tok, h, h1, h2, h3, h4, h5, h6]
theorem tok_none {n : Nat} {b : Nat → Int} {j : Nat} (h : prB (b j) = false) (h1 : ¬ (j + 2 ≤ n ∧ leB (b j) = true ∧ trB (b (j + 1)) = true)) (h2 : ¬ (j + 4 ≤ n ∧ leB (b j) = true ∧ diB (b (j + 1)) = true ∧ leB (b (j + 2)) = true ∧ diB (b (j + 3)) = true)) : tok n b j = 0 := by
  unfold tok
  rw [if_neg (by simp [h]), if_neg h1, if_neg h2]

/-- The reached places as the table is filled: at i there is at most one place ahead, and from it the scanner answers as from 0. -/
def Reach (tk : Nat → Nat) (n i : Nat) (f : Nat → Bool) : Prop :=
  (T tk n 0 = false ∧ ∀ j, i ≤ j → j ≤ n → f j = false) ∨ ∃ q, i ≤ q ∧ q ≤ n ∧ T tk n 0 = T tk n q ∧ ∀ j, i ≤ j → j ≤ n → f j = decide (j = q)

theorem Reach.start (tk : Nat → Nat) (n : Nat) : Reach tk n 0 (fun j => decide (j = 0)) := .inr ⟨0, Nat.le_refl _, Nat.zero_le _, rfl, fun _ _ _ => rfl⟩
theorem Reach.skip {tk : Nat → Nat} {n i : Nat} {f : Nat → Bool} (h : Reach tk n i f) (hi : i < n) (hf : f i = false) : Reach tk n (i + 1) f := by
  rcases h with ⟨h, hj⟩ | ⟨q, h1, h2, h3, h4⟩
  · exact .inl ⟨h, fun j a b => hj j (by omega) b⟩
  · have := h4 i (Nat.le_refl _) (by omega)
    rw [hf] at this
    have hq : i ≠ q := by simpa using this.symm
    exact .inr ⟨q, by omega, h2, h3, fun j a b => h4 j (by omega) b⟩
theorem Reach.dead {tk : Nat → Nat} {n i : Nat} {f : Nat → Bool} (h : Reach tk n i f) (hi : i < n) (hf : f i = true) (ht : tk i = 0) : Reach tk n (i + 1) f := by
  rcases h with ⟨h, hj⟩ | ⟨q, h1, h2, h3, h4⟩
  · have := hj i (Nat.le_refl _) (by omega)
    rw [hf] at this; cases this
  · have := h4 i (Nat.le_refl _) (by omega)
    rw [hf] at this
    have hq : i = q := by simpa using this.symm
    subst hq
    refine .inl ⟨by rw [h3]; exact T_stop hi ht, fun j a b => ?_⟩
    rw [h4 j (by omega) b]; simp; omega
theorem Reach.put {tk : Nat → Nat} {n i t : Nat} {f : Nat → Bool} (h : Reach tk n i f) (hi : i < n) (hf : f i = true) (ht : tk i = t) (h0 : 0 < t) (hn : i + t ≤ n) : Reach tk n (i + 1) (fun j => if j = i + t then true else f j) := by
  rcases h with ⟨h, hj⟩ | ⟨q, h1, h2, h3, h4⟩
  · have := hj i (Nat.le_refl _) (by omega)
    rw [hf] at this; cases this
  · have := h4 i (Nat.le_refl _) (by omega)
    rw [hf] at this
    have hq : i = q := by simpa using this.symm
    subst hq
    refine .inr ⟨i + t, by omega, hn, by rw [h3]; exact T_step hi ht h0, fun j a b => ?_⟩
    by_cases e : j = i + t
    · simp [e]
    · have hne : ¬ j = i := by omega
      simp [e, h4 j (by omega) b, hne]
theorem Reach.fin {tk : Nat → Nat} {n : Nat} {f : Nat → Bool} (h : Reach tk n n f) : f n = T tk n 0 := by
  rcases h with ⟨h, hj⟩ | ⟨q, h1, h2, h3, h4⟩
  · rw [h]; exact hj n (Nat.le_refl _) (Nat.le_refl _)
  · have : q = n := by omega
    subst this
    rw [h3, T_end, h4 q (Nat.le_refl _) (Nat.le_refl _)]; simp
end Go.Proofs.Qxb6601785a
