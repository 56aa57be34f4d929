import Derived.Test.Qxb6600117aPlain
/-! Plain overlap: no Go in sight. -/
namespace Go.Proofs.Qxb6600117a

/-- The sum over the first n ids of the fewer copies. -/
def ov (f g : Nat → Nat) : Nat → Nat
  | 0 => 0
  | n + 1 => ov f g n + min (f n) (g n)

theorem ov_comm (f g : Nat → Nat) (n : Nat) : ov f g n = ov g f n := by
  induction n with
  | zero => rfl
  | succ n ih => simp only [ov]; rw [ih, Nat.min_comm]
theorem ov_congr {f g f' g' : Nat → Nat} {n : Nat} (h : ∀ i, i < n → f i = f' i ∧ g i = g' i) : ov f g n = ov f' g' n := by
  induction n with
  | zero => rfl
  | succ n ih => simp only [ov]; rw [ih (fun i hi => h i (by omega)), (h n (by omega)).1, (h n (by omega)).2]
theorem ov_zero (f : Nat → Nat) (n : Nat) : ov f (fun _ => 0) n = 0 := by
  induction n with
  | zero => rfl
  | succ n ih => simp [ov, ih]
theorem ov_mono {f g g' : Nat → Nat} {n : Nat} (h : ∀ i, i < n → g i ≤ g' i) : ov f g n ≤ ov f g' n := by
  induction n with
  | zero => exact Nat.le_refl _
  | succ n ih =>
    simp only [ov]
    have h1 := ih (fun i hi => h i (by omega))
    have h2 := h n (by omega)
    omega
theorem ov_step {f g : Nat → Nat} {n id : Nat} (h : id < n) : ov f (fun j => g j + if id = j then 1 else 0) n = ov f g n + if g id < f id then 1 else 0 := by
  induction n with
  | zero => omega
  | succ n ih =>
    simp only [ov]
    by_cases e : id = n
    · subst e
      have : ov f (fun j => g j + if id = j then 1 else 0) id = ov f g id := ov_congr (fun i hi => ⟨rfl, by simp; omega⟩)
      rw [this]
      simp only [if_true]
      split <;> omega
    · rw [ih (by omega)]
      simp only [e, if_false]
      split <;> omega
theorem ov_cnt_step {S L : Nat → Nat} {ns k n : Nat} (h : L k < n) : ov (fun j => cnt S j ns) (fun j => cnt L j (k + 1)) n = ov (fun j => cnt S j ns) (fun j => cnt L j k) n + if cnt L (L k) k < cnt S (L k) ns then 1 else 0 := by
  rw [← ov_step (f := fun j => cnt S j ns) (g := fun j => cnt L j k) h]
  exact ov_congr (fun i _ => ⟨rfl, cnt_succ _ _ _⟩)
theorem ov_le_lt (S L : Nat → Nat) (ns k n : Nat) : ov (fun j => cnt S j ns) (fun j => cnt L j k) n ≤ lt L n k := by
  induction n with
  | zero => simp [ov]
  | succ n ih => simp only [ov]; rw [lt_succ]; omega
theorem ov_le (S L : Nat → Nat) (ns k n : Nat) : ov (fun j => cnt S j ns) (fun j => cnt L j k) n ≤ k := Nat.le_trans (ov_le_lt S L ns k n) (lt_le _ _ _)
/-- What is left of the copies. -/
def lft (S L : Nat → Nat) (ns k j : Nat) : Nat := cnt S j ns - cnt L j k
theorem lft_zero (S L : Nat → Nat) (ns j : Nat) : lft S L ns 0 j = cnt S j ns := by simp [lft, cnt_zero]
theorem lft_le (S L : Nat → Nat) (ns k j : Nat) : lft S L ns k j ≤ ns := Nat.le_trans (Nat.sub_le _ _) (cnt_le _ _ _)
theorem lft_pos (S L : Nat → Nat) (ns k : Nat) : 0 < lft S L ns k (L k) ↔ cnt L (L k) k < cnt S (L k) ns := by unfold lft; omega
end Go.Proofs.Qxb6600117a
