import Derived.Test.Qxb6600017aBase
namespace Go.Proofs.Qxb6600017a
open Go.RowKit
set_option linter.unusedSimpArgs false

/-- What is owned, as a slice. -/
theorem isSl_of_owns {w : World} {base : Nat} {e : TypeId} {s : Nat} {v : Value} {n : Nat} {xs : List Value} {g : Nat → Nat → Value} (h : w.ownsRow base e s v n xs) (hx : ∀ k, k < n → ∀ c, c < s → xs[k * s + c]? = some (g k c)) : IsSl w base v n s g := by
  rcases h.2 with ⟨rfl, rfl⟩ | ⟨b, cap, cur, rfl, hb, hh, hnc, hcm, hsz, ht⟩
  · exact IsSl.nil _ _ _ _
  · refine ⟨_, cap, rfl, fun h => (by cases h), .inr ⟨b, 0, rfl, hb, lt_of_block hh, fun k hk c hc => ?_⟩⟩
    have h1 := hx k hk c hc
    rw [← ht, List.getElem?_take] at h1
    split at h1
    · rw [cell_at hh, Nat.zero_add]
      simpa using h1
    · cases h1

theorem news_block {w : World} {b : Nat} {t : TypeId} {cs : List Value} (h : w.heap[b]? = some (.cells cs.toArray t (0, 0))) : ∀ j u, cs[j]? = some u → w.cell? ((⟨b, 0, none⟩ : Addr).add j) = some u := by
  intro j u hu
  have hadd : (⟨b, 0, none⟩ : Addr).add j = ⟨b, j, none⟩ := by unfold Addr.add; split <;> simp_all
  rw [hadd, cell_at h]
  simpa using hu

/-- The fingers that are shown: interval, node. -/
def fiL (first : Int) (x : Nat → Int) (L : List Nat) : List Value := L.flatMap fun (i : Nat) => [Value.int .i64 (first + (i : Int)), .int .i64 (x i)]
def fiV (first : Int) (x : Nat → Int) (L : List Nat) (i c : Nat) : Value := if c = 0 then .int .i64 (first + ((L.getD i 0 : Nat) : Int)) else .int .i64 (x (L.getD i 0))

theorem fiL_get (first : Int) (x : Nat → Int) (L : List Nat) : ∀ i, i < L.length → ∀ c, c < 2 → (fiL first x L)[i * 2 + c]? = some (fiV first x L i c) := by
  induction L with
  | nil => intro i hi; simp at hi
  | cons a L ih =>
    intro i hi c hc
    cases i with
    | zero =>
      rcases (by omega : c = 0 ∨ c = 1) with rfl | rfl <;> simp [fiL, fiV]
    | succ i =>
      have e : (i + 1) * 2 + c = (i * 2 + c) + 2 := by omega
      rw [e]
      have := ih i (by simpa using hi) c hc
      simp only [fiL, List.flatMap_cons, List.cons_append, List.nil_append, List.getElem?_cons_succ] at this ⊢
      rw [this]
      simp [fiV]

theorem fiL_len (first : Int) (x : Nat → Int) (L : List Nat) : (fiL first x L).length = L.length * 2 := by
  induction L with
  | nil => rfl
  | cons a L ih => simp [fiL] at ih ⊢; omega

/-- The places of the valid ones among the first k. -/
def vl (bv : Nat → Bool) (k : Nat) : List Nat := (List.range k).filter bv
theorem vl_le (bv : Nat → Bool) (k : Nat) : (vl bv k).length ≤ k := by
  have := List.length_filter_le bv (List.range k)
  simpa [vl] using this
theorem vl_hit (bv : Nat → Bool) (k : Nat) (h : bv k = true) : vl bv (k + 1) = vl bv k ++ [k] := by simp [vl, List.range_succ, List.filter_cons, h]
theorem vl_miss (bv : Nat → Bool) (k : Nat) (h : bv k = false) : vl bv (k + 1) = vl bv k := by simp [vl, List.range_succ, List.filter_cons, h]
theorem fiL_snoc (first : Int) (x : Nat → Int) (L : List Nat) (k : Nat) : fiL first x (L ++ [k]) = fiL first x L ++ [.int .i64 (first + (k : Int)), .int .i64 (x k)] := by simp [fiL]

/-- The blocks from lo to hi are as they were. -/
def Same (lo hi : Nat) (w w' : World) : Prop := ∀ k, lo ≤ k → k < hi → w'.heap[k]? = w.heap[k]?
theorem Same.refl (lo hi : Nat) (w : World) : Same lo hi w w := fun _ _ _ => rfl
theorem Same.alloc {lo hi : Nat} {w w' : World} (h : Same lo hi w w') (hs : hi ≤ w'.heap.size) (o : Obj) : Same lo hi w (w'.alloc o) := fun k h1 h2 => by
  rw [Below.heap_alloc _ _ _ (by omega)]; exact h k h1 h2
theorem Same.setCell {lo hi : Nat} {w w' : World} (h : Same lo hi w w') {a : Addr} (ha : a.block < lo ∨ hi ≤ a.block) (u : Value) : Same lo hi w (w'.setCell a u) := fun k h1 h2 => by
  rw [Below.heap_setCell _ _ _ _ (by omega)]; exact h k h1 h2
theorem Same.below {lo hi B : Nat} {w w' w'' : World} (h : Same lo hi w w') (hb : Below B w' w'') (hB : hi ≤ B) : Same lo hi w w'' := fun k h1 h2 => by
  rw [hb.block k (by omega)]; exact h k h1 h2
theorem Same.grown {lo hi : Nat} {w w' w'' : World} {row : Option Nat} (h : Same lo hi w w') (hg : w'.grownBy w'' row) (hs : hi ≤ w'.heap.size) (hr : ∀ k, row = some k → hi ≤ k) : Same lo hi w w'' := fun k h1 h2 => by
  rw [hg.block k (by omega) (fun e => by have := hr k e.symm; omega)]; exact h k h1 h2
theorem IsSl.same {w w' : World} {lo hi : Nat} {v : Value} {n s : Nat} {g : Nat → Nat → Value} (h : IsSl w lo v n s g) (hs : Same lo hi w w') (hh : w.heap.size ≤ hi) (hz : w.heap.size ≤ w'.heap.size) : IsSl w' lo v n s g := by
  obtain ⟨ao, cap, hv, hn, hr⟩ := h
  refine ⟨ao, cap, hv, hn, ?_⟩
  rcases hr with hr | ⟨b, o, ha, hlo, hlt, hc⟩
  · exact .inl hr
  · exact .inr ⟨b, o, ha, hlo, Nat.lt_of_lt_of_le hlt hz, fun k hk c hcs => by
      rw [← hc k hk c hcs]; exact World.cell?_of_block (hs b hlo (by omega))⟩
/-- A block that no append turned. -/
theorem blk_grown {w w' : World} {k : Nat} {o : Obj} {row : Option Nat} (h : w.heap[k]? = some o) (hg : w.grownBy w' row) (hr : row ≠ some k) : w'.heap[k]? = some o := by
  rw [hg.block k (lt_of_block h) (fun e => hr e.symm)]; exact h
theorem owns_ne {w : World} {base : Nat} {e : TypeId} {s : Nat} {v : Value} {n : Nat} {xs : List Value} (h : w.ownsRow base e s v n xs) {k : Nat} (hk : k < base) : v.ownBlock ≠ some k := fun e' => by
  have := (h.lt k e').1; omega

/-- The slice does not lie in block k. -/
def NotIn (v : Value) (k : Nat) : Prop := ∀ a n c, v = .slice (some a) n c → n = 0 ∨ a.block ≠ k
theorem IsSl.notIn_low {w : World} {lo : Nat} {v : Value} {n s : Nat} {g : Nat → Nat → Value} (h : IsSl w lo v n s g) {k : Nat} (hk : k < lo) : NotIn v k := by
  intro a n' c hv
  obtain ⟨ao, cap, rfl, _, hr⟩ := h
  simp only [Value.slice.injEq] at hv
  obtain ⟨rfl, rfl, rfl⟩ := hv
  rcases hr with hr | ⟨b, o, ha, hlo, _, _⟩
  · exact .inl hr
  · cases ha; right; show b ≠ k; omega
theorem IsSl.notIn_high {w : World} {lo : Nat} {v : Value} {n s : Nat} {g : Nat → Nat → Value} (h : IsSl w lo v n s g) {k : Nat} (hk : w.heap.size ≤ k) : NotIn v k := by
  intro a n' c hv
  obtain ⟨ao, cap, rfl, _, hr⟩ := h
  simp only [Value.slice.injEq] at hv
  obtain ⟨rfl, rfl, rfl⟩ := hv
  rcases hr with hr | ⟨b, o, ha, _, hlt, _⟩
  · exact .inl hr
  · cases ha; right; show b ≠ k; omega
theorem IsSl.blocks {w w' : World} {lo : Nat} {v : Value} {n s : Nat} {g : Nat → Nat → Value} (h : IsSl w lo v n s g) (hz : w.heap.size ≤ w'.heap.size) (hk : ∀ k, k < w.heap.size → ¬ NotIn v k → w'.heap[k]? = w.heap[k]?) : IsSl w' lo v n s g := by
  obtain ⟨ao, cap, hv, hn, hr⟩ := h
  refine ⟨ao, cap, hv, hn, ?_⟩
  rcases hr with hr | ⟨b, o, ha, hlo, hlt, hc⟩
  · exact .inl hr
  · rcases Nat.eq_zero_or_pos n with h0 | hp
    · exact .inl h0
    · refine .inr ⟨b, o, ha, hlo, Nat.lt_of_lt_of_le hlt hz, fun k hk' c hcs => ?_⟩
      rw [← hc k hk' c hcs]
      refine World.cell?_of_block (hk b hlt (fun hN => ?_))
      rcases hN ⟨b, o, none⟩ n cap (by rw [hv, ha]) with h | h
      · omega
      · exact h rfl
theorem IsSl.setCell' {w : World} {lo : Nat} {v : Value} {n s : Nat} {g : Nat → Nat → Value} (h : IsSl w lo v n s g) {a : Addr} (ha : NotIn v a.block) (u : Value) : IsSl (w.setCell a u) lo v n s g :=
  h.blocks (by simp [World.setCell]) (fun k _ hN => Below.heap_setCell _ _ _ _ (fun e => hN (e ▸ ha)))
theorem IsSl.grown' {w w' : World} {lo : Nat} {v : Value} {n s : Nat} {g : Nat → Nat → Value} {row : Option Nat} (h : IsSl w lo v n s g) (hg : w.grownBy w' row) (hr : ∀ k, row = some k → NotIn v k) : IsSl w' lo v n s g :=
  h.blocks hg.size (fun k hk hN => hg.block k hk (fun e => hN (hr k e.symm)))
theorem IsSl.alloc {w : World} {lo : Nat} {v : Value} {n s : Nat} {g : Nat → Nat → Value} (h : IsSl w lo v n s g) (o : Obj) : IsSl (w.alloc o) lo v n s g :=
  h.blocks (by simp) (fun k hk _ => Below.heap_alloc _ _ _ hk)

theorem isSl_off5 {w : World} {lo g : Nat} {v : Value} {m s : Nat} {f : Nat → Nat → Value} {v0 v1 v2 v3 v4 : Value} (h : IsSl w lo v m s f) (hg : NotIn v g) : IsSl (((((w.setCell ⟨g, 0, none⟩ v0).setCell ⟨g, 1, none⟩ v1).setCell ⟨g, 2, none⟩ v2).setCell ⟨g, 3, none⟩ v3).setCell ⟨g, 4, none⟩ v4) lo v m s f :=
  (((((h.setCell' hg v0).setCell' hg v1).setCell' hg v2).setCell' hg v3).setCell' hg v4)

theorem vl_lt (bv : Nat → Bool) (k i : Nat) (hi : i < (vl bv k).length) : (vl bv k).getD i 0 < k ∧ bv ((vl bv k).getD i 0) = true := by
  have h : (vl bv k)[i] ∈ vl bv k := List.getElem_mem hi
  have e : (vl bv k).getD i 0 = (vl bv k)[i] := by simp [List.getD, hi]
  rw [e]
  simp only [vl, List.mem_filter, List.mem_range] at h
  exact h
end Go.Proofs.Qxb6600017a
