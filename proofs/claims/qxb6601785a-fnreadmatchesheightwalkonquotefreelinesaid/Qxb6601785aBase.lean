import Derived.WalkKit
import Derived.WalkSpells
import Derived.WalkLawsBesides
import Derived.Below
import Derived.Deep.OwnRows
namespace Go.Proofs.Qxb6601785a
open Go.RowKit
set_option linter.unusedSimpArgs false

/-- n elements of s cells each lie from an address on, in a block from 'lo' on: cell c of element k holds 'g k c'. -/
def RowIn (w : World) (lo : Nat) (ao : Option Addr) (n s : Nat) (g : Nat → Nat → Value) : Prop :=
  n = 0 ∨ ∃ b o, ao = some ⟨b, o, none⟩ ∧ lo ≤ b ∧ b < w.heap.size ∧ ∀ k, k < n → ∀ c, c < s → w.cell? ⟨b, o + k * s + c, none⟩ = some (g k c)

theorem RowIn.below {w w' : World} {B lo : Nat} {ao : Option Addr} {n s : Nat} {g : Nat → Nat → Value} (h : RowIn w lo ao n s g) (hb : Below B w w') (hB : w.heap.size ≤ B) : RowIn w' lo ao n s g := by
  rcases h with h | ⟨b, o, ha, hlo, hlt, hc⟩
  · exact .inl h
  · exact .inr ⟨b, o, ha, hlo, Nat.lt_of_lt_of_le hlt hb.size, fun k hk c hcs => (hb.cell (p := ⟨b, o + k * s + c, none⟩) (Nat.lt_of_lt_of_le hlt hB)).trans (hc k hk c hcs)⟩

theorem RowIn.lower {w : World} {lo lo' : Nat} {ao : Option Addr} {n s : Nat} {g : Nat → Nat → Value} (h : RowIn w lo ao n s g) (hl : lo' ≤ lo) : RowIn w lo' ao n s g := by
  rcases h with h | ⟨b, o, ha, hlo, hlt, hc⟩
  · exact .inl h
  · exact .inr ⟨b, o, ha, Nat.le_trans hl hlo, hlt, hc⟩

theorem RowIn.congr {w : World} {lo : Nat} {ao : Option Addr} {n s : Nat} {g g' : Nat → Nat → Value} (h : RowIn w lo ao n s g) (e : ∀ k, k < n → ∀ c, c < s → g k c = g' k c) : RowIn w lo ao n s g' := by
  rcases h with h | ⟨b, o, ha, hlo, hlt, hc⟩
  · exact .inl h
  · exact .inr ⟨b, o, ha, hlo, hlt, fun k hk c hcs => by rw [hc k hk c hcs, e k hk c hcs]⟩

/-- A store into a block below 'lo'. -/
theorem RowIn.setCell {w : World} {lo : Nat} {ao : Option Addr} {n s : Nat} {g : Nat → Nat → Value} (h : RowIn w lo ao n s g) {a : Addr} (ha : a.block < lo) (u : Value) : RowIn (w.setCell a u) lo ao n s g := by
  rcases h with h | ⟨b, o, hao, hlo, hlt, hc⟩
  · exact .inl h
  · refine .inr ⟨b, o, hao, hlo, by simpa [World.setCell] using hlt, fun k hk c hcs => ?_⟩
    rw [← hc k hk c hcs]
    exact World.cell?_of_block (Below.heap_setCell _ _ _ _ (by show b ≠ a.block; omega))

/-- The value is a slice of n elements that lie so. -/
def IsSl (w : World) (lo : Nat) (v : Value) (n s : Nat) (g : Nat → Nat → Value) : Prop :=
  ∃ ao cap, v = .slice ao n cap ∧ (ao = none → n = 0 ∧ cap = 0) ∧ RowIn w lo ao n s g

theorem IsSl.below {w w' : World} {B lo : Nat} {v : Value} {n s : Nat} {g : Nat → Nat → Value} (h : IsSl w lo v n s g) (hb : Below B w w') (hB : w.heap.size ≤ B) : IsSl w' lo v n s g := by
  obtain ⟨ao, cap, hv, hn, hr⟩ := h
  exact ⟨ao, cap, hv, hn, hr.below hb hB⟩

theorem IsSl.lower {w : World} {lo lo' : Nat} {v : Value} {n s : Nat} {g : Nat → Nat → Value} (h : IsSl w lo v n s g) (hl : lo' ≤ lo) : IsSl w lo' v n s g := by
  obtain ⟨ao, cap, hv, hn, hr⟩ := h
  exact ⟨ao, cap, hv, hn, hr.lower hl⟩

theorem IsSl.congr {w : World} {lo : Nat} {v : Value} {n s : Nat} {g g' : Nat → Nat → Value} (h : IsSl w lo v n s g) (e : ∀ k, k < n → ∀ c, c < s → g k c = g' k c) : IsSl w lo v n s g' := by
  obtain ⟨ao, cap, hv, hn, hr⟩ := h
  exact ⟨ao, cap, hv, hn, hr.congr e⟩

theorem IsSl.setCell {w : World} {lo : Nat} {v : Value} {n s : Nat} {g : Nat → Nat → Value} (h : IsSl w lo v n s g) {a : Addr} (ha : a.block < lo) (u : Value) : IsSl (w.setCell a u) lo v n s g := by
  obtain ⟨ao, cap, hv, hn, hr⟩ := h
  exact ⟨ao, cap, hv, hn, hr.setCell ha u⟩

theorem IsSl.nil (w : World) (lo s : Nat) (g : Nat → Nat → Value) : IsSl w lo (.slice none 0 0) 0 s g := ⟨none, 0, rfl, fun _ => ⟨rfl, rfl⟩, .inl rfl⟩

/-- A whole own row, as a slice. -/
theorem isSl_of_rowIs {w : World} {b : Nat} {t : TypeId} {n s cap : Nat} {f : Nat → Value} {g : Nat → Nat → Value} (h : w.rowIs b t (n * s) f) (lo : Nat) (hlo : lo ≤ b) (e : ∀ k, k < n → ∀ c, c < s → f (k * s + c) = g k c) :
    IsSl w lo (.slice (some ⟨b, 0, none⟩) n cap) n s g := by
  refine ⟨_, cap, rfl, fun h => (by cases h), .inr ⟨b, 0, rfl, hlo, h.lt, fun k hk c hc => ?_⟩⟩
  rw [Nat.zero_add, ← e k hk c hc]
  refine h.cell ?_
  calc k * s + c < k * s + s := by omega
    _ = (k + 1) * s := by rw [Nat.add_mul, Nat.one_mul]
    _ ≤ n * s := Nat.mul_le_mul_right _ hk

/-- What make lays, whatever the element's cells. -/
theorem rowIs_made_any (w : World) (z : Array Value) (m : Nat) (t : TypeId) : (w.alloc (.cells (madeCells z m) t)).rowIs w.heap.size t m (fun j => z[j % z.size]!) :=
  ⟨_, Go.Deep.blk_alloc_new _ _, size_madeCells _ _, fun i hi => by simp [madeCells, hi]⟩

/-- 'make([]T, n)' as an equation for every world. -/
theorem run_make_any {P : Program} (t e : TypeId) (z : Value) (size bytes : Nat) (ht : P.underlying t = some (.slice e)) (hinfo : (P.info? e).map (fun i => (i.zero, i.size, i.bytes)) = some (some z, size, bytes))
    (kl kc : IntKind) (n : Nat) (hbytes : bytes * n ≤ 281474976710656) (h63 : n ≤ 9223372036854775807) (w : World) :
    (Instr.makeSlice t (.int kl (n : Int)) (.int kc (n : Int))).run P w = .ok (.slice (some ⟨w.heap.size, 0, none⟩) n n) (w.alloc (.cells (madeCells z.cells (n * size)) e)) := by
  obtain ⟨i, hi, hzz⟩ := Option.map_eq_some_iff.1 hinfo
  simp only [Prod.mk.injEq] at hzz
  obtain ⟨hz, hs, hb⟩ := hzz
  have hb' : (i.bytes : Int) * (n : Int) ≤ 281474976710656 := by
    rw [hb]
    have h : ((bytes * n : Nat) : Int) ≤ 281474976710656 := by omega
    rwa [Int.natCast_mul] at h
  have hr := run_make (P := P) w t e i z ht hi hz kl kc n n (by omega) (Int.le_refl _) hb' (by omega)
  simp only [Int.toNat_natCast, hs] at hr
  exact hr

theorem rowIs_made_at (w : World) (z : Array Value) (m : Nat) (t : TypeId) {b : Nat} (hb : b = w.heap.size) : (w.alloc (.cells (madeCells z m) t)).rowIs b t m (fun j => z[j % z.size]!) := by
  subst hb; exact rowIs_made_any w z m t
theorem blk_keep {w w' : World} {B k : Nat} {o : Obj} (h : w.heap[k]? = some o) (hb : Below B w w') (hB : w.heap.size ≤ B) : w'.heap[k]? = some o := by
  rw [hb.block k (Nat.lt_of_lt_of_le (lt_of_block h) hB)]; exact h
theorem blk_set {w : World} {k : Nat} {o : Obj} (h : w.heap[k]? = some o) {a : Addr} (hne : k ≠ a.block) (u : Value) : (w.setCell a u).heap[k]? = some o := by
  rw [Below.heap_setCell _ _ _ _ hne]; exact h
theorem blk_alloc {w : World} {k : Nat} {o : Obj} (h : w.heap[k]? = some o) (o' : Obj) : (w.alloc o').heap[k]? = some o := by
  rw [Below.heap_alloc _ _ _ (lt_of_block h)]; exact h
theorem blk_new (w : World) (o : Obj) {k : Nat} (hk : k = w.heap.size) : (w.alloc o).heap[k]? = some o := by
  subst hk; exact Go.Deep.blk_alloc_new _ _
theorem blk_drew {w : World} {k : Nat} {o : Obj} (h : w.heap[k]? = some o) : w.drew.heap[k]? = some o := h
theorem cell_at {w : World} {b i : Nat} {cs : Array Value} {t : TypeId} (h : w.heap[b]? = some (.cells cs t (0, 0))) : w.cell? ⟨b, i, none⟩ = cs[i]? := by simp [World.cell?, h]
theorem free_at {w : World} {b i : Nat} {cs : Array Value} {t : TypeId} (h : w.heap[b]? = some (.cells cs t (0, 0))) : w.frozen? ⟨b, i, none⟩ = false := by simp [World.frozen?, h]
theorem rowIs_keep {w w' : World} {B b : Nat} {t : TypeId} {n : Nat} {f : Nat → Value} (h : w.rowIs b t n f) (hb : Below B w w') (hB : w.heap.size ≤ B) : w'.rowIs b t n f :=
  h.of_block (hb.block _ (Nat.lt_of_lt_of_le h.lt hB))
theorem blk_put {w : World} {g i : Nat} {t : TypeId} {cs : Array Value} {u : Value} (h : w.heap[g]? = some (.cells cs t (0, 0))) : (w.setCell ⟨g, i, none⟩ u).heap[g]? = some (.cells (cs.setIfInBounds i u) t (0, 0)) := by
  have hlt := lt_of_block h
  have h' : w.heap[g] = .cells cs t (0, 0) := by simpa [Array.getElem?_eq_getElem hlt] using h
  show (w.heap.modify g _)[g]? = _
  rw [Array.getElem?_eq_getElem (by simpa using hlt), Array.getElem_modify_self, h']
  rfl
theorem blk_full2 {w : World} {g : Nat} {t : TypeId} {u0 u1 v0 v1 : Value} (h : w.heap[g]? = some (.cells #[u0, u1] t (0, 0))) : ((w.setCell ⟨g, 0, none⟩ v0).setCell ⟨g, 1, none⟩ v1).heap[g]? = some (.cells #[v0, v1] t (0, 0)) := by
  have h0 := blk_put (i := 0) (u := v0) h
  simp only [List.setIfInBounds_toArray, List.set_cons_zero, List.set_cons_succ] at h0
  have h1 := blk_put (i := 1) (u := v1) h0
  simp only [List.setIfInBounds_toArray, List.set_cons_zero, List.set_cons_succ] at h1
  exact h1
/-- What is owned, as a slice. -/
theorem isSl_of_owns {w : World} {base : Nat} {e : TypeId} {s : Nat} {v : Value} {n : Nat} {xs : List Value} {g : Nat → Nat → Value} (h : w.ownsRow base e s v n xs) (hx : ∀ k, k < n → ∀ c, c < s → xs[k * s + c]? = some (g k c)) : IsSl w base v n s g := by
  rcases h.2 with ⟨rfl, rfl⟩ | ⟨b, cap, cur, rfl, hb, hh, hnc, hcm, hsz, ht⟩
  · exact IsSl.nil _ _ _ _
  · refine ⟨_, cap, rfl, fun h => (by cases h), .inr ⟨b, 0, rfl, hb, lt_of_block hh, fun k hk c hc => ?_⟩⟩
    have h1 := hx k hk c hc
    rw [← ht, List.getElem?_take] at h1
    split at h1
    · rw [cell_at hh, Nat.zero_add]
      simpa using h1
    · cases h1

theorem news_block {w : World} {b : Nat} {t : TypeId} {cs : List Value} (h : w.heap[b]? = some (.cells cs.toArray t (0, 0))) : ∀ j u, cs[j]? = some u → w.cell? ((⟨b, 0, none⟩ : Addr).add j) = some u := by
  intro j u hu
  have hadd : (⟨b, 0, none⟩ : Addr).add j = ⟨b, j, none⟩ := by unfold Addr.add; split <;> simp_all
  rw [hadd, cell_at h]
  simpa using hu

/-- The slice does not lie in block k. -/
def NotIn (v : Value) (k : Nat) : Prop := ∀ a n c, v = .slice (some a) n c → n = 0 ∨ a.block ≠ k
theorem IsSl.notIn_low {w : World} {lo : Nat} {v : Value} {n s : Nat} {g : Nat → Nat → Value} (h : IsSl w lo v n s g) {k : Nat} (hk : k < lo) : NotIn v k := by
  intro a n' c hv
  obtain ⟨ao, cap, rfl, _, hr⟩ := h
  simp only [Value.slice.injEq] at hv
  obtain ⟨rfl, rfl, rfl⟩ := hv
  rcases hr with hr | ⟨b, o, ha, hlo, _, _⟩
  · exact .inl hr
  · cases ha; right; show b ≠ k; omega
theorem IsSl.notIn_high {w : World} {lo : Nat} {v : Value} {n s : Nat} {g : Nat → Nat → Value} (h : IsSl w lo v n s g) {k : Nat} (hk : w.heap.size ≤ k) : NotIn v k := by
  intro a n' c hv
  obtain ⟨ao, cap, rfl, _, hr⟩ := h
  simp only [Value.slice.injEq] at hv
  obtain ⟨rfl, rfl, rfl⟩ := hv
  rcases hr with hr | ⟨b, o, ha, _, hlt, _⟩
  · exact .inl hr
  · cases ha; right; show b ≠ k; omega
theorem IsSl.blocks {w w' : World} {lo : Nat} {v : Value} {n s : Nat} {g : Nat → Nat → Value} (h : IsSl w lo v n s g) (hz : w.heap.size ≤ w'.heap.size) (hk : ∀ k, k < w.heap.size → ¬ NotIn v k → w'.heap[k]? = w.heap[k]?) : IsSl w' lo v n s g := by
  obtain ⟨ao, cap, hv, hn, hr⟩ := h
  refine ⟨ao, cap, hv, hn, ?_⟩
  rcases hr with hr | ⟨b, o, ha, hlo, hlt, hc⟩
  · exact .inl hr
  · rcases Nat.eq_zero_or_pos n with h0 | hp
    · exact .inl h0
    · refine .inr ⟨b, o, ha, hlo, Nat.lt_of_lt_of_le hlt hz, fun k hk' c hcs => ?_⟩
      rw [← hc k hk' c hcs]
      refine World.cell?_of_block (hk b hlt (fun hN => ?_))
      rcases hN ⟨b, o, none⟩ n cap (by rw [hv, ha]) with h | h
      · omega
      · exact h rfl
theorem IsSl.setCell' {w : World} {lo : Nat} {v : Value} {n s : Nat} {g : Nat → Nat → Value} (h : IsSl w lo v n s g) {a : Addr} (ha : NotIn v a.block) (u : Value) : IsSl (w.setCell a u) lo v n s g :=
  h.blocks (by simp [World.setCell]) (fun k _ hN => Below.heap_setCell _ _ _ _ (fun e => hN (e ▸ ha)))
theorem IsSl.grown' {w w' : World} {lo : Nat} {v : Value} {n s : Nat} {g : Nat → Nat → Value} {row : Option Nat} (h : IsSl w lo v n s g) (hg : w.grownBy w' row) (hr : ∀ k, row = some k → NotIn v k) : IsSl w' lo v n s g :=
  h.blocks hg.size (fun k hk hN => hg.block k hk (fun e => hN (hr k e.symm)))
theorem IsSl.alloc {w : World} {lo : Nat} {v : Value} {n s : Nat} {g : Nat → Nat → Value} (h : IsSl w lo v n s g) (o : Obj) : IsSl (w.alloc o) lo v n s g :=
  h.blocks (by simp) (fun k hk _ => Below.heap_alloc _ _ _ hk)


end Go.Proofs.Qxb6601785a
