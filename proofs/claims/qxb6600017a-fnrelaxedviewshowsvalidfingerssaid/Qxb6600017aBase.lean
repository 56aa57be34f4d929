import Derived.WalkKit
import Derived.WalkSpells
import Derived.WalkLawsBesides
import Derived.Below
import Derived.Deep.OwnRows
namespace Go.Proofs.Qxb6600017a
open Go.RowKit
set_option linter.unusedSimpArgs false

/-- n elements of s cells each lie from an address on, in a block from 'lo' on: cell c of element k holds 'g k c'. -/
def RowIn (w : World) (lo : Nat) (ao : Option Addr) (n s : Nat) (g : Nat → Nat → Value) : Prop :=
  n = 0 ∨ ∃ b o, ao = some ⟨b, o, none⟩ ∧ lo ≤ b ∧ b < w.heap.size ∧ ∀ k, k < n → ∀ c, c < s → w.cell? ⟨b, o + k * s + c, none⟩ = some (g k c)

theorem RowIn.below {w w' : World} {B lo : Nat} {ao : Option Addr} {n s : Nat} {g : Nat → Nat → Value} (h : RowIn w lo ao n s g) (hb : Below B w w') (hB : w.heap.size ≤ B) : RowIn w' lo ao n s g := by
  rcases h with h | ⟨b, o, ha, hlo, hlt, hc⟩
  · exact .inl h
  · exact .inr ⟨b, o, ha, hlo, Nat.lt_of_lt_of_le hlt hb.size, fun k hk c hcs => (hb.cell (p := ⟨b, o + k * s + c, none⟩) (Nat.lt_of_lt_of_le hlt hB)).trans (hc k hk c hcs)⟩

theorem RowIn.lower {w : World} {lo lo' : Nat} {ao : Option Addr} {n s : Nat} {g : Nat → Nat → Value} (h : RowIn w lo ao n s g) (hl : lo' ≤ lo) : RowIn w lo' ao n s g := by
  rcases h with h | ⟨b, o, ha, hlo, hlt, hc⟩
  · exact .inl h
  · exact .inr ⟨b, o, ha, Nat.le_trans hl hlo, hlt, hc⟩

theorem RowIn.congr {w : World} {lo : Nat} {ao : Option Addr} {n s : Nat} {g g' : Nat → Nat → Value} (h : RowIn w lo ao n s g) (e : ∀ k, k < n → ∀ c, c < s → g k c = g' k c) : RowIn w lo ao n s g' := by
  rcases h with h | ⟨b, o, ha, hlo, hlt, hc⟩
  · exact .inl h
  · exact .inr ⟨b, o, ha, hlo, hlt, fun k hk c hcs => by rw [hc k hk c hcs, e k hk c hcs]⟩

/-- A store into a block below 'lo'. -/
theorem RowIn.setCell {w : World} {lo : Nat} {ao : Option Addr} {n s : Nat} {g : Nat → Nat → Value} (h : RowIn w lo ao n s g) {a : Addr} (ha : a.block < lo) (u : Value) : RowIn (w.setCell a u) lo ao n s g := by
  rcases h with h | ⟨b, o, hao, hlo, hlt, hc⟩
  · exact .inl h
  · refine .inr ⟨b, o, hao, hlo, by simpa [World.setCell] using hlt, fun k hk c hcs => ?_⟩
    rw [← hc k hk c hcs]
    exact World.cell?_of_block (Below.heap_setCell _ _ _ _ (by show b ≠ a.block; omega))

/-- The value is a slice of n elements that lie so. -/
def IsSl (w : World) (lo : Nat) (v : Value) (n s : Nat) (g : Nat → Nat → Value) : Prop :=
  ∃ ao cap, v = .slice ao n cap ∧ (ao = none → n = 0 ∧ cap = 0) ∧ RowIn w lo ao n s g

theorem IsSl.below {w w' : World} {B lo : Nat} {v : Value} {n s : Nat} {g : Nat → Nat → Value} (h : IsSl w lo v n s g) (hb : Below B w w') (hB : w.heap.size ≤ B) : IsSl w' lo v n s g := by
  obtain ⟨ao, cap, hv, hn, hr⟩ := h
  exact ⟨ao, cap, hv, hn, hr.below hb hB⟩

theorem IsSl.lower {w : World} {lo lo' : Nat} {v : Value} {n s : Nat} {g : Nat → Nat → Value} (h : IsSl w lo v n s g) (hl : lo' ≤ lo) : IsSl w lo' v n s g := by
  obtain ⟨ao, cap, hv, hn, hr⟩ := h
  exact ⟨ao, cap, hv, hn, hr.lower hl⟩

theorem IsSl.congr {w : World} {lo : Nat} {v : Value} {n s : Nat} {g g' : Nat → Nat → Value} (h : IsSl w lo v n s g) (e : ∀ k, k < n → ∀ c, c < s → g k c = g' k c) : IsSl w lo v n s g' := by
  obtain ⟨ao, cap, hv, hn, hr⟩ := h
  exact ⟨ao, cap, hv, hn, hr.congr e⟩

theorem IsSl.setCell {w : World} {lo : Nat} {v : Value} {n s : Nat} {g : Nat → Nat → Value} (h : IsSl w lo v n s g) {a : Addr} (ha : a.block < lo) (u : Value) : IsSl (w.setCell a u) lo v n s g := by
  obtain ⟨ao, cap, hv, hn, hr⟩ := h
  exact ⟨ao, cap, hv, hn, hr.setCell ha u⟩

theorem IsSl.nil (w : World) (lo s : Nat) (g : Nat → Nat → Value) : IsSl w lo (.slice none 0 0) 0 s g := ⟨none, 0, rfl, fun _ => ⟨rfl, rfl⟩, .inl rfl⟩

/-- A whole own row, as a slice. -/
theorem isSl_of_rowIs {w : World} {b : Nat} {t : TypeId} {n s cap : Nat} {f : Nat → Value} {g : Nat → Nat → Value} (h : w.rowIs b t (n * s) f) (lo : Nat) (hlo : lo ≤ b) (e : ∀ k, k < n → ∀ c, c < s → f (k * s + c) = g k c) :
    IsSl w lo (.slice (some ⟨b, 0, none⟩) n cap) n s g := by
  refine ⟨_, cap, rfl, fun h => (by cases h), .inr ⟨b, 0, rfl, hlo, h.lt, fun k hk c hc => ?_⟩⟩
  rw [Nat.zero_add, ← e k hk c hc]
  refine h.cell ?_
  calc k * s + c < k * s + s := by omega
    _ = (k + 1) * s := by rw [Nat.add_mul, Nat.one_mul]
    _ ≤ n * s := Nat.mul_le_mul_right _ hk

/-- What make lays, whatever the element's cells. -/
theorem rowIs_made_any (w : World) (z : Array Value) (m : Nat) (t : TypeId) : (w.alloc (.cells (madeCells z m) t)).rowIs w.heap.size t m (fun j => z[j % z.size]!) :=
  ⟨_, Go.Deep.blk_alloc_new _ _, size_madeCells _ _, fun i hi => by simp [madeCells, hi]⟩

/-- 'make([]T, n)' as an equation for every world. -/
theorem run_make_any {P : Program} (t e : TypeId) (z : Value) (size bytes : Nat) (ht : P.underlying t = some (.slice e)) (hinfo : (P.info? e).map (fun i => (i.zero, i.size, i.bytes)) = some (some z, size, bytes))
    (kl kc : IntKind) (n : Nat) (hbytes : bytes * n ≤ 281474976710656) (h63 : n ≤ 9223372036854775807) (w : World) :
    (Instr.makeSlice t (.int kl (n : Int)) (.int kc (n : Int))).run P w = .ok (.slice (some ⟨w.heap.size, 0, none⟩) n n) (w.alloc (.cells (madeCells z.cells (n * size)) e)) := by
  obtain ⟨i, hi, hzz⟩ := Option.map_eq_some_iff.1 hinfo
  simp only [Prod.mk.injEq] at hzz
  obtain ⟨hz, hs, hb⟩ := hzz
  have hb' : (i.bytes : Int) * (n : Int) ≤ 281474976710656 := by
    rw [hb]
    have h : ((bytes * n : Nat) : Int) ≤ 281474976710656 := by omega
    rwa [Int.natCast_mul] at h
  have hr := run_make (P := P) w t e i z ht hi hz kl kc n n (by omega) (Int.le_refl _) hb' (by omega)
  simp only [Int.toNat_natCast, hs] at hr
  exact hr

theorem rowIs_made_at (w : World) (z : Array Value) (m : Nat) (t : TypeId) {b : Nat} (hb : b = w.heap.size) : (w.alloc (.cells (madeCells z m) t)).rowIs b t m (fun j => z[j % z.size]!) := by
  subst hb; exact rowIs_made_any w z m t
theorem blk_keep {w w' : World} {B k : Nat} {o : Obj} (h : w.heap[k]? = some o) (hb : Below B w w') (hB : w.heap.size ≤ B) : w'.heap[k]? = some o := by
  rw [hb.block k (Nat.lt_of_lt_of_le (lt_of_block h) hB)]; exact h
theorem blk_set {w : World} {k : Nat} {o : Obj} (h : w.heap[k]? = some o) {a : Addr} (hne : k ≠ a.block) (u : Value) : (w.setCell a u).heap[k]? = some o := by
  rw [Below.heap_setCell _ _ _ _ hne]; exact h
theorem blk_alloc {w : World} {k : Nat} {o : Obj} (h : w.heap[k]? = some o) (o' : Obj) : (w.alloc o').heap[k]? = some o := by
  rw [Below.heap_alloc _ _ _ (lt_of_block h)]; exact h
theorem blk_new (w : World) (o : Obj) {k : Nat} (hk : k = w.heap.size) : (w.alloc o).heap[k]? = some o := by
  subst hk; exact Go.Deep.blk_alloc_new _ _
theorem blk_drew {w : World} {k : Nat} {o : Obj} (h : w.heap[k]? = some o) : w.drew.heap[k]? = some o := h
theorem cell_at {w : World} {b i : Nat} {cs : Array Value} {t : TypeId} (h : w.heap[b]? = some (.cells cs t (0, 0))) : w.cell? ⟨b, i, none⟩ = cs[i]? := by simp [World.cell?, h]
theorem free_at {w : World} {b i : Nat} {cs : Array Value} {t : TypeId} (h : w.heap[b]? = some (.cells cs t (0, 0))) : w.frozen? ⟨b, i, none⟩ = false := by simp [World.frozen?, h]
theorem rowIs_keep {w w' : World} {B b : Nat} {t : TypeId} {n : Nat} {f : Nat → Value} (h : w.rowIs b t n f) (hb : Below B w w') (hB : w.heap.size ≤ B) : w'.rowIs b t n f :=
  h.of_block (hb.block _ (Nat.lt_of_lt_of_le h.lt hB))
theorem blk_put {w : World} {g i : Nat} {t : TypeId} {cs : Array Value} {u : Value} (h : w.heap[g]? = some (.cells cs t (0, 0))) : (w.setCell ⟨g, i, none⟩ u).heap[g]? = some (.cells (cs.setIfInBounds i u) t (0, 0)) := by
  have hlt := lt_of_block h
  have h' : w.heap[g] = .cells cs t (0, 0) := by simpa [Array.getElem?_eq_getElem hlt] using h
  show (w.heap.modify g _)[g]? = _
  rw [Array.getElem?_eq_getElem (by simpa using hlt), Array.getElem_modify_self, h']
  rfl
theorem below_set5 {W w : World} {B g o : Nat} {v0 v1 v2 v3 v4 : Value} (hb : Below B W w) (hg : B ≤ g) : Below B W (((((w.setCell ⟨g, o, none⟩ v0).setCell ⟨g, o + 1, none⟩ v1).setCell ⟨g, o + 2, none⟩ v2).setCell ⟨g, o + 3, none⟩ v3).setCell ⟨g, o + 4, none⟩ v4) :=
  (((((hb.setCell hg v0).setCell hg v1).setCell hg v2).setCell hg v3).setCell hg v4)
theorem blk_set5 {w : World} {k g o : Nat} {p : Obj} {v0 v1 v2 v3 v4 : Value} (h : w.heap[k]? = some p) (hg : k ≠ g) : (((((w.setCell ⟨g, o, none⟩ v0).setCell ⟨g, o + 1, none⟩ v1).setCell ⟨g, o + 2, none⟩ v2).setCell ⟨g, o + 3, none⟩ v3).setCell ⟨g, o + 4, none⟩ v4).heap[k]? = some p :=
  (blk_set (blk_set (blk_set (blk_set (blk_set h hg v0) hg v1) hg v2) hg v3) hg v4)
theorem isSl_set5 {w : World} {lo g o : Nat} {v : Value} {m s : Nat} {f : Nat → Nat → Value} {v0 v1 v2 v3 v4 : Value} (h : IsSl w lo v m s f) (hg : g < lo) : IsSl (((((w.setCell ⟨g, o, none⟩ v0).setCell ⟨g, o + 1, none⟩ v1).setCell ⟨g, o + 2, none⟩ v2).setCell ⟨g, o + 3, none⟩ v3).setCell ⟨g, o + 4, none⟩ v4) lo v m s f :=
  (((((h.setCell hg v0).setCell hg v1).setCell hg v2).setCell hg v3).setCell hg v4)
theorem below_set5z {W w : World} {B g : Nat} {v0 v1 v2 v3 v4 : Value} (hb : Below B W w) (hg : B ≤ g) : Below B W (((((w.setCell ⟨g, 0, none⟩ v0).setCell ⟨g, 1, none⟩ v1).setCell ⟨g, 2, none⟩ v2).setCell ⟨g, 3, none⟩ v3).setCell ⟨g, 4, none⟩ v4) :=
  (((((hb.setCell hg v0).setCell hg v1).setCell hg v2).setCell hg v3).setCell hg v4)
theorem blk_set5z {w : World} {k g : Nat} {p : Obj} {v0 v1 v2 v3 v4 : Value} (h : w.heap[k]? = some p) (hg : k ≠ g) : (((((w.setCell ⟨g, 0, none⟩ v0).setCell ⟨g, 1, none⟩ v1).setCell ⟨g, 2, none⟩ v2).setCell ⟨g, 3, none⟩ v3).setCell ⟨g, 4, none⟩ v4).heap[k]? = some p :=
  (blk_set (blk_set (blk_set (blk_set (blk_set h hg v0) hg v1) hg v2) hg v3) hg v4)
theorem isSl_set5z {w : World} {lo g : Nat} {v : Value} {m s : Nat} {f : Nat → Nat → Value} {v0 v1 v2 v3 v4 : Value} (h : IsSl w lo v m s f) (hg : g < lo) : IsSl (((((w.setCell ⟨g, 0, none⟩ v0).setCell ⟨g, 1, none⟩ v1).setCell ⟨g, 2, none⟩ v2).setCell ⟨g, 3, none⟩ v3).setCell ⟨g, 4, none⟩ v4) lo v m s f :=
  (((((h.setCell hg v0).setCell hg v1).setCell hg v2).setCell hg v3).setCell hg v4)
theorem below_set11 {W w : World} {B g o : Nat} {v0 v1 v2 v3 v4 v5 v6 v7 v8 v9 v10 : Value} (hb : Below B W w) (hg : B ≤ g) : Below B W (((((((((((w.setCell ⟨g, o, none⟩ v0).setCell ⟨g, o + 1, none⟩ v1).setCell ⟨g, o + 2, none⟩ v2).setCell ⟨g, o + 3, none⟩ v3).setCell ⟨g, o + 4, none⟩ v4).setCell ⟨g, o + 5, none⟩ v5).setCell ⟨g, o + 6, none⟩ v6).setCell ⟨g, o + 7, none⟩ v7).setCell ⟨g, o + 8, none⟩ v8).setCell ⟨g, o + 9, none⟩ v9).setCell ⟨g, o + 10, none⟩ v10) :=
  (((((((((((hb.setCell hg v0).setCell hg v1).setCell hg v2).setCell hg v3).setCell hg v4).setCell hg v5).setCell hg v6).setCell hg v7).setCell hg v8).setCell hg v9).setCell hg v10)
theorem blk_set11 {w : World} {k g o : Nat} {p : Obj} {v0 v1 v2 v3 v4 v5 v6 v7 v8 v9 v10 : Value} (h : w.heap[k]? = some p) (hg : k ≠ g) : (((((((((((w.setCell ⟨g, o, none⟩ v0).setCell ⟨g, o + 1, none⟩ v1).setCell ⟨g, o + 2, none⟩ v2).setCell ⟨g, o + 3, none⟩ v3).setCell ⟨g, o + 4, none⟩ v4).setCell ⟨g, o + 5, none⟩ v5).setCell ⟨g, o + 6, none⟩ v6).setCell ⟨g, o + 7, none⟩ v7).setCell ⟨g, o + 8, none⟩ v8).setCell ⟨g, o + 9, none⟩ v9).setCell ⟨g, o + 10, none⟩ v10).heap[k]? = some p :=
  (blk_set (blk_set (blk_set (blk_set (blk_set (blk_set (blk_set (blk_set (blk_set (blk_set (blk_set h hg v0) hg v1) hg v2) hg v3) hg v4) hg v5) hg v6) hg v7) hg v8) hg v9) hg v10)
theorem isSl_set11 {w : World} {lo g o : Nat} {v : Value} {m s : Nat} {f : Nat → Nat → Value} {v0 v1 v2 v3 v4 v5 v6 v7 v8 v9 v10 : Value} (h : IsSl w lo v m s f) (hg : g < lo) : IsSl (((((((((((w.setCell ⟨g, o, none⟩ v0).setCell ⟨g, o + 1, none⟩ v1).setCell ⟨g, o + 2, none⟩ v2).setCell ⟨g, o + 3, none⟩ v3).setCell ⟨g, o + 4, none⟩ v4).setCell ⟨g, o + 5, none⟩ v5).setCell ⟨g, o + 6, none⟩ v6).setCell ⟨g, o + 7, none⟩ v7).setCell ⟨g, o + 8, none⟩ v8).setCell ⟨g, o + 9, none⟩ v9).setCell ⟨g, o + 10, none⟩ v10) lo v m s f :=
  (((((((((((h.setCell hg v0).setCell hg v1).setCell hg v2).setCell hg v3).setCell hg v4).setCell hg v5).setCell hg v6).setCell hg v7).setCell hg v8).setCell hg v9).setCell hg v10)
theorem below_set11z {W w : World} {B g : Nat} {v0 v1 v2 v3 v4 v5 v6 v7 v8 v9 v10 : Value} (hb : Below B W w) (hg : B ≤ g) : Below B W (((((((((((w.setCell ⟨g, 0, none⟩ v0).setCell ⟨g, 1, none⟩ v1).setCell ⟨g, 2, none⟩ v2).setCell ⟨g, 3, none⟩ v3).setCell ⟨g, 4, none⟩ v4).setCell ⟨g, 5, none⟩ v5).setCell ⟨g, 6, none⟩ v6).setCell ⟨g, 7, none⟩ v7).setCell ⟨g, 8, none⟩ v8).setCell ⟨g, 9, none⟩ v9).setCell ⟨g, 10, none⟩ v10) :=
  (((((((((((hb.setCell hg v0).setCell hg v1).setCell hg v2).setCell hg v3).setCell hg v4).setCell hg v5).setCell hg v6).setCell hg v7).setCell hg v8).setCell hg v9).setCell hg v10)
theorem blk_set11z {w : World} {k g : Nat} {p : Obj} {v0 v1 v2 v3 v4 v5 v6 v7 v8 v9 v10 : Value} (h : w.heap[k]? = some p) (hg : k ≠ g) : (((((((((((w.setCell ⟨g, 0, none⟩ v0).setCell ⟨g, 1, none⟩ v1).setCell ⟨g, 2, none⟩ v2).setCell ⟨g, 3, none⟩ v3).setCell ⟨g, 4, none⟩ v4).setCell ⟨g, 5, none⟩ v5).setCell ⟨g, 6, none⟩ v6).setCell ⟨g, 7, none⟩ v7).setCell ⟨g, 8, none⟩ v8).setCell ⟨g, 9, none⟩ v9).setCell ⟨g, 10, none⟩ v10).heap[k]? = some p :=
  (blk_set (blk_set (blk_set (blk_set (blk_set (blk_set (blk_set (blk_set (blk_set (blk_set (blk_set h hg v0) hg v1) hg v2) hg v3) hg v4) hg v5) hg v6) hg v7) hg v8) hg v9) hg v10)
theorem isSl_set11z {w : World} {lo g : Nat} {v : Value} {m s : Nat} {f : Nat → Nat → Value} {v0 v1 v2 v3 v4 v5 v6 v7 v8 v9 v10 : Value} (h : IsSl w lo v m s f) (hg : g < lo) : IsSl (((((((((((w.setCell ⟨g, 0, none⟩ v0).setCell ⟨g, 1, none⟩ v1).setCell ⟨g, 2, none⟩ v2).setCell ⟨g, 3, none⟩ v3).setCell ⟨g, 4, none⟩ v4).setCell ⟨g, 5, none⟩ v5).setCell ⟨g, 6, none⟩ v6).setCell ⟨g, 7, none⟩ v7).setCell ⟨g, 8, none⟩ v8).setCell ⟨g, 9, none⟩ v9).setCell ⟨g, 10, none⟩ v10) lo v m s f :=
  (((((((((((h.setCell hg v0).setCell hg v1).setCell hg v2).setCell hg v3).setCell hg v4).setCell hg v5).setCell hg v6).setCell hg v7).setCell hg v8).setCell hg v9).setCell hg v10)
theorem below_set15 {W w : World} {B g o : Nat} {v0 v1 v2 v3 v4 v5 v6 v7 v8 v9 v10 v11 v12 v13 v14 : Value} (hb : Below B W w) (hg : B ≤ g) : Below B W (((((((((((((((w.setCell ⟨g, o, none⟩ v0).setCell ⟨g, o + 1, none⟩ v1).setCell ⟨g, o + 2, none⟩ v2).setCell ⟨g, o + 3, none⟩ v3).setCell ⟨g, o + 4, none⟩ v4).setCell ⟨g, o + 5, none⟩ v5).setCell ⟨g, o + 6, none⟩ v6).setCell ⟨g, o + 7, none⟩ v7).setCell ⟨g, o + 8, none⟩ v8).setCell ⟨g, o + 9, none⟩ v9).setCell ⟨g, o + 10, none⟩ v10).setCell ⟨g, o + 11, none⟩ v11).setCell ⟨g, o + 12, none⟩ v12).setCell ⟨g, o + 13, none⟩ v13).setCell ⟨g, o + 14, none⟩ v14) :=
  (((((((((((((((hb.setCell hg v0).setCell hg v1).setCell hg v2).setCell hg v3).setCell hg v4).setCell hg v5).setCell hg v6).setCell hg v7).setCell hg v8).setCell hg v9).setCell hg v10).setCell hg v11).setCell hg v12).setCell hg v13).setCell hg v14)
theorem blk_set15 {w : World} {k g o : Nat} {p : Obj} {v0 v1 v2 v3 v4 v5 v6 v7 v8 v9 v10 v11 v12 v13 v14 : Value} (h : w.heap[k]? = some p) (hg : k ≠ g) : (((((((((((((((w.setCell ⟨g, o, none⟩ v0).setCell ⟨g, o + 1, none⟩ v1).setCell ⟨g, o + 2, none⟩ v2).setCell ⟨g, o + 3, none⟩ v3).setCell ⟨g, o + 4, none⟩ v4).setCell ⟨g, o + 5, none⟩ v5).setCell ⟨g, o + 6, none⟩ v6).setCell ⟨g, o + 7, none⟩ v7).setCell ⟨g, o + 8, none⟩ v8).setCell ⟨g, o + 9, none⟩ v9).setCell ⟨g, o + 10, none⟩ v10).setCell ⟨g, o + 11, none⟩ v11).setCell ⟨g, o + 12, none⟩ v12).setCell ⟨g, o + 13, none⟩ v13).setCell ⟨g, o + 14, none⟩ v14).heap[k]? = some p :=
  (blk_set (blk_set (blk_set (blk_set (blk_set (blk_set (blk_set (blk_set (blk_set (blk_set (blk_set (blk_set (blk_set (blk_set (blk_set h hg v0) hg v1) hg v2) hg v3) hg v4) hg v5) hg v6) hg v7) hg v8) hg v9) hg v10) hg v11) hg v12) hg v13) hg v14)
theorem isSl_set15 {w : World} {lo g o : Nat} {v : Value} {m s : Nat} {f : Nat → Nat → Value} {v0 v1 v2 v3 v4 v5 v6 v7 v8 v9 v10 v11 v12 v13 v14 : Value} (h : IsSl w lo v m s f) (hg : g < lo) : IsSl (((((((((((((((w.setCell ⟨g, o, none⟩ v0).setCell ⟨g, o + 1, none⟩ v1).setCell ⟨g, o + 2, none⟩ v2).setCell ⟨g, o + 3, none⟩ v3).setCell ⟨g, o + 4, none⟩ v4).setCell ⟨g, o + 5, none⟩ v5).setCell ⟨g, o + 6, none⟩ v6).setCell ⟨g, o + 7, none⟩ v7).setCell ⟨g, o + 8, none⟩ v8).setCell ⟨g, o + 9, none⟩ v9).setCell ⟨g, o + 10, none⟩ v10).setCell ⟨g, o + 11, none⟩ v11).setCell ⟨g, o + 12, none⟩ v12).setCell ⟨g, o + 13, none⟩ v13).setCell ⟨g, o + 14, none⟩ v14) lo v m s f :=
  (((((((((((((((h.setCell hg v0).setCell hg v1).setCell hg v2).setCell hg v3).setCell hg v4).setCell hg v5).setCell hg v6).setCell hg v7).setCell hg v8).setCell hg v9).setCell hg v10).setCell hg v11).setCell hg v12).setCell hg v13).setCell hg v14)
theorem below_set15z {W w : World} {B g : Nat} {v0 v1 v2 v3 v4 v5 v6 v7 v8 v9 v10 v11 v12 v13 v14 : Value} (hb : Below B W w) (hg : B ≤ g) : Below B W (((((((((((((((w.setCell ⟨g, 0, none⟩ v0).setCell ⟨g, 1, none⟩ v1).setCell ⟨g, 2, none⟩ v2).setCell ⟨g, 3, none⟩ v3).setCell ⟨g, 4, none⟩ v4).setCell ⟨g, 5, none⟩ v5).setCell ⟨g, 6, none⟩ v6).setCell ⟨g, 7, none⟩ v7).setCell ⟨g, 8, none⟩ v8).setCell ⟨g, 9, none⟩ v9).setCell ⟨g, 10, none⟩ v10).setCell ⟨g, 11, none⟩ v11).setCell ⟨g, 12, none⟩ v12).setCell ⟨g, 13, none⟩ v13).setCell ⟨g, 14, none⟩ v14) :=
  (((((((((((((((hb.setCell hg v0).setCell hg v1).setCell hg v2).setCell hg v3).setCell hg v4).setCell hg v5).setCell hg v6).setCell hg v7).setCell hg v8).setCell hg v9).setCell hg v10).setCell hg v11).setCell hg v12).setCell hg v13).setCell hg v14)
theorem blk_set15z {w : World} {k g : Nat} {p : Obj} {v0 v1 v2 v3 v4 v5 v6 v7 v8 v9 v10 v11 v12 v13 v14 : Value} (h : w.heap[k]? = some p) (hg : k ≠ g) : (((((((((((((((w.setCell ⟨g, 0, none⟩ v0).setCell ⟨g, 1, none⟩ v1).setCell ⟨g, 2, none⟩ v2).setCell ⟨g, 3, none⟩ v3).setCell ⟨g, 4, none⟩ v4).setCell ⟨g, 5, none⟩ v5).setCell ⟨g, 6, none⟩ v6).setCell ⟨g, 7, none⟩ v7).setCell ⟨g, 8, none⟩ v8).setCell ⟨g, 9, none⟩ v9).setCell ⟨g, 10, none⟩ v10).setCell ⟨g, 11, none⟩ v11).setCell ⟨g, 12, none⟩ v12).setCell ⟨g, 13, none⟩ v13).setCell ⟨g, 14, none⟩ v14).heap[k]? = some p :=
  (blk_set (blk_set (blk_set (blk_set (blk_set (blk_set (blk_set (blk_set (blk_set (blk_set (blk_set (blk_set (blk_set (blk_set (blk_set h hg v0) hg v1) hg v2) hg v3) hg v4) hg v5) hg v6) hg v7) hg v8) hg v9) hg v10) hg v11) hg v12) hg v13) hg v14)
theorem isSl_set15z {w : World} {lo g : Nat} {v : Value} {m s : Nat} {f : Nat → Nat → Value} {v0 v1 v2 v3 v4 v5 v6 v7 v8 v9 v10 v11 v12 v13 v14 : Value} (h : IsSl w lo v m s f) (hg : g < lo) : IsSl (((((((((((((((w.setCell ⟨g, 0, none⟩ v0).setCell ⟨g, 1, none⟩ v1).setCell ⟨g, 2, none⟩ v2).setCell ⟨g, 3, none⟩ v3).setCell ⟨g, 4, none⟩ v4).setCell ⟨g, 5, none⟩ v5).setCell ⟨g, 6, none⟩ v6).setCell ⟨g, 7, none⟩ v7).setCell ⟨g, 8, none⟩ v8).setCell ⟨g, 9, none⟩ v9).setCell ⟨g, 10, none⟩ v10).setCell ⟨g, 11, none⟩ v11).setCell ⟨g, 12, none⟩ v12).setCell ⟨g, 13, none⟩ v13).setCell ⟨g, 14, none⟩ v14) lo v m s f :=
  (((((((((((((((h.setCell hg v0).setCell hg v1).setCell hg v2).setCell hg v3).setCell hg v4).setCell hg v5).setCell hg v6).setCell hg v7).setCell hg v8).setCell hg v9).setCell hg v10).setCell hg v11).setCell hg v12).setCell hg v13).setCell hg v14)
theorem below_set16 {W w : World} {B g o : Nat} {v0 v1 v2 v3 v4 v5 v6 v7 v8 v9 v10 v11 v12 v13 v14 v15 : Value} (hb : Below B W w) (hg : B ≤ g) : Below B W ((((((((((((((((w.setCell ⟨g, o, none⟩ v0).setCell ⟨g, o + 1, none⟩ v1).setCell ⟨g, o + 2, none⟩ v2).setCell ⟨g, o + 3, none⟩ v3).setCell ⟨g, o + 4, none⟩ v4).setCell ⟨g, o + 5, none⟩ v5).setCell ⟨g, o + 6, none⟩ v6).setCell ⟨g, o + 7, none⟩ v7).setCell ⟨g, o + 8, none⟩ v8).setCell ⟨g, o + 9, none⟩ v9).setCell ⟨g, o + 10, none⟩ v10).setCell ⟨g, o + 11, none⟩ v11).setCell ⟨g, o + 12, none⟩ v12).setCell ⟨g, o + 13, none⟩ v13).setCell ⟨g, o + 14, none⟩ v14).setCell ⟨g, o + 15, none⟩ v15) :=
  ((((((((((((((((hb.setCell hg v0).setCell hg v1).setCell hg v2).setCell hg v3).setCell hg v4).setCell hg v5).setCell hg v6).setCell hg v7).setCell hg v8).setCell hg v9).setCell hg v10).setCell hg v11).setCell hg v12).setCell hg v13).setCell hg v14).setCell hg v15)
theorem blk_set16 {w : World} {k g o : Nat} {p : Obj} {v0 v1 v2 v3 v4 v5 v6 v7 v8 v9 v10 v11 v12 v13 v14 v15 : Value} (h : w.heap[k]? = some p) (hg : k ≠ g) : ((((((((((((((((w.setCell ⟨g, o, none⟩ v0).setCell ⟨g, o + 1, none⟩ v1).setCell ⟨g, o + 2, none⟩ v2).setCell ⟨g, o + 3, none⟩ v3).setCell ⟨g, o + 4, none⟩ v4).setCell ⟨g, o + 5, none⟩ v5).setCell ⟨g, o + 6, none⟩ v6).setCell ⟨g, o + 7, none⟩ v7).setCell ⟨g, o + 8, none⟩ v8).setCell ⟨g, o + 9, none⟩ v9).setCell ⟨g, o + 10, none⟩ v10).setCell ⟨g, o + 11, none⟩ v11).setCell ⟨g, o + 12, none⟩ v12).setCell ⟨g, o + 13, none⟩ v13).setCell ⟨g, o + 14, none⟩ v14).setCell ⟨g, o + 15, none⟩ v15).heap[k]? = some p :=
  (blk_set (blk_set (blk_set (blk_set (blk_set (blk_set (blk_set (blk_set (blk_set (blk_set (blk_set (blk_set (blk_set (blk_set (blk_set (blk_set h hg v0) hg v1) hg v2) hg v3) hg v4) hg v5) hg v6) hg v7) hg v8) hg v9) hg v10) hg v11) hg v12) hg v13) hg v14) hg v15)
theorem isSl_set16 {w : World} {lo g o : Nat} {v : Value} {m s : Nat} {f : Nat → Nat → Value} {v0 v1 v2 v3 v4 v5 v6 v7 v8 v9 v10 v11 v12 v13 v14 v15 : Value} (h : IsSl w lo v m s f) (hg : g < lo) : IsSl ((((((((((((((((w.setCell ⟨g, o, none⟩ v0).setCell ⟨g, o + 1, none⟩ v1).setCell ⟨g, o + 2, none⟩ v2).setCell ⟨g, o + 3, none⟩ v3).setCell ⟨g, o + 4, none⟩ v4).setCell ⟨g, o + 5, none⟩ v5).setCell ⟨g, o + 6, none⟩ v6).setCell ⟨g, o + 7, none⟩ v7).setCell ⟨g, o + 8, none⟩ v8).setCell ⟨g, o + 9, none⟩ v9).setCell ⟨g, o + 10, none⟩ v10).setCell ⟨g, o + 11, none⟩ v11).setCell ⟨g, o + 12, none⟩ v12).setCell ⟨g, o + 13, none⟩ v13).setCell ⟨g, o + 14, none⟩ v14).setCell ⟨g, o + 15, none⟩ v15) lo v m s f :=
  ((((((((((((((((h.setCell hg v0).setCell hg v1).setCell hg v2).setCell hg v3).setCell hg v4).setCell hg v5).setCell hg v6).setCell hg v7).setCell hg v8).setCell hg v9).setCell hg v10).setCell hg v11).setCell hg v12).setCell hg v13).setCell hg v14).setCell hg v15)
theorem below_set16z {W w : World} {B g : Nat} {v0 v1 v2 v3 v4 v5 v6 v7 v8 v9 v10 v11 v12 v13 v14 v15 : Value} (hb : Below B W w) (hg : B ≤ g) : Below B W ((((((((((((((((w.setCell ⟨g, 0, none⟩ v0).setCell ⟨g, 1, none⟩ v1).setCell ⟨g, 2, none⟩ v2).setCell ⟨g, 3, none⟩ v3).setCell ⟨g, 4, none⟩ v4).setCell ⟨g, 5, none⟩ v5).setCell ⟨g, 6, none⟩ v6).setCell ⟨g, 7, none⟩ v7).setCell ⟨g, 8, none⟩ v8).setCell ⟨g, 9, none⟩ v9).setCell ⟨g, 10, none⟩ v10).setCell ⟨g, 11, none⟩ v11).setCell ⟨g, 12, none⟩ v12).setCell ⟨g, 13, none⟩ v13).setCell ⟨g, 14, none⟩ v14).setCell ⟨g, 15, none⟩ v15) :=
  ((((((((((((((((hb.setCell hg v0).setCell hg v1).setCell hg v2).setCell hg v3).setCell hg v4).setCell hg v5).setCell hg v6).setCell hg v7).setCell hg v8).setCell hg v9).setCell hg v10).setCell hg v11).setCell hg v12).setCell hg v13).setCell hg v14).setCell hg v15)
theorem blk_set16z {w : World} {k g : Nat} {p : Obj} {v0 v1 v2 v3 v4 v5 v6 v7 v8 v9 v10 v11 v12 v13 v14 v15 : Value} (h : w.heap[k]? = some p) (hg : k ≠ g) : ((((((((((((((((w.setCell ⟨g, 0, none⟩ v0).setCell ⟨g, 1, none⟩ v1).setCell ⟨g, 2, none⟩ v2).setCell ⟨g, 3, none⟩ v3).setCell ⟨g, 4, none⟩ v4).setCell ⟨g, 5, none⟩ v5).setCell ⟨g, 6, none⟩ v6).setCell ⟨g, 7, none⟩ v7).setCell ⟨g, 8, none⟩ v8).setCell ⟨g, 9, none⟩ v9).setCell ⟨g, 10, none⟩ v10).setCell ⟨g, 11, none⟩ v11).setCell ⟨g, 12, none⟩ v12).setCell ⟨g, 13, none⟩ v13).setCell ⟨g, 14, none⟩ v14).setCell ⟨g, 15, none⟩ v15).heap[k]? = some p :=
  (blk_set (blk_set (blk_set (blk_set (blk_set (blk_set (blk_set (blk_set (blk_set (blk_set (blk_set (blk_set (blk_set (blk_set (blk_set (blk_set h hg v0) hg v1) hg v2) hg v3) hg v4) hg v5) hg v6) hg v7) hg v8) hg v9) hg v10) hg v11) hg v12) hg v13) hg v14) hg v15)
theorem isSl_set16z {w : World} {lo g : Nat} {v : Value} {m s : Nat} {f : Nat → Nat → Value} {v0 v1 v2 v3 v4 v5 v6 v7 v8 v9 v10 v11 v12 v13 v14 v15 : Value} (h : IsSl w lo v m s f) (hg : g < lo) : IsSl ((((((((((((((((w.setCell ⟨g, 0, none⟩ v0).setCell ⟨g, 1, none⟩ v1).setCell ⟨g, 2, none⟩ v2).setCell ⟨g, 3, none⟩ v3).setCell ⟨g, 4, none⟩ v4).setCell ⟨g, 5, none⟩ v5).setCell ⟨g, 6, none⟩ v6).setCell ⟨g, 7, none⟩ v7).setCell ⟨g, 8, none⟩ v8).setCell ⟨g, 9, none⟩ v9).setCell ⟨g, 10, none⟩ v10).setCell ⟨g, 11, none⟩ v11).setCell ⟨g, 12, none⟩ v12).setCell ⟨g, 13, none⟩ v13).setCell ⟨g, 14, none⟩ v14).setCell ⟨g, 15, none⟩ v15) lo v m s f :=
  ((((((((((((((((h.setCell hg v0).setCell hg v1).setCell hg v2).setCell hg v3).setCell hg v4).setCell hg v5).setCell hg v6).setCell hg v7).setCell hg v8).setCell hg v9).setCell hg v10).setCell hg v11).setCell hg v12).setCell hg v13).setCell hg v14).setCell hg v15)
theorem blk_full2 {w : World} {g : Nat} {t : TypeId} {u0 u1 v0 v1 : Value} (h : w.heap[g]? = some (.cells #[u0, u1] t (0, 0))) : ((w.setCell ⟨g, 0, none⟩ v0).setCell ⟨g, 1, none⟩ v1).heap[g]? = some (.cells #[v0, v1] t (0, 0)) := by
  have h0 := blk_put (i := 0) (u := v0) h
  simp only [List.setIfInBounds_toArray, List.set_cons_zero, List.set_cons_succ] at h0
  have h1 := blk_put (i := 1) (u := v1) h0
  simp only [List.setIfInBounds_toArray, List.set_cons_zero, List.set_cons_succ] at h1
  exact h1
theorem blk_full4 {w : World} {g : Nat} {t : TypeId} {u0 u1 u2 u3 v0 v1 v2 v3 : Value} (h : w.heap[g]? = some (.cells #[u0, u1, u2, u3] t (0, 0))) : ((((w.setCell ⟨g, 0, none⟩ v0).setCell ⟨g, 1, none⟩ v1).setCell ⟨g, 2, none⟩ v2).setCell ⟨g, 3, none⟩ v3).heap[g]? = some (.cells #[v0, v1, v2, v3] t (0, 0)) := by
  have h0 := blk_put (i := 0) (u := v0) h
  simp only [List.setIfInBounds_toArray, List.set_cons_zero, List.set_cons_succ] at h0
  have h1 := blk_put (i := 1) (u := v1) h0
  simp only [List.setIfInBounds_toArray, List.set_cons_zero, List.set_cons_succ] at h1
  have h2 := blk_put (i := 2) (u := v2) h1
  simp only [List.setIfInBounds_toArray, List.set_cons_zero, List.set_cons_succ] at h2
  have h3 := blk_put (i := 3) (u := v3) h2
  simp only [List.setIfInBounds_toArray, List.set_cons_zero, List.set_cons_succ] at h3
  exact h3
theorem blk_full5 {w : World} {g : Nat} {t : TypeId} {u0 u1 u2 u3 u4 v0 v1 v2 v3 v4 : Value} (h : w.heap[g]? = some (.cells #[u0, u1, u2, u3, u4] t (0, 0))) : (((((w.setCell ⟨g, 0, none⟩ v0).setCell ⟨g, 1, none⟩ v1).setCell ⟨g, 2, none⟩ v2).setCell ⟨g, 3, none⟩ v3).setCell ⟨g, 4, none⟩ v4).heap[g]? = some (.cells #[v0, v1, v2, v3, v4] t (0, 0)) := by
  have h0 := blk_put (i := 0) (u := v0) h
  simp only [List.setIfInBounds_toArray, List.set_cons_zero, List.set_cons_succ] at h0
  have h1 := blk_put (i := 1) (u := v1) h0
  simp only [List.setIfInBounds_toArray, List.set_cons_zero, List.set_cons_succ] at h1
  have h2 := blk_put (i := 2) (u := v2) h1
  simp only [List.setIfInBounds_toArray, List.set_cons_zero, List.set_cons_succ] at h2
  have h3 := blk_put (i := 3) (u := v3) h2
  simp only [List.setIfInBounds_toArray, List.set_cons_zero, List.set_cons_succ] at h3
  have h4 := blk_put (i := 4) (u := v4) h3
  simp only [List.setIfInBounds_toArray, List.set_cons_zero, List.set_cons_succ] at h4
  exact h4
theorem blk_full11 {w : World} {g : Nat} {t : TypeId} {u0 u1 u2 u3 u4 u5 u6 u7 u8 u9 u10 v0 v1 v2 v3 v4 v5 v6 v7 v8 v9 v10 : Value} (h : w.heap[g]? = some (.cells #[u0, u1, u2, u3, u4, u5, u6, u7, u8, u9, u10] t (0, 0))) : (((((((((((w.setCell ⟨g, 0, none⟩ v0).setCell ⟨g, 1, none⟩ v1).setCell ⟨g, 2, none⟩ v2).setCell ⟨g, 3, none⟩ v3).setCell ⟨g, 4, none⟩ v4).setCell ⟨g, 5, none⟩ v5).setCell ⟨g, 6, none⟩ v6).setCell ⟨g, 7, none⟩ v7).setCell ⟨g, 8, none⟩ v8).setCell ⟨g, 9, none⟩ v9).setCell ⟨g, 10, none⟩ v10).heap[g]? = some (.cells #[v0, v1, v2, v3, v4, v5, v6, v7, v8, v9, v10] t (0, 0)) := by
  have h0 := blk_put (i := 0) (u := v0) h
  simp only [List.setIfInBounds_toArray, List.set_cons_zero, List.set_cons_succ] at h0
  have h1 := blk_put (i := 1) (u := v1) h0
  simp only [List.setIfInBounds_toArray, List.set_cons_zero, List.set_cons_succ] at h1
  have h2 := blk_put (i := 2) (u := v2) h1
  simp only [List.setIfInBounds_toArray, List.set_cons_zero, List.set_cons_succ] at h2
  have h3 := blk_put (i := 3) (u := v3) h2
  simp only [List.setIfInBounds_toArray, List.set_cons_zero, List.set_cons_succ] at h3
  have h4 := blk_put (i := 4) (u := v4) h3
  simp only [List.setIfInBounds_toArray, List.set_cons_zero, List.set_cons_succ] at h4
  have h5 := blk_put (i := 5) (u := v5) h4
  simp only [List.setIfInBounds_toArray, List.set_cons_zero, List.set_cons_succ] at h5
  have h6 := blk_put (i := 6) (u := v6) h5
  simp only [List.setIfInBounds_toArray, List.set_cons_zero, List.set_cons_succ] at h6
  have h7 := blk_put (i := 7) (u := v7) h6
  simp only [List.setIfInBounds_toArray, List.set_cons_zero, List.set_cons_succ] at h7
  have h8 := blk_put (i := 8) (u := v8) h7
  simp only [List.setIfInBounds_toArray, List.set_cons_zero, List.set_cons_succ] at h8
  have h9 := blk_put (i := 9) (u := v9) h8
  simp only [List.setIfInBounds_toArray, List.set_cons_zero, List.set_cons_succ] at h9
  have h10 := blk_put (i := 10) (u := v10) h9
  simp only [List.setIfInBounds_toArray, List.set_cons_zero, List.set_cons_succ] at h10
  exact h10
theorem blk_full15 {w : World} {g : Nat} {t : TypeId} {u0 u1 u2 u3 u4 u5 u6 u7 u8 u9 u10 u11 u12 u13 u14 v0 v1 v2 v3 v4 v5 v6 v7 v8 v9 v10 v11 v12 v13 v14 : Value} (h : w.heap[g]? = some (.cells #[u0, u1, u2, u3, u4, u5, u6, u7, u8, u9, u10, u11, u12, u13, u14] t (0, 0))) : (((((((((((((((w.setCell ⟨g, 0, none⟩ v0).setCell ⟨g, 1, none⟩ v1).setCell ⟨g, 2, none⟩ v2).setCell ⟨g, 3, none⟩ v3).setCell ⟨g, 4, none⟩ v4).setCell ⟨g, 5, none⟩ v5).setCell ⟨g, 6, none⟩ v6).setCell ⟨g, 7, none⟩ v7).setCell ⟨g, 8, none⟩ v8).setCell ⟨g, 9, none⟩ v9).setCell ⟨g, 10, none⟩ v10).setCell ⟨g, 11, none⟩ v11).setCell ⟨g, 12, none⟩ v12).setCell ⟨g, 13, none⟩ v13).setCell ⟨g, 14, none⟩ v14).heap[g]? = some (.cells #[v0, v1, v2, v3, v4, v5, v6, v7, v8, v9, v10, v11, v12, v13, v14] t (0, 0)) := by
  have h0 := blk_put (i := 0) (u := v0) h
  simp only [List.setIfInBounds_toArray, List.set_cons_zero, List.set_cons_succ] at h0
  have h1 := blk_put (i := 1) (u := v1) h0
  simp only [List.setIfInBounds_toArray, List.set_cons_zero, List.set_cons_succ] at h1
  have h2 := blk_put (i := 2) (u := v2) h1
  simp only [List.setIfInBounds_toArray, List.set_cons_zero, List.set_cons_succ] at h2
  have h3 := blk_put (i := 3) (u := v3) h2
  simp only [List.setIfInBounds_toArray, List.set_cons_zero, List.set_cons_succ] at h3
  have h4 := blk_put (i := 4) (u := v4) h3
  simp only [List.setIfInBounds_toArray, List.set_cons_zero, List.set_cons_succ] at h4
  have h5 := blk_put (i := 5) (u := v5) h4
  simp only [List.setIfInBounds_toArray, List.set_cons_zero, List.set_cons_succ] at h5
  have h6 := blk_put (i := 6) (u := v6) h5
  simp only [List.setIfInBounds_toArray, List.set_cons_zero, List.set_cons_succ] at h6
  have h7 := blk_put (i := 7) (u := v7) h6
  simp only [List.setIfInBounds_toArray, List.set_cons_zero, List.set_cons_succ] at h7
  have h8 := blk_put (i := 8) (u := v8) h7
  simp only [List.setIfInBounds_toArray, List.set_cons_zero, List.set_cons_succ] at h8
  have h9 := blk_put (i := 9) (u := v9) h8
  simp only [List.setIfInBounds_toArray, List.set_cons_zero, List.set_cons_succ] at h9
  have h10 := blk_put (i := 10) (u := v10) h9
  simp only [List.setIfInBounds_toArray, List.set_cons_zero, List.set_cons_succ] at h10
  have h11 := blk_put (i := 11) (u := v11) h10
  simp only [List.setIfInBounds_toArray, List.set_cons_zero, List.set_cons_succ] at h11
  have h12 := blk_put (i := 12) (u := v12) h11
  simp only [List.setIfInBounds_toArray, List.set_cons_zero, List.set_cons_succ] at h12
  have h13 := blk_put (i := 13) (u := v13) h12
  simp only [List.setIfInBounds_toArray, List.set_cons_zero, List.set_cons_succ] at h13
  have h14 := blk_put (i := 14) (u := v14) h13
  simp only [List.setIfInBounds_toArray, List.set_cons_zero, List.set_cons_succ] at h14
  exact h14
theorem blk_full16 {w : World} {g : Nat} {t : TypeId} {u0 u1 u2 u3 u4 u5 u6 u7 u8 u9 u10 u11 u12 u13 u14 u15 v0 v1 v2 v3 v4 v5 v6 v7 v8 v9 v10 v11 v12 v13 v14 v15 : Value} (h : w.heap[g]? = some (.cells #[u0, u1, u2, u3, u4, u5, u6, u7, u8, u9, u10, u11, u12, u13, u14, u15] t (0, 0))) : ((((((((((((((((w.setCell ⟨g, 0, none⟩ v0).setCell ⟨g, 1, none⟩ v1).setCell ⟨g, 2, none⟩ v2).setCell ⟨g, 3, none⟩ v3).setCell ⟨g, 4, none⟩ v4).setCell ⟨g, 5, none⟩ v5).setCell ⟨g, 6, none⟩ v6).setCell ⟨g, 7, none⟩ v7).setCell ⟨g, 8, none⟩ v8).setCell ⟨g, 9, none⟩ v9).setCell ⟨g, 10, none⟩ v10).setCell ⟨g, 11, none⟩ v11).setCell ⟨g, 12, none⟩ v12).setCell ⟨g, 13, none⟩ v13).setCell ⟨g, 14, none⟩ v14).setCell ⟨g, 15, none⟩ v15).heap[g]? = some (.cells #[v0, v1, v2, v3, v4, v5, v6, v7, v8, v9, v10, v11, v12, v13, v14, v15] t (0, 0)) := by
  have h0 := blk_put (i := 0) (u := v0) h
  simp only [List.setIfInBounds_toArray, List.set_cons_zero, List.set_cons_succ] at h0
  have h1 := blk_put (i := 1) (u := v1) h0
  simp only [List.setIfInBounds_toArray, List.set_cons_zero, List.set_cons_succ] at h1
  have h2 := blk_put (i := 2) (u := v2) h1
  simp only [List.setIfInBounds_toArray, List.set_cons_zero, List.set_cons_succ] at h2
  have h3 := blk_put (i := 3) (u := v3) h2
  simp only [List.setIfInBounds_toArray, List.set_cons_zero, List.set_cons_succ] at h3
  have h4 := blk_put (i := 4) (u := v4) h3
  simp only [List.setIfInBounds_toArray, List.set_cons_zero, List.set_cons_succ] at h4
  have h5 := blk_put (i := 5) (u := v5) h4
  simp only [List.setIfInBounds_toArray, List.set_cons_zero, List.set_cons_succ] at h5
  have h6 := blk_put (i := 6) (u := v6) h5
  simp only [List.setIfInBounds_toArray, List.set_cons_zero, List.set_cons_succ] at h6
  have h7 := blk_put (i := 7) (u := v7) h6
  simp only [List.setIfInBounds_toArray, List.set_cons_zero, List.set_cons_succ] at h7
  have h8 := blk_put (i := 8) (u := v8) h7
  simp only [List.setIfInBounds_toArray, List.set_cons_zero, List.set_cons_succ] at h8
  have h9 := blk_put (i := 9) (u := v9) h8
  simp only [List.setIfInBounds_toArray, List.set_cons_zero, List.set_cons_succ] at h9
  have h10 := blk_put (i := 10) (u := v10) h9
  simp only [List.setIfInBounds_toArray, List.set_cons_zero, List.set_cons_succ] at h10
  have h11 := blk_put (i := 11) (u := v11) h10
  simp only [List.setIfInBounds_toArray, List.set_cons_zero, List.set_cons_succ] at h11
  have h12 := blk_put (i := 12) (u := v12) h11
  simp only [List.setIfInBounds_toArray, List.set_cons_zero, List.set_cons_succ] at h12
  have h13 := blk_put (i := 13) (u := v13) h12
  simp only [List.setIfInBounds_toArray, List.set_cons_zero, List.set_cons_succ] at h13
  have h14 := blk_put (i := 14) (u := v14) h13
  simp only [List.setIfInBounds_toArray, List.set_cons_zero, List.set_cons_succ] at h14
  have h15 := blk_put (i := 15) (u := v15) h14
  simp only [List.setIfInBounds_toArray, List.set_cons_zero, List.set_cons_succ] at h15
  exact h15

end Go.Proofs.Qxb6600017a
