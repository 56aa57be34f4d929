import Derived.Test.Qxb6600117aProg
import Derived.Test.Qxb6600117aBase
import Derived.Laws.CopyOwn
namespace Go.Proofs.Qxb6600117a
open Go.RowKit
set_option linter.unusedSimpArgs false
set_option linter.unusedVariables false

theorem info3 : (Try.prog.info? 3).map (fun i => (i.zero, i.size, i.bytes)) = some (some (.int .i64 0), 1, 8) := by kernel_rfl
theorem size3 : (Try.prog.info? 3).map (·.size) = some 1 := by kernel_rfl

theorem bytes15_any (ao : Option Addr) (n cap : Nat) (c : Value) (w : World) :
    Calls Try.prog 15 #[.slice ao n cap, c] w fun e w' => (e = .returned (.bool false) ∨ e = .returned (.bool true) ∧ n ≤ 1048576) ∧ w' = w := by
  go_enter Try.func15, Try.ntmps15
  go_wp2
  all_goals go_ret
  all_goals (first | exact ⟨.inl rfl, rfl⟩ | exact ⟨.inr ⟨rfl, by omega⟩, rfl⟩)

theorem bytes18_any (ao : Option Addr) (n cap : Nat) (c d : Value) (w : World) :
    Calls Try.prog 18 #[.slice ao n cap, c, d] w fun e w' => (e = .returned (.bool false) ∨ e = .returned (.bool true) ∧ n ≤ 1048576) ∧ w' = w := by
  go_enter Try.func18, Try.ntmps18
  go_wp2
  all_goals go_ret
  all_goals (first | exact ⟨.inl rfl, rfl⟩ | exact ⟨.inr ⟨rfl, by omega⟩, rfl⟩)

/-- The numbers of a row, as cells. -/
def ints (x : Nat → Int) (n : Nat) : List Value := (List.range n).map fun k => Value.int .i64 (x k)
theorem ints_len (x : Nat → Int) (n : Nat) : (ints x n).length = n := by simp [ints]
theorem ints_get (x : Nat → Int) (n k : Nat) (h : k < n) : (ints x n)[k]? = some (.int .i64 (x k)) := by simp [ints, h]
theorem ints_one (x : Nat → Int) (n : Nat) : ∀ v ∈ ints x n, v.oneCell' = true := by
  intro v hv
  simp only [ints, List.mem_map] at hv
  obtain ⟨k, _, rfl⟩ := hv
  rfl
theorem row_of_ints {w : World} {g : Nat} {x : Nat → Int} {n : Nat} (h : w.heap[g]? = some (.cells (ints x n).toArray 3 (0, 0))) : w.rowIs g 3 n (fun k => .int .i64 (x k)) :=
  ⟨_, h, by simp [ints_len], fun i hi => by simpa using ints_get x n i hi⟩
theorem made_ints (n : Nat) : madeCells #[.int .i64 0] n = (ints (fun _ => 0) n).toArray := by
  apply Array.ext
  · simp [madeCells, ints]
  · intro i h1 h2; simp [madeCells, ints, Nat.mod_one]

set_option maxHeartbeats 1000000 in
theorem clone_some (a : Addr) (n cap : Nat) (x : Nat → Int) (w : World) (hn : n ≤ 1048576) (h : RowIn w 0 (some a) n 1 (fun k _ => .int .i64 (x k))) :
    Calls Try.prog 16 #[.slice (some a) n cap] w fun e w' => e = .returned (.slice (some ⟨w.heap.size, 0, none⟩) n n) ∧ w'.rowIs w.heap.size 3 n (fun k => .int .i64 (x k)) ∧ Below w.heap.size w w' := by
  have hnil := fun w => Lib.run_eql_slice_nil (P := Try.prog) w 28 3 (some a) n cap 0 0 Try.underlying28
  have hmk := run_make_any (P := Try.prog) 28 3 (.int .i64 0) 1 8 Try.underlying28 info3 .i64 .i64 n (by omega) (by omega)
  go_enter Try.func16, Try.ntmps16
  have hg : (w.alloc (.cells (madeCells #[.int .i64 0] n) 3)).heap[w.heap.size]? = some (.cells (ints (fun _ => 0) n).toArray 3 (0, 0)) := by
    rw [made_ints]; exact blk_new _ _ rfl
  have hpos : 0 < (ints x n).length → (some ⟨w.heap.size, 0, none⟩ : Option Addr) = some ⟨w.heap.size, 0, none⟩ ∧ ∃ ad, some a = some ad ∧ ∀ j v, (ints x n)[j]? = some v → (w.alloc (.cells (madeCells #[.int .i64 0] n) 3)).cell? (ad.add j) = some v := by
    intro hpos
    rcases h with h | ⟨b, o, hab, _, hbl, hc⟩
    · simp [ints_len, h] at hpos
    · cases hab
      refine ⟨rfl, _, rfl, fun j v hj => ?_⟩
      have hjn : j < n := by have := (List.getElem?_eq_some_iff.1 hj).1; simpa [ints_len] using this
      rw [ints_get x n j hjn] at hj
      cases hj
      rw [Addr.add_lit]
      have h1 := hc j hjn 0 (by omega)
      rw [World.cell?_alloc_lt _ _ _ hbl]
      simpa using h1
  have HG : Hid _ := hg
  have HP : Hid _ := hpos
  clear hg hpos
  go_wp2_with (refine wpList_copy_splice rfl (.tmp 9) (.tmp 10) 28 28 rfl 3 Try.underlying28 size3 _ _ _ _ _ _ (by rfl) (by rfl) w.heap.size 0 (ints (fun _ => 0) n) 3 HG.out (ints x n) (by simp [ints_len]) HP.out (by simp [ints_len]) (ints_one x n) w.heap.size w ((Below.refl _ _).alloc (Nat.le_refl _) _) (Nat.le_refl _) ?_)
  intro w2 HG2 hB
  go_wp2
  go_ret
  refine ⟨rfl, row_of_ints ?_, hB⟩
  have h2 := HG2.out
  have e : splice (ints (fun _ => 0) n) 0 (ints x n) = ints x n := by
    simp only [splice, List.take_zero, List.nil_append, Nat.zero_add, ints_len]
    rw [List.drop_eq_nil_of_le (by rw [ints_len]; exact Nat.le_refl _), List.append_nil]
  rw [e] at h2
  exact h2

theorem isSl_parts {w : World} {lo : Nat} {v : Value} {n s : Nat} {g : Nat → Nat → Value} (h : IsSl w lo v n s g) : ∃ ao cap, v = .slice ao n cap ∧ (ao = none → n = 0 ∧ cap = 0) ∧ RowIn w lo ao n s g := h

/-- The clone, as a slice. -/
theorem clone_any (ao : Option Addr) (n cap : Nat) (x : Nat → Int) (w : World) (hn : n ≤ 1048576) (hnl : ao = none → n = 0 ∧ cap = 0) (h : RowIn w 0 ao n 1 (fun k _ => .int .i64 (x k))) :
    Calls Try.prog 16 #[.slice ao n cap] w fun e w' => ∃ v, e = .returned v ∧ IsSl w' w.heap.size v n 1 (fun k _ => .int .i64 (x k)) ∧ Below w.heap.size w w' := by
  cases ao with
  | some a =>
    refine (clone_some a n cap x w hn h).mono ?_
    rintro e w' ⟨rfl, hr, hb⟩
    exact ⟨_, rfl, isSl_of_rowIs (n := n) (s := 1) (cap := n) (g := fun k _ => .int .i64 (x k)) (by simpa using hr) w.heap.size (Nat.le_refl _) (fun k hk c hc => by
      have : c = 0 := by omega
      subst this; simp), hb⟩
  | none =>
    obtain ⟨rfl, rfl⟩ := hnl rfl
    have hnil := fun w => Lib.run_eql_slice_nil (P := Try.prog) w 28 3 none 0 0 0 0 Try.underlying28
    go_enter Try.func16, Try.ntmps16
    go_wp2
    go_ret
    exact ⟨_, rfl, IsSl.nil _ _ _ _, Below.refl _ _⟩
end Go.Proofs.Qxb6600117a
