import Derived.Test.Qxb6600017aChecked
import Derived.Test.Qxb6600017aBase2
import Derived.Test.Qxb6600017aA3
import Derived.ProofKit
import Derived.Deep.SlicePairs
namespace Go.Proofs.Qxb6600017a
open Go.RowKit Go.Deep
set_option linter.unusedSimpArgs false
set_option linter.unusedVariables false

theorem addr_of {w : World} {a : Addr} {v : Value} (h : w.cell? a = some v) : a = ⟨a.block, a.off, none⟩ := by
  obtain ⟨b, o, sp⟩ := a
  cases sp with
  | none => rfl
  | some q =>
    simp only [World.cell?] at h
    split at h <;> simp at h

theorem rowIn_of {w : World} {a : Addr} {n s : Nat} {g : Nat → Nat → Value} (hs : 0 < s) (h : ∀ i, i < n → ∀ c, c < s → w.cell? (a.add (i * s + c)) = some (g i c)) : RowIn w 0 (some a) n s g := by
  rcases Nat.eq_zero_or_pos n with h0 | hp
  · exact .inl h0
  · have h00 := h 0 hp 0 hs
    have e : a.add (0 * s + 0) = a := by simp [Addr.add]
    rw [e] at h00
    have ea := addr_of h00
    refine .inr ⟨a.block, a.off, by rw [← ea], Nat.zero_le _, World.block_lt_of_cell? w a h00, fun k hk c hc => ?_⟩
    rw [← h k hk c hc, ea, Addr.add_lit, Nat.add_assoc]

theorem i32_bounds {n : Int} (h : (Lit.int .i32 n).wf = true) : -2147483648 ≤ n ∧ n ≤ 2147483647 := by
  simp [Lit.wf] at h
  have e1 : IntKind.i32.min = -2147483648 := by decide
  have e2 : IntKind.i32.max = 2147483647 := by decide
  omega

section
variable {H : Type} {enc : TypeId × Value → H} {w : World} {spare : Nat → Bool} {held : Bool} {fuel : Nat} {cs : List Value} {y : DataW H × List MemPlace}

theorem cells21 : Try.prog.cellsOf 21 = 1 := by kernel_rfl
theorem cells4 : Try.prog.cellsOf 4 = 1 := by kernel_rfl
theorem cells30 : Try.prog.cellsOf 30 = 1 := by kernel_rfl
theorem cells31 : Try.prog.cellsOf 31 = 1 := by kernel_rfl
theorem cells81 : Try.prog.cellsOf 81 = 2 := by kernel_rfl
theorem cells33 : Try.prog.cellsOf 33 = 7 := by kernel_rfl


theorem read30 (h : DataW.trod enc Try.prog w 0 spare held fuel 30 cs = some y) :
    ∃ ao n cap, ∃ x : Nat → Int, cs = [.slice ao n cap] ∧ (ao = none → n = 0 ∧ cap = 0) ∧ RowIn w 0 ao n 1 (fun k _ => .int .i32 (x k)) ∧ ∀ k, -2147483648 ≤ x k ∧ x k ≤ 2147483647 := by
  rcases open_slice1 Try.underlying30 cells21 h with ⟨rfl, _⟩ | ⟨a, len, cap, m, n, V, D, Pl, rfl, _, hl, _, hm, _, hx⟩
  · exact ⟨none, 0, 0, fun _ => 0, rfl, fun _ => ⟨rfl, rfl⟩, .inl rfl, fun _ => by simp⟩
  · have hlm : len ≤ m := by rw [hm]; split <;> omega
    have hv : ∀ i, i < len → ∃ z : Int, V i = .int .i32 z ∧ -2147483648 ≤ z ∧ z ≤ 2147483647 := fun i hi => by
      obtain ⟨z, e, _, hw⟩ := DataW.trod_int Try.underlying21 (hx i (by omega)).2
      exact ⟨z, by simpa using e, i32_bounds hw⟩
    obtain ⟨x, hxx⟩ := choose_lt hv
    refine ⟨some a, len, cap, fun k => if k < len then x k else 0, rfl, fun h => (by cases h), rowIn_of (by omega) (fun i hi c hc => ?_), fun k => ?_⟩
    · have : c = 0 := by omega
      subst this
      show w.cell? (a.add (i * 1 + 0)) = some (.int .i32 (if i < len then x i else 0))
      rw [if_pos hi, ← (hxx i hi).1]
      simpa using (hx i (by omega)).1
    · by_cases hk : k < len
      · simp only [if_pos hk]; exact (hxx k hk).2
      · simp only [if_neg hk]; omega

theorem read31 (h : DataW.trod enc Try.prog w 0 spare held fuel 31 cs = some y) :
    ∃ ao n cap, ∃ (x : Nat → Int) (b : Nat → Bool), cs = [.slice ao n cap] ∧ (ao = none → n = 0 ∧ cap = 0) ∧ RowIn w 0 ao n 2 (zfV x b) ∧ ∀ k, -2147483648 ≤ x k ∧ x k ≤ 2147483647 := by
  rcases open_slice_pairs Try.underlying31 Try.underlying81 cells81 rfl rfl cells21 cells4 h with ⟨rfl, _⟩ | ⟨a, len, cap, m, n, V0, V1, D0, D1, P0, P1, rfl, _, hl, _, hm, _, hx⟩
  · exact ⟨none, 0, 0, fun _ => 0, fun _ => false, rfl, fun _ => ⟨rfl, rfl⟩, .inl rfl, fun _ => by simp⟩
  · have hlm : len ≤ m := by rw [hm]; split <;> omega
    have hv : ∀ i, i < len → ∃ z : Int, V0 i = .int .i32 z ∧ -2147483648 ≤ z ∧ z ≤ 2147483647 := fun i hi => by
      obtain ⟨z, e, _, hw⟩ := DataW.trod_int Try.underlying21 (hx i (by omega)).2.2.1
      exact ⟨z, by simpa using e, i32_bounds hw⟩
    have hv1 : ∀ i, i < len → ∃ z : Bool, V1 i = .bool z := fun i hi => by
      obtain ⟨z, e, _⟩ := DataW.trod_bool Try.underlying4 (hx i (by omega)).2.2.2
      exact ⟨z, by simpa using e⟩
    obtain ⟨x, hxx⟩ := choose_lt hv
    obtain ⟨b, hbb⟩ := choose_lt hv1
    refine ⟨some a, len, cap, fun k => if k < len then x k else 0, b, rfl, fun h => (by cases h), rowIn_of (by omega) (fun i hi c hc => ?_), fun k => ?_⟩
    · rcases (by omega : c = 0 ∨ c = 1) with rfl | rfl
      · simp only [zfV, if_pos hi, if_true, ← (hxx i hi).1]
        exact (hx i (by omega)).1
      · simp only [zfV, ← hbb i hi]
        simpa using (hx i (by omega)).2.1
    · by_cases hk : k < len
      · simp only [if_pos hk]; exact (hxx k hk).2
      · simp only [if_neg hk]; omega

theorem read33 (h : DataW.trod enc Try.prog w 0 spare held fuel 33 cs = some y) :
    ∃ (p s : Int) (np qp : Bool) (fo : Option Addr) (n cap : Nat) (x : Nat → Int) (fa : Option Addr) (m mcap : Nat) (fx : Nat → Int) (fb : Nat → Bool) (ba : Option Addr) (l lcap : Nat) (bx : Nat → Int) (bb : Nat → Bool),
      cs = [.int .i32 p, .int .i32 s, .bool np, .bool qp, .slice fo n cap, .slice fa m mcap, .slice ba l lcap] ∧
      (-2147483648 ≤ p ∧ p ≤ 2147483647) ∧ (-2147483648 ≤ s ∧ s ≤ 2147483647) ∧
      ((fo = none → n = 0 ∧ cap = 0) ∧ RowIn w 0 fo n 1 (fun k _ => .int .i32 (x k)) ∧ ∀ k, -2147483648 ≤ x k ∧ x k ≤ 2147483647) ∧
      ((fa = none → m = 0 ∧ mcap = 0) ∧ RowIn w 0 fa m 2 (zfV fx fb) ∧ ∀ k, -2147483648 ≤ fx k ∧ fx k ≤ 2147483647) ∧
      ((ba = none → l = 0 ∧ lcap = 0) ∧ RowIn w 0 ba l 2 (zfV bx bb) ∧ ∀ k, -2147483648 ≤ bx k ∧ bx k ≤ 2147483647) := by
  cases fuel with
  | zero => simp [DataW.trod] at h
  | succ f =>
    unfold DataW.trod at h
    rw [Try.underlying33] at h
    simp only [cells33] at h
    split at h
    · rename_i hlen
      match cs, hlen with
      | [c0, c1, c2, c3, c4, c5, c6], _ =>
        simp only [List.mapM_cons, List.mapM_nil, cells21, cells4, cells30, cells31, List.drop_zero, List.drop_succ_cons, List.take_succ_cons, List.take_zero] at h
        simp only [Option.map_eq_some_iff, Option.bind_eq_bind, Option.bind_eq_some_iff, Option.pure_def, Option.some.injEq] at h
        obtain ⟨_, ⟨y0, h0, _, ⟨y1, h1, _, ⟨y2, h2, _, ⟨y3, h3, _, ⟨y4, h4, _, ⟨y5, h5, _, ⟨y6, h6, _⟩, _⟩, _⟩, _⟩, _⟩, _⟩, _⟩, _⟩ := h
        obtain ⟨p, e0, _, w0⟩ := DataW.trod_int Try.underlying21 h0
        obtain ⟨s, e1, _, w1⟩ := DataW.trod_int Try.underlying21 h1
        obtain ⟨np, e2, _⟩ := DataW.trod_bool Try.underlying4 h2
        obtain ⟨qp, e3, _⟩ := DataW.trod_bool Try.underlying4 h3
        obtain ⟨fo, n, cap, x, e4, r4⟩ := read30 h4
        obtain ⟨fa, m, mcap, fx, fb, e5, r5⟩ := read31 h5
        obtain ⟨ba, l, lcap, bx, bb, e6, r6⟩ := read31 h6
        simp only [List.cons.injEq, and_true] at e0 e1 e2 e3 e4 e5 e6
        subst e0 e1 e2 e3 e4 e5 e6
        exact ⟨p, s, np, qp, fo, n, cap, x, fa, m, mcap, fx, fb, ba, l, lcap, bx, bb, rfl, i32_bounds w0, i32_bounds w1, r4, r5, r6⟩
    · cases h
end
end Go.Proofs.Qxb6600017a
