import Derived.Test.Qxb6601785aA1
import Derived.Test.Qxb6601785aPlain2
import Derived.Deep.RegionHeld3
import Derived.Deep.AppendLies
import Derived.BigRegion
import Derived.BigQuiet
namespace Go.Proofs.Qxb6601785a
open Go.RowKit
set_option linter.unusedSimpArgs false
set_option linter.unusedVariables false

theorem info5 : (Try.prog.info? 5).map (fun i => (i.zero, i.size, i.bytes)) = some (some (.int .u8 0), 1, 1) := by kernel_rfl
theorem info3 : (Try.prog.info? 3).map (fun i => (i.zero, i.size, i.bytes)) = some (some (.int .i64 0), 1, 8) := by kernel_rfl

theorem bytes17_any (ao : Option Addr) (n cap : Nat) (q l : ByteArray) (w : World) (hq : q.size ≤ maxLen) (hl : l.size ≤ maxLen) :
    Calls Try.prog 17 #[.slice ao n cap, .string q, .string l] w fun e w' => (e = .returned (.bool false) ∨ e = .returned (.bool true) ∧ n + q.size + l.size ≤ 1048576) ∧ w' = w := by
  unfold maxLen at hq hl
  by_cases h1 : 1048576 < n
  · go_enter Try.func17, Try.ntmps17
    go_wp2
    go_ret
    exact ⟨.inl rfl, rfl⟩
  by_cases h2 : 1048576 < q.size
  · go_enter Try.func17, Try.ntmps17
    go_wp2
    go_ret
    exact ⟨.inl rfl, rfl⟩
  by_cases h3 : (1048576 : Int) < (n : Int) + (q.size : Int)
  · go_enter Try.func17, Try.ntmps17
    go_wp2
    go_ret
    exact ⟨.inl rfl, rfl⟩
  by_cases h4 : 1048576 < l.size
  · go_enter Try.func17, Try.ntmps17
    go_wp2
    go_ret
    exact ⟨.inl rfl, rfl⟩
  by_cases h5 : (1048576 : Int) < (n : Int) + (q.size : Int) + (l.size : Int)
  · go_enter Try.func17, Try.ntmps17
    go_wp2
    go_ret
    exact ⟨.inl rfl, rfl⟩
  · go_enter Try.func17, Try.ntmps17
    go_wp2
    go_ret
    exact ⟨.inr ⟨rfl, by omega⟩, rfl⟩

theorem depth_any (gp n cap : Nat) (ao : Option Addr) (w : World) (h : w.heap[gp]? = some (.cells #[.slice ao n cap, .string ⟨#[]⟩] 34 (0, 0))) :
    Calls Try.prog 25 #[.pointer (some ⟨gp, 0, none⟩)] w fun e w' => e = .returned (.int .i64 n) ∧ w = w' := by
  have q0 : w.cell? ⟨gp, 0, none⟩ = some (.slice ao n cap) := cell_at h
  have q1 : w.cell? ⟨gp, 1, none⟩ = some (.string ⟨#[]⟩) := cell_at h
  go_enter Try.func25, Try.ntmps25
  go_wp2
  go_ret
  exact ⟨rfl, rfl⟩

theorem copy_some (a : Addr) (n cap : Nat) (x : Nat → Int) (w : World) (hn : n ≤ 1048576) (h : RowIn w 0 (some a) n 1 (fun k _ => .int .u8 (x k))) :
    Calls Try.prog 18 #[.slice (some a) n cap] w fun e w' => e = .returned (.slice (some ⟨w.heap.size, 0, none⟩) n n) ∧ w'.rowIs w.heap.size 5 n (fun k => .int .u8 (x k)) ∧ Below w.heap.size w w' := by
  have hnil := fun w => Lib.run_eql_slice_nil (P := Try.prog) w 26 5 (some a) n cap 0 0 Try.underlying26
  have hmk := run_make_any (P := Try.prog) 26 5 (.int .u8 0) 1 1 Try.underlying26 info5 .i64 .i64 n (by omega) (by omega)
  go_enter Try.func18, Try.ntmps18
  go_wp2
  go_loopw [4] (fun i wr => ∃ k : Nat, k ≤ n ∧ i = .int .i64 k ∧ Below w.heap.size w wr ∧ wr.rowIs w.heap.size 5 n (fun j => .int .u8 (if j < k then x j else 0))) (fun i _ => n - (intOf i).toNat)
  case atStart => exact ⟨0, Nat.zero_le _, rfl, (Below.refl _ _).alloc (Nat.le_refl _) _, (World.rowIs_made w (.int .u8 0) n 5).congr (fun j _ => by simp)⟩
  case round =>
    obtain ⟨k, hk, rfl, kb, kr⟩ := hrel
    clear hmk
    by_cases hlt : k < n
    · rcases h with h | ⟨b, o, hab, _, hbl, hc⟩
      · omega
      · cases hab
        have q0 : wr.cell? ⟨b, o + k, none⟩ = some (.int .u8 (x k)) := by
          rw [kb.cell (p := ⟨b, o + k, none⟩) hbl]; simpa using hc k hlt 0 (by omega)
        have q1 : wr.cell? ⟨w.heap.size, k, none⟩ = some (.int .u8 (if k < k then x k else 0)) := kr.cell hlt
        have q2 : wr.frozen? ⟨w.heap.size, k, none⟩ = false := kr.frozen _
        have R1 : Hid _ := (kr.set k (.int .u8 (x k))).congr (g := fun j => .int .u8 (if j < k + 1 then x j else 0)) (fun j _ => by
          by_cases e : j = k
          · subst e; simp
          · have h1 : (j < k + 1) ↔ (j < k) := by omega
            simp [e, h1])
        clear hc
        go_wp2
        go_roundw
        case rel => exact ⟨k + 1, by omega, by go_num, kb.setCell (Nat.le_refl _) _, R1.out⟩
        case measure => simp [intOf]; omega
    · have hkn : n = k := by omega
      subst hkn
      go_wp2
      go_ret
      exact ⟨rfl, kr.congr (fun j hj => by simp [hj]), kb⟩

theorem copy_nil (w : World) :
    Calls Try.prog 18 #[.slice none 0 0] w fun e w' => e = .returned (.slice none 0 0) ∧ w = w' := by
  have hnil := fun w => Lib.run_eql_slice_nil (P := Try.prog) w 26 5 none 0 0 0 0 Try.underlying26
  go_enter Try.func18, Try.ntmps18
  go_wp2
  go_ret
  exact ⟨rfl, rfl⟩
end Go.Proofs.Qxb6601785a
