import Derived.Test.Qxb6600117aB2
namespace Go.Proofs.Qxb6600117a
open Go.RowKit
set_option linter.unusedSimpArgs false
set_option linter.unusedVariables false

theorem size3' : ∀ w, (Go.sizeOf 3).run Try.prog w = .ok 1 w := by
  intro w; exact Try.sizeOf3 w

/-- What 's[lo:hi]' is, of a whole slice. -/
theorem cut_row {w : World} {lo : Nat} {ao : Option Addr} {n l h : Nat} {x : Nat → Int} (hlh : l ≤ h) (hh : h ≤ n) (hr : RowIn w lo ao n 1 (fun k _ => .int .i64 (x k))) :
    ∃ so cs, (∀ w, (Instr.slice 28 (.slice ao n n) (some (.int .i64 (l : Int))) (some (.int .i64 (h : Int))) none).run Try.prog w = .ok (.slice so (h - l) cs) w) ∧ RowIn w lo so (h - l) 1 (fun k _ => .int .i64 (x (l + k))) := by
  have ht : Try.prog.underlying 28 = some (.slice (Try.prog.elem 28)) := by simp [Program.elem, Try.underlying28]
  have he : Try.prog.elem 28 = 3 := by simp [Program.elem, Try.underlying28]
  refine ⟨if n = l then ao else ao.map (·.add (l * 1)), n - l, fun w' => ?_, ?_⟩
  · rw [run_slice_lh w' 28 _ _ _ ht .i64 .i64 _ _ (by omega) (by omega) (by omega), he, size3']
    simp [Result.andThen, sliced]
  · by_cases e : n = l
    · exact .inl (by omega)
    · rw [if_neg e]
      rcases hr with hr | ⟨b, o, rfl, hlo, hlt, hc⟩
      · omega
      · refine .inr ⟨b, o + l, by simp [Addr.add_lit], hlo, hlt, fun k hk c hc' => ?_⟩
        have := hc (l + k) (by omega) c hc'
        rw [← this]
        congr 2; omega

set_option maxRecDepth 20000 in
theorem zzKeep_any (w0 w : World) (ao bo : Option Addr) (na nb n up aLo aHi bLo bHi : Nat) (x y : Nat → Int) (S L : Nat → Nat)
    (hb0 : Below w0.heap.size w0 w) (hc : w.rowIs w0.heap.size 3 n (fun _ => .int .i64 0))
    (ha : RowIn w0 0 ao na 1 (fun k _ => .int .i64 (x k))) (hb : RowIn w0 0 bo nb 1 (fun k _ => .int .i64 (y k)))
    (h1 : aLo ≤ aHi) (h2 : aHi ≤ na) (h3 : bLo ≤ bHi) (h4 : bHi ≤ nb) (hna : na ≤ 1048576) (hnb : nb ≤ 1048576) (hn : n ≤ 65536) (hup : up ≤ 9223372036854775807)
    (hS : ∀ k, k < aHi - aLo → x (aLo + k) = (S k : Int) ∧ S k < n) (hL : ∀ k, k < bHi - bLo → y (bLo + k) = (L k : Int) ∧ L k < n) :
    Calls Try.prog 22 #[.slice ao na na, .slice bo nb nb, .slice (some ⟨w0.heap.size, 0, none⟩) n n, .int .i64 aLo, .int .i64 aHi, .int .i64 bLo, .int .i64 bHi, .int .i64 up] w fun e w' =>
      e = .returned (.int .i64 ((min up (ov (fun j => cnt S j (aHi - aLo)) (fun j => cnt L j (bHi - bLo)) n) : Nat) : Int)) ∧ Below w0.heap.size w0 w' := by
  obtain ⟨so, cs, hsa, hSr⟩ := cut_row h1 h2 ha
  obtain ⟨lo, cl, hsb, hLr⟩ := cut_row h3 h4 hb
  have hlt := hc.lt
  go_enter Try.func22, Try.ntmps22
  go_wp2_with fail
  refine (keepable_any w0 _ w.heap.size _ _ _ _ _ _ _ so lo (aHi - aLo) cs (bHi - bLo) cl n up S L (hb0.alloc hb0.size _) (by omega) (blk_new _ _ rfl) (by rfl) (by rfl) (by rfl) (hc.alloc _) ⟨_, _, _, rfl⟩ ⟨_, _, _, rfl⟩ hsa hsb (hSr.congr (fun k hk _ _ => by rw [(hS k hk).1])) (hLr.congr (fun k hk _ _ => by rw [(hL k hk).1])) (fun i hi => (hS i hi).2) (fun i hi => (hL i hi).2) (by omega) (by omega) hn hup).mono ?_
  rintro e w' ⟨rfl, hbel⟩
  go_wp2
  go_ret
  exact ⟨rfl, hbel⟩
end Go.Proofs.Qxb6600117a
