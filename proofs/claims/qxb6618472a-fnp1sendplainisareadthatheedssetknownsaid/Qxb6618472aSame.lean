import Derived.Test.Qxb6618472aUnk
namespace Go.Proofs.Qxb6618472a
open Go.ChangeShapes Go.WideShapes Go.ChangeAt Go.RowKit
set_option linter.unusedVariables false

set_option maxHeartbeats 400000 in
theorem same_zero (w : World) (a b : Option Addr) (c d : Nat) : Calls Try.prog 11 #[.slice a 0 c, .slice b 0 d] w fun e w' => e = .returned (.bool true) ∧ ∃ q, w' = w.drewN q := by
  go_enter Try.func11, Try.ntmps11
  go_wp2
  refine wp_loop_rounds 1 ?_
  rw [rounds_succ]
  go_wp2
  go_ret
  exact ⟨rfl, 0, rfl⟩

set_option maxHeartbeats 400000 in
theorem same_pos (w : World) (g1 g2 n c1 c2 b1 b2 : Nat) (l : List (Nat × Int)) (hl : l.length = n) (hn : n ≤ 65536)
    (h1 : w.ownsRow b1 43 2 (.slice (some ⟨g1, 0, none⟩) n c1) n (flat l)) (h2 : w.ownsRow b2 43 2 (.slice (some ⟨g2, 0, none⟩) n c2) n (flat l)) :
    Calls Try.prog 11 #[.slice (some ⟨g1, 0, none⟩) n c1, .slice (some ⟨g2, 0, none⟩) n c2] w fun e w' => e = .returned (.bool true) ∧ ∃ q, w' = w.drewN q := by
  have hne : ((n : Int) != (n : Int)) = false := by simp
  go_enter Try.func11, Try.ntmps11
  go_wp2
  go_loopw [5] (fun i wr => ∃ k : Nat, k ≤ n ∧ i = .int .i64 k ∧ ∃ q, wr = w.drewN q) (fun i _ => n - (intOf i).toNat)
  case atStart => exact ⟨0, Nat.zero_le _, rfl, 0, rfl⟩
  case round =>
    obtain ⟨k, hk, rfl, q, rfl⟩ := hrel
    by_cases hlt : k < n
    · have hlt' : (k : Int) < (n : Int) := by omega
      have f0 := flat_at0 l k (by omega)
      have f1 := flat_at1 l k (by omega)
      have d0 : w.cell? ⟨g1, k * 2, none⟩ = some (.int .i64 ((l[k]'(by omega)).1 : Nat)) := by rw [h1.cellAt (k * 2) (by omega)]; exact f0
      have d1 : w.cell? ⟨g1, k * 2 + 1, none⟩ = some (.int .u64 ((l[k]'(by omega)).2)) := by rw [h1.cellAt (k * 2 + 1) (by omega)]; exact f1
      have e0 : w.cell? ⟨g2, k * 2, none⟩ = some (.int .i64 ((l[k]'(by omega)).1 : Nat)) := by rw [h2.cellAt (k * 2) (by omega)]; exact f0
      have e1 : w.cell? ⟨g2, k * 2 + 1, none⟩ = some (.int .u64 ((l[k]'(by omega)).2)) := by rw [h2.cellAt (k * 2 + 1) (by omega)]; exact f1
      clear f0 f1
      generalize (((l[k]'(by omega)).1 : Nat) : Int) = x at *
      generalize ((l[k]'(by omega)).2) = y at *
      have hx : (x != x) = false := by simp
      have hy : (y != y) = false := by simp
      clear hl h1 h2
      go_wp2
      go_quiet (fail)
      go_wp2
      go_quiet (fail)
      go_wp2
      go_roundw
      case rel => exact ⟨k + 1, by omega, by go_num, _, rfl⟩
      case measure => simp [intOf]; omega
    · go_wp2
      go_ret
      exact ⟨rfl, q, rfl⟩

end Go.Proofs.Qxb6618472a
