import Derived.Test.Qxb6618472aFifo
namespace Go.Proofs.Qxb6618472a
open Go.ChangeShapes Go.WideShapes Go.ChangeAt Go.RowKit
set_option linter.unusedVariables false

set_option maxHeartbeats 2000000 in
/-- Each of the law's early ways: it answers true and touches nothing. -/
theorem fifo_early (p : Int) (a1 : Option Addr) (len1 cap1 : Nat) (wd : Int) (a3 : Option Addr) (len3 cap3 : Nat) (j M : Int) (w : World)
    (m1 : len1 ≤ maxLen) (m3 : len3 ≤ maxLen) (hM : (len1 : Int) * wd = M)
    (h : ¬ len1 ≤ 4096 ∨ ¬ len3 ≤ 65536 ∨ ¬ 1 ≤ wd ∨ ¬ wd ≤ 65536 ∨ ¬ 0 ≤ j ∨ ¬ j < 64 * wd ∨ (0 ≤ M ∧ M ≤ 1000000000 ∧ ¬ M ≤ (len3 : Int))) :
    Calls Try.prog 3 #[.int .i64 p, .slice a1 len1 cap1, .int .i64 wd, .slice a3 len3 cap3, .int .i64 j] w fun e w' => e = .returned (.bool true) ∧ Below w.heap.size w w' := by
  have M1 := m1
  have M3 := m3
  unfold maxLen at m1 m3
  by_cases g1 : ¬ len1 ≤ 4096
  · clear h
    go_enter Try.func3, Try.ntmps3
    go_wp2_with (go_at_call 5; refine (bytes_fifo _ _ _ _ _ _ _ _ _ _ M1 M3).mono ?_; rintro e w' ⟨r, rfl, rfl⟩)
    all_goals (go_ret; exact ⟨rfl, Below.refl _ _⟩)
  replace g1 := Decidable.of_not_not g1
  by_cases g2 : ¬ len3 ≤ 65536
  · clear h
    go_enter Try.func3, Try.ntmps3
    go_wp2_with (go_at_call 5; refine (bytes_fifo _ _ _ _ _ _ _ _ _ _ M1 M3).mono ?_; rintro e w' ⟨r, rfl, rfl⟩)
    all_goals (go_ret; exact ⟨rfl, Below.refl _ _⟩)
  replace g2 := Decidable.of_not_not g2
  by_cases g3 : ¬ 1 ≤ wd
  · clear h
    have g3' : wd < 1 := by omega
    go_enter Try.func3, Try.ntmps3
    go_wp2_with (go_at_call 5; refine (bytes_fifo _ _ _ _ _ _ _ _ _ _ M1 M3).mono ?_; rintro e w' ⟨r, rfl, rfl⟩)
    all_goals (go_ret; exact ⟨rfl, Below.refl _ _⟩)
  replace g3 := Decidable.of_not_not g3
  by_cases g4 : ¬ wd ≤ 65536
  · clear h
    go_enter Try.func3, Try.ntmps3
    go_wp2_with (go_at_call 5; refine (bytes_fifo _ _ _ _ _ _ _ _ _ _ M1 M3).mono ?_; rintro e w' ⟨r, rfl, rfl⟩)
    all_goals (go_ret; exact ⟨rfl, Below.refl _ _⟩)
  replace g4 := Decidable.of_not_not g4
  by_cases g5 : ¬ 0 ≤ j
  · clear h
    have g5' : j < 0 := by omega
    go_enter Try.func3, Try.ntmps3
    go_wp2_with (go_at_call 5; refine (bytes_fifo _ _ _ _ _ _ _ _ _ _ M1 M3).mono ?_; rintro e w' ⟨r, rfl, rfl⟩)
    all_goals (go_ret; exact ⟨rfl, Below.refl _ _⟩)
  replace g5 := Decidable.of_not_not g5
  by_cases g6 : ¬ j < 64 * wd
  · clear h
    go_enter Try.func3, Try.ntmps3
    go_wp2_with (go_at_call 5; refine (bytes_fifo _ _ _ _ _ _ _ _ _ _ M1 M3).mono ?_; rintro e w' ⟨r, rfl, rfl⟩)
    all_goals (go_ret; exact ⟨rfl, Below.refl _ _⟩)
  replace g6 := Decidable.of_not_not g6
  have h7 : 0 ≤ M ∧ M ≤ 1000000000 ∧ ¬ M ≤ (len3 : Int) := by
    rcases h with h | h | h | h | h | h | h
    · exact absurd g1 h
    · exact absurd g2 h
    · exact absurd g3 h
    · exact absurd g4 h
    · exact absurd g5 h
    · exact absurd g6 h
    · exact h
  obtain ⟨h8, h9, h10⟩ := h7
  clear h
  go_enter Try.func3, Try.ntmps3
  go_wp2_with (go_at_call 5; refine (bytes_fifo _ _ _ _ _ _ _ _ _ _ M1 M3).mono ?_; rintro e w' ⟨r, rfl, rfl⟩)
  all_goals (go_ret; exact ⟨rfl, Below.refl _ _⟩)

theorem fifo_walk (p : Int) (a1 : Option Addr) (len1 cap1 : Nat) (z1 : List Int) (wd : Int) (a3 : Option Addr) (len3 cap3 : Nat) (z3 : List Int) (j : Int) (w : World)
    (h1 : Row w a1 len1 cap1 z1) (h3 : Row w a3 len3 cap3 z3) :
    Calls Try.prog 3 #[.int .i64 p, .slice a1 len1 cap1, .int .i64 wd, .slice a3 len3 cap3, .int .i64 j] w fun e w' => e = .returned (.bool true) ∧ Below w.heap.size w w' := by
  by_cases h : ¬ len1 ≤ 4096 ∨ ¬ len3 ≤ 65536 ∨ ¬ 1 ≤ wd ∨ ¬ wd ≤ 65536 ∨ ¬ 0 ≤ j ∨ ¬ j < 64 * wd
  · exact fifo_early p a1 len1 cap1 wd a3 len3 cap3 j _ w h1.le h3.le rfl (by
      rcases h with h | h | h | h | h | h
      · exact .inl h
      · exact .inr (.inl h)
      · exact .inr (.inr (.inl h))
      · exact .inr (.inr (.inr (.inl h)))
      · exact .inr (.inr (.inr (.inr (.inl h))))
      · exact .inr (.inr (.inr (.inr (.inr (.inl h))))))
  · obtain ⟨g1, g2, g3, g4, g5, g6⟩ : len1 ≤ 4096 ∧ len3 ≤ 65536 ∧ 1 ≤ wd ∧ wd ≤ 65536 ∧ 0 ≤ j ∧ j < 64 * wd := by omega
    obtain ⟨d, rfl⟩ := Int.eq_ofNat_of_zero_le (show 0 ≤ wd by omega)
    obtain ⟨q, rfl⟩ := Int.eq_ofNat_of_zero_le g5
    have hp : len1 * d ≤ 4096 * 65536 := Nat.mul_le_mul g1 (by omega)
    by_cases hn : len1 * d ≤ len3
    · exact fifo_main p a1 len1 cap1 z1 d a3 len3 cap3 z3 q w h1 h3 g1 g2 (by omega) (by omega) (by omega) hn
    · have e : (len1 : Int) * (d : Int) = ((len1 * d : Nat) : Int) := by simp
      exact fifo_early p a1 len1 cap1 d a3 len3 cap3 q _ w h1.le h3.le e (.inr (.inr (.inr (.inr (.inr (.inr ⟨by omega, by omega, by omega⟩))))))

end Go.Proofs.Qxb6618472a
