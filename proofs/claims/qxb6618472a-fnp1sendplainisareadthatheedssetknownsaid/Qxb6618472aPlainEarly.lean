import Derived.Test.Qxb6618472aPlainMain
namespace Go.Proofs.Qxb6618472a
open Go.ChangeShapes Go.WideShapes Go.ChangeAt Go.RowKit
set_option linter.unusedVariables false

set_option maxHeartbeats 2000000 in
set_option maxRecDepth 100000 in
/-- Each of the law's early ways: it answers true and touches nothing. -/
theorem plain_early (p : Int) (a1 : Option Addr) (len1 cap1 : Nat) (wd : Int) (a3 : Option Addr) (len3 cap3 : Nat) (j d M : Int) (w : World)
    (m1 : len1 ≤ maxLen) (m3 : len3 ≤ maxLen) (hM : (len1 : Int) * wd = M)
    (h : ¬ len1 ≤ 4096 ∨ ¬ len3 ≤ 65536 ∨ ¬ 1 ≤ wd ∨ ¬ wd ≤ 65536 ∨ ¬ 0 ≤ j ∨ ¬ j < 64 * wd ∨ (0 ≤ M ∧ M ≤ 1000000000 ∧ ¬ M ≤ (len3 : Int)) ∨ (0 ≤ M ∧ M ≤ (len3 : Int) ∧ ¬ (0 ≤ d ∧ d < (len1 : Int)))) :
    Calls Try.prog 4 #[.int .i64 p, .slice a1 len1 cap1, .int .i64 wd, .slice a3 len3 cap3, .int .i64 j, .int .i64 d] w fun e w' => e = .returned (.bool true) ∧ Below w.heap.size w w' := by
  have M1 := m1
  have M3 := m3
  unfold maxLen at m1 m3
  by_cases g1 : ¬ len1 ≤ 4096
  · clear h
    go_enter Try.func4, Try.ntmps4
    go_wp2_with (go_at_call 12; refine (bytes_plain _ _ _ _ _ _ _ _ _ _ _ M1 M3).mono ?_; rintro e w' ⟨r, rfl, rfl⟩)
    all_goals (go_ret; exact ⟨rfl, Below.refl _ _⟩)
  replace g1 := Decidable.of_not_not g1
  by_cases g2 : ¬ len3 ≤ 65536
  · clear h
    go_enter Try.func4, Try.ntmps4
    go_wp2_with (go_at_call 12; refine (bytes_plain _ _ _ _ _ _ _ _ _ _ _ M1 M3).mono ?_; rintro e w' ⟨r, rfl, rfl⟩)
    all_goals (go_ret; exact ⟨rfl, Below.refl _ _⟩)
  replace g2 := Decidable.of_not_not g2
  by_cases g3 : ¬ 1 ≤ wd
  · clear h
    have g3' : wd < 1 := by omega
    go_enter Try.func4, Try.ntmps4
    go_wp2_with (go_at_call 12; refine (bytes_plain _ _ _ _ _ _ _ _ _ _ _ M1 M3).mono ?_; rintro e w' ⟨r, rfl, rfl⟩)
    all_goals (go_ret; exact ⟨rfl, Below.refl _ _⟩)
  replace g3 := Decidable.of_not_not g3
  by_cases g4 : ¬ wd ≤ 65536
  · clear h
    go_enter Try.func4, Try.ntmps4
    go_wp2_with (go_at_call 12; refine (bytes_plain _ _ _ _ _ _ _ _ _ _ _ M1 M3).mono ?_; rintro e w' ⟨r, rfl, rfl⟩)
    all_goals (go_ret; exact ⟨rfl, Below.refl _ _⟩)
  replace g4 := Decidable.of_not_not g4
  by_cases g5 : ¬ 0 ≤ j
  · clear h
    have g5' : j < 0 := by omega
    go_enter Try.func4, Try.ntmps4
    go_wp2_with (go_at_call 12; refine (bytes_plain _ _ _ _ _ _ _ _ _ _ _ M1 M3).mono ?_; rintro e w' ⟨r, rfl, rfl⟩)
    all_goals (go_ret; exact ⟨rfl, Below.refl _ _⟩)
  replace g5 := Decidable.of_not_not g5
  by_cases g6 : ¬ j < 64 * wd
  · clear h
    go_enter Try.func4, Try.ntmps4
    go_wp2_with (go_at_call 12; refine (bytes_plain _ _ _ _ _ _ _ _ _ _ _ M1 M3).mono ?_; rintro e w' ⟨r, rfl, rfl⟩)
    all_goals (go_ret; exact ⟨rfl, Below.refl _ _⟩)
  replace g6 := Decidable.of_not_not g6
  have h7 : (0 ≤ M ∧ M ≤ 1000000000 ∧ ¬ M ≤ (len3 : Int)) ∨ (0 ≤ M ∧ M ≤ (len3 : Int) ∧ ¬ (0 ≤ d ∧ d < (len1 : Int))) := by
    rcases h with h | h | h | h | h | h | h
    · exact absurd g1 h
    · exact absurd g2 h
    · exact absurd g3 h
    · exact absurd g4 h
    · exact absurd g5 h
    · exact absurd g6 h
    · exact h
  clear h
  rcases h7 with ⟨h8, h9, h10⟩ | ⟨h8, h9, h10⟩
  · go_enter Try.func4, Try.ntmps4
    go_wp2_with (go_at_call 12; refine (bytes_plain _ _ _ _ _ _ _ _ _ _ _ M1 M3).mono ?_; rintro e w' ⟨r, rfl, rfl⟩)
    all_goals (go_ret; exact ⟨rfl, Below.refl _ _⟩)
  · by_cases hd : d < 0
    · clear h10
      go_enter Try.func4, Try.ntmps4
      go_wp2_with (go_at_call 12; refine (bytes_plain _ _ _ _ _ _ _ _ _ _ _ M1 M3).mono ?_; rintro e w' ⟨r, rfl, rfl⟩)
      all_goals (go_ret; exact ⟨rfl, Below.refl _ _⟩)
    · have hd2 : (len1 : Int) ≤ d := by omega
      have hd3 : 0 ≤ d := by omega
      clear h10 hd
      go_enter Try.func4, Try.ntmps4
      go_wp2_with (go_at_call 12; refine (bytes_plain _ _ _ _ _ _ _ _ _ _ _ M1 M3).mono ?_; rintro e w' ⟨r, rfl, rfl⟩)
      all_goals (go_ret; exact ⟨rfl, Below.refl _ _⟩)

theorem plain_walk (p : Int) (a1 : Option Addr) (len1 cap1 : Nat) (z1 : List Int) (wd : Int) (a3 : Option Addr) (len3 cap3 : Nat) (z3 : List Int) (j d : Int) (w : World)
    (h1 : Row w a1 len1 cap1 z1) (h3 : Row w a3 len3 cap3 z3) :
    Calls Try.prog 4 #[.int .i64 p, .slice a1 len1 cap1, .int .i64 wd, .slice a3 len3 cap3, .int .i64 j, .int .i64 d] w fun e w' => e = .returned (.bool true) ∧ Below w.heap.size w w' := by
  by_cases h : ¬ len1 ≤ 4096 ∨ ¬ len3 ≤ 65536 ∨ ¬ 1 ≤ wd ∨ ¬ wd ≤ 65536 ∨ ¬ 0 ≤ j ∨ ¬ j < 64 * wd
  · exact plain_early p a1 len1 cap1 wd a3 len3 cap3 j d _ w h1.le h3.le rfl (by
      rcases h with h | h | h | h | h | h
      · exact .inl h
      · exact .inr (.inl h)
      · exact .inr (.inr (.inl h))
      · exact .inr (.inr (.inr (.inl h)))
      · exact .inr (.inr (.inr (.inr (.inl h))))
      · exact .inr (.inr (.inr (.inr (.inr (.inl h))))))
  · obtain ⟨g1, g2, g3, g4, g5, g6⟩ : len1 ≤ 4096 ∧ len3 ≤ 65536 ∧ 1 ≤ wd ∧ wd ≤ 65536 ∧ 0 ≤ j ∧ j < 64 * wd := by omega
    obtain ⟨x, rfl⟩ := Int.eq_ofNat_of_zero_le (show 0 ≤ wd by omega)
    obtain ⟨q, rfl⟩ := Int.eq_ofNat_of_zero_le g5
    have hp : len1 * x ≤ 4096 * 65536 := Nat.mul_le_mul g1 (by omega)
    have e : (len1 : Int) * (x : Int) = ((len1 * x : Nat) : Int) := by simp
    by_cases hn : len1 * x ≤ len3
    · by_cases hd : 0 ≤ d ∧ d < (len1 : Int)
      · obtain ⟨y, rfl⟩ := Int.eq_ofNat_of_zero_le hd.1
        exact plain_main p a1 len1 cap1 z1 x a3 len3 cap3 z3 q y w h1 h3 g1 g2 (by omega) (by omega) (by omega) hn (by omega)
      · exact plain_early p a1 len1 cap1 x a3 len3 cap3 q d _ w h1.le h3.le e (.inr (.inr (.inr (.inr (.inr (.inr (.inr ⟨by omega, by omega, hd⟩)))))))
    · exact plain_early p a1 len1 cap1 x a3 len3 cap3 q d _ w h1.le h3.le e (.inr (.inr (.inr (.inr (.inr (.inr (.inl ⟨by omega, by omega, by omega⟩)))))))

end Go.Proofs.Qxb6618472a
