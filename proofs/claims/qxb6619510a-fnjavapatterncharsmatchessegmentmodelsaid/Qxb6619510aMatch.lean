/- The first law: the program and the segment model read the same characters. -/
import Derived.Test.Qxb6619510aModel
namespace Go.Proofs.Qxb6619510a
open Go.RowKit
set_option linter.unusedVariables false
set_option maxRecDepth 100000

set_option maxHeartbeats 1000000 in
theorem match_walk (s : ByteArray) (w : World) (h1 : s.size ≤ maxLen) : Calls Try.prog 3 #[.string s] w (Yes w) := by
  have hm := h1
  unfold maxLen at hm
  have hl := rn_len s
  have hjl := jp_len (rn s) (rn s).length false 0 (by omega)
  rw [List.drop_zero] at hjl
  by_cases hs : s.size ≤ 1048576
  · have H1 : Hid (∀ w : World, Calls Try.prog 6 #[.string s] w fun e w' => ∃ v1 v2 v3, e = .returned (.tuple #[v1, v2, v3]) ∧ Tr3 w' w.heap.size v1 v2 v3 (jp false 0 (rn s)) ∧ w.grownBy w' none) := fun w => zz_any s w (by omega)
    have H2 : Hid (∀ w : World, Calls Try.prog 7 #[.string s] w (MPost w (jp false 0 (rn s)))) := fun w => model_any s w hs
    have HL : Hid ((jp false 0 (rn s)).length ≤ 4194304) := Nat.le_trans hjl (by omega)
    clear hl hjl
    generalize jp false 0 (rn s) = T at *
    go_enter Try.func3, Try.ntmps3
    go_wp2_with fail
    refine (bytesM_any s _ h1).mono ?_
    rintro e w' ⟨r, rfl, hw⟩
    have hw := hw.symm
    subst hw
    cases r
    · go_wp2_with fail
      go_ret
      exact ⟨rfl, World.grownBy.refl _ _⟩
    go_wp2_with fail
    refine (H1.out _).mono ?_
    rintro e w1 ⟨f1, f2, f3, rfl, T1, g1⟩
    go_wp2_with fail
    refine (H2.out _).mono ?_
    rintro e w2 ⟨p1, p2, p3, rfl, T2, g2⟩
    have T1' := T1.grown g2
    go_wp2_with fail
    refine (same_any T _ _ _ _ _ _ _ _ _ T1' T2 HL.out).mono ?_
    rintro e w3 ⟨rfl, g3⟩
    go_wp2_with fail
    go_ret
    exact ⟨rfl, grown_trans (grown_trans g1 g2) g3⟩
  · clear hl hjl
    go_enter Try.func3, Try.ntmps3
    go_wp2_with fail
    refine (bytesM_any s _ h1).mono ?_
    rintro e w' ⟨r, rfl, hw⟩
    have hw := hw.symm
    subst hw
    cases r
    · go_wp2_with fail
      go_ret
      exact ⟨rfl, World.grownBy.refl _ _⟩
    · go_wp2_with fail
      go_ret
      exact ⟨rfl, World.grownBy.refl _ _⟩
end Go.Proofs.Qxb6619510a
