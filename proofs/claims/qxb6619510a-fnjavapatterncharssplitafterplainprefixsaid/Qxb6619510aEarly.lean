/- The early ways of the second law, and all its ways together. -/
import Derived.Test.Qxb6619510aSplit
namespace Go.Proofs.Qxb6619510a
open Go.RowKit
set_option linter.unusedVariables false
set_option maxRecDepth 100000

theorem split_big (s : ByteArray) (k : Int) (w : World) (h1 : s.size ≤ maxLen) (hs : 1048576 < s.size) : Calls Try.prog 4 #[.string s, .int .i64 k] w (Yes w) := by
  have hm := h1
  unfold maxLen at hm
  go_enter Try.func4, Try.ntmps4
  go_wp2_with fail
  refine (bytesS_any s _ _ h1).mono ?_
  rintro e w' ⟨r, rfl, hw⟩
  have hw := hw.symm
  subst hw
  cases r
  · go_wp2_with fail
    go_ret
    exact ⟨rfl, World.grownBy.refl _ _⟩
  · go_wp2_with fail
    go_ret
    exact ⟨rfl, World.grownBy.refl _ _⟩

theorem split_neg (s : ByteArray) (k : Int) (w : World) (hs : s.size ≤ 1048576) (hk : k < 0) : Calls Try.prog 4 #[.string s, .int .i64 k] w (Yes w) := by
  obtain ⟨C, Bk, hcv, hC, hbk⟩ := conv_run s (by omega)
  have hl := rn_len s
  clear hbk
  generalize (rn s).length = n at *
  have hsm : s.size ≤ maxLen := by unfold maxLen; omega
  go_enter Try.func4, Try.ntmps4
  go_wp2_with fail
  refine (bytesS_any s _ _ hsm).mono ?_
  rintro e w' ⟨r, rfl, hw⟩
  have hw := hw.symm
  subst hw
  cases r
  · go_wp2_with fail
    go_ret
    exact ⟨rfl, World.grownBy.refl _ _⟩
  · go_wp2_with fail
    go_ret
    exact ⟨rfl, grown_trans (World.grownBy_alloc w _ none) (grown_drewN _ 1 none)⟩

theorem split_far (s : ByteArray) (k : Int) (w : World) (hs : s.size ≤ 1048576) (hk : ((rn s).length : Int) < k) : Calls Try.prog 4 #[.string s, .int .i64 k] w (Yes w) := by
  obtain ⟨C, Bk, hcv, hC, hbk⟩ := conv_run s (by omega)
  have hl := rn_len s
  clear hbk
  generalize (rn s).length = n at *
  have hsm : s.size ≤ maxLen := by unfold maxLen; omega
  have hk0 : 0 ≤ k := by omega
  go_enter Try.func4, Try.ntmps4
  go_wp2_with fail
  refine (bytesS_any s _ _ hsm).mono ?_
  rintro e w' ⟨r, rfl, hw⟩
  have hw := hw.symm
  subst hw
  cases r
  · go_wp2_with fail
    go_ret
    exact ⟨rfl, World.grownBy.refl _ _⟩
  · go_wp2_with fail
    go_ret
    exact ⟨rfl, grown_trans (World.grownBy_alloc w _ none) (grown_drewN _ 1 none)⟩

set_option maxHeartbeats 1000000 in
theorem split_bs (s : ByteArray) (k j0 : Nat) (w : World) (hs : s.size ≤ 1048576) (hk : k ≤ (rn s).length) (hj0 : j0 < k) (h92 : (rn s).getD j0 0 = 92) : Calls Try.prog 4 #[.string s, .int .i64 k] w (Yes w) := by
  obtain ⟨C, Bk, hcv, hC, hbk⟩ := conv_run s (by omega)
  have hl := rn_len s
  generalize rn s = R at *
  obtain ⟨n, hn⟩ : ∃ n, n = R.length := ⟨_, rfl⟩
  rw [← hn] at hcv hl hk hC
  have HN : Hid (n = R.length) := hn
  have HJ : Hid (R.getD j0 0 = 92) := h92
  have hlp : n ≤ 1048576 := by omega
  have hC' := hC w
  clear hn hC h92
  have hsm : s.size ≤ maxLen := by unfold maxLen; omega
  go_enter Try.func4, Try.ntmps4
  go_wp2_with fail
  refine (bytesS_any s _ _ hsm).mono ?_
  rintro e w' ⟨r, rfl, hw⟩
  have hw := hw.symm
  subst hw
  cases r
  · go_wp2_with fail
    go_ret
    exact ⟨rfl, World.grownBy.refl _ _⟩
  go_wp2_with fail
  obtain ⟨w0, hw0⟩ : ∃ x, x = (w.alloc (Obj.cells (Bk w) 21)).drew := ⟨_, rfl⟩
  rw [← hw0]
  have hR0 : RowR w0 w.heap.size R := hbk w w0 (by rw [hw0]; exact heap_alloc_new w _)
  have hG0 : w.grownBy w0 none := by rw [hw0]; exact grown_trans (World.grownBy_alloc w _ none) (grown_drewN _ 1 none)
  clear hw0 hcv hbk
  generalize C w = Cw at *
  go_loop [6] (fun i => ∃ j : Nat, j ≤ j0 ∧ i = .int .i64 j) (fun i => j0 - (intOf i).toNat)
  case atStart => exact ⟨0, Nat.zero_le _, rfl⟩
  case round =>
    obtain ⟨j, hj, rfl⟩ := hrel
    have cj := hR0 j (by rw [← HN.out]; omega)
    by_cases h92 : R.getD j 0 = 92
    · have b92 : (R.getD j 0 == 92) = true := by rw [beq_iff_eq]; exact h92
      generalize R.getD j 0 = x at *
      clear h92
      go_wp2
      go_ret
      exact ⟨rfl, hG0⟩
    · have b92 : (R.getD j 0 == 92) = false := by rw [beq_eq_false_iff_ne]; exact h92
      have hne : j ≠ j0 := by rintro rfl; exact h92 HJ.out
      generalize R.getD j 0 = x at *
      clear h92
      go_wp2
      go_round
      case rel => exact ⟨j + 1, by omega, by go_num⟩
      case measure => simp [intOf]; omega

theorem split_walk (s : ByteArray) (k : Int) (w : World) (h1 : s.size ≤ maxLen) : Calls Try.prog 4 #[.string s, .int .i64 k] w (Yes w) := by
  by_cases hs : 1048576 < s.size
  · exact split_big s k w h1 hs
  · by_cases hn : k < 0
    · exact split_neg s k w (by omega) hn
    · by_cases hf : ((rn s).length : Int) < k
      · exact split_far s k w (by omega) hf
      · obtain ⟨m, rfl⟩ := Int.eq_ofNat_of_zero_le (show 0 ≤ k by omega)
        by_cases hb : ∃ j, j < m ∧ (rn s).getD j 0 = 92
        · obtain ⟨j, hj, hb⟩ := hb
          exact split_bs s m j w (by omega) (by omega) hj hb
        · exact split_main s m w (by omega) (by omega) (fun j hj e => hb ⟨j, hj, e⟩)
end Go.Proofs.Qxb6619510a
