import Derived.Test.Qxb6619295aWalks
namespace Go.Proofs.Qxb6619295a
open Go.RowKit
set_option linter.unusedVariables false

theorem bl_append (a b : ByteArray) : bl (a ++ b) = bl a ++ bl b := by simp [bl]

theorem D_append (a b : ByteArray) : D (a ++ b) = if hasA (bl b) then D b else if hasA (bl a) then D a ++ b else ⟨#[]⟩ := by
  apply ext_bl
  rw [bl_D, bl_append, dom_append]
  by_cases hb : hasA (bl b) = true
  · simp only [hb, if_true]; rw [bl_D]
  · by_cases ha : hasA (bl a) = true
    · simp only [hb, ha, if_true]; rw [if_neg (by simp), if_neg (by simp), bl_append, bl_D]
    · simp only [hb, ha]; rfl

theorem nothing : (⟨#[]⟩ : ByteArray).toList.isEmpty = true := by decide +kernel

theorem dom_len (l : List UInt8) : (dom l).length ≤ l.length := by
  induction l with
  | nil => exact Nat.le_refl _
  | cons c l ih =>
    simp only [dom]
    split
    · simp; omega
    · split
      · simp
      · simp

theorem D_size (s : ByteArray) {n : Nat} (h : s.size ≤ n) : (D s).size ≤ n := by
  have h1 := dom_len (bl s)
  rw [← bl_D, bl_len, bl_len] at h1
  omega

set_option maxHeartbeats 1000000 in
theorem law_walk (a b : ByteArray) (w : World) (h1 : a.size ≤ maxLen) (h2 : b.size ≤ maxLen) :
    Calls Try.prog 3 #[.string a, .string b] w fun e w' => e = .returned (.bool true) ∧ Grown w w' := by
  have m1 := h1
  have m2 := h2
  unfold maxLen at h1 h2
  by_cases g1 : 524288 < a.size
  · go_enter Try.func3, Try.ntmps3
    go_wp2_with (go_at_call 4; refine (bytes_any _ _ _ m1 m2).mono ?_; rintro e w' ⟨r, rfl, rfl⟩)
    all_goals (go_ret; exact ⟨rfl, Grown.refl _⟩)
  by_cases g2 : 524288 < b.size
  · go_enter Try.func3, Try.ntmps3
    go_wp2_with (go_at_call 4; refine (bytes_any _ _ _ m1 m2).mono ?_; rintro e w' ⟨r, rfl, rfl⟩)
    all_goals (go_ret; exact ⟨rfl, Grown.refl _⟩)
  have hab : (a ++ b).size ≤ maxLen := by rw [ByteArray.size_append]; unfold maxLen; omega
  have hD := D_append a b
  have k1 : a.size ≤ 524288 := by omega
  have k2 : b.size ≤ 524288 := by omega
  clear g1 g2
  by_cases hb : hasA (bl b) = true
  · rw [if_pos hb] at hD
    have hE : ((D (a ++ b)).toList == (D b).toList) = true := by rw [hD]; simp
    clear hD
    go_enter Try.func3, Try.ntmps3
    go_wp2_with fail
    refine (bytes_any _ _ _ m1 m2).mono ?_
    rintro e w' ⟨r, rfl, hw⟩
    have hw := hw.symm
    subst hw
    cases r
    · go_wp2_with fail
      go_ret
      exact ⟨rfl, Grown.refl _⟩
    go_wp2_with fail
    refine (zzDom_any (a ++ b) _ hab).mono ?_
    rintro e w' ⟨rfl, hw'⟩
    subst hw'
    go_wp2_with fail
    refine (zzDom_any a _ m1).mono ?_
    rintro e w' ⟨rfl, hw'⟩
    subst hw'
    go_wp2_with fail
    refine (zzDom_any b _ m2).mono ?_
    rintro e w' ⟨rfl, hw'⟩
    subst hw'
    go_wp2_with fail
    refine (hasAt_any b _ m2).mono ?_
    rintro e w' ⟨rfl, hw'⟩
    subst hw'
    go_wp2_with fail
    refine (part_any b _ m2 hb).mono ?_
    rintro e w' ⟨rfl, hw'⟩
    subst hw'
    go_wp2
    go_ret
    exact ⟨rfl, Grown.refl _⟩
  have hb' : hasA (bl b) = false := by simpa using hb
  rw [if_neg hb] at hD
  clear hb
  have hDb := D_none b hb'
  by_cases ha : hasA (bl a) = true
  · rw [if_pos ha] at hD
    have hE : ((D (a ++ b)).toList == (D a ++ b).toList) = true := by rw [hD]; simp
    have hF : (D b).toList.isEmpty = true := by rw [hDb]; exact nothing
    have hDa : (D a).size ≤ 524288 := D_size a k1
    clear hD hDb
    go_enter Try.func3, Try.ntmps3
    go_wp2_with fail
    refine (bytes_any _ _ _ m1 m2).mono ?_
    rintro e w' ⟨r, rfl, hw⟩
    have hw := hw.symm
    subst hw
    cases r
    · go_wp2_with fail
      go_ret
      exact ⟨rfl, Grown.refl _⟩
    go_wp2_with fail
    refine (zzDom_any (a ++ b) _ hab).mono ?_
    rintro e w' ⟨rfl, hw'⟩
    subst hw'
    go_wp2_with fail
    refine (zzDom_any a _ m1).mono ?_
    rintro e w' ⟨rfl, hw'⟩
    subst hw'
    go_wp2_with fail
    refine (zzDom_any b _ m2).mono ?_
    rintro e w' ⟨rfl, hw'⟩
    subst hw'
    go_wp2_with fail
    refine (hasAt_any b _ m2).mono ?_
    rintro e w' ⟨rfl, hw'⟩
    subst hw'
    go_wp2_with fail
    refine (hasAt_any a _ m1).mono ?_
    rintro e w' ⟨rfl, hw'⟩
    subst hw'
    go_wp2_with fail
    refine (part_any a _ m1 ha).mono ?_
    rintro e w' ⟨rfl, hw'⟩
    subst hw'
    go_wp2
    go_ret
    exact ⟨rfl, Grown.refl _⟩
  · have ha' : hasA (bl a) = false := by simpa using ha
    rw [if_neg ha] at hD
    have hDa := D_none a ha'
    have hE : (D (a ++ b)).toList.isEmpty = true := by rw [hD]; exact nothing
    have hF : (D b).toList.isEmpty = true := by rw [hDb]; exact nothing
    have hG : (D a).toList.isEmpty = true := by rw [hDa]; exact nothing
    clear hD hDb hDa ha
    go_enter Try.func3, Try.ntmps3
    go_wp2_with fail
    refine (bytes_any _ _ _ m1 m2).mono ?_
    rintro e w' ⟨r, rfl, hw⟩
    have hw := hw.symm
    subst hw
    cases r
    · go_wp2_with fail
      go_ret
      exact ⟨rfl, Grown.refl _⟩
    go_wp2_with fail
    refine (zzDom_any (a ++ b) _ hab).mono ?_
    rintro e w' ⟨rfl, hw'⟩
    subst hw'
    go_wp2_with fail
    refine (zzDom_any a _ m1).mono ?_
    rintro e w' ⟨rfl, hw'⟩
    subst hw'
    go_wp2_with fail
    refine (zzDom_any b _ m2).mono ?_
    rintro e w' ⟨rfl, hw'⟩
    subst hw'
    go_wp2_with fail
    refine (hasAt_any b _ m2).mono ?_
    rintro e w' ⟨rfl, hw'⟩
    subst hw'
    go_wp2_with fail
    refine (hasAt_any a _ m1).mono ?_
    rintro e w' ⟨rfl, hw'⟩
    subst hw'
    go_wp2
    go_ret
    exact ⟨rfl, Grown.refl _⟩

end Go.Proofs.Qxb6619295a
