import Derived.Test.Qxb6619295aPlain
import Derived.Lib.Strings
namespace Go.Proofs.Qxb6619295a
open Go.RowKit
set_option linter.unusedVariables false

/-- The text as a list. -/
def bl (s : ByteArray) : List UInt8 := s.data.toList
theorem bl_len (s : ByteArray) : (bl s).length = s.size := Array.length_toList
theorem bl_at (s : ByteArray) (k : Nat) (h : k < s.size) : (bl s)[k]'(by rw [bl_len]; exact h) = s[k] := by simp [bl]; rfl

theorem u8_iff (c : UInt8) : ((c.toNat : Int) == 64) = (c == 64) := by
  rw [Bool.eq_iff_iff]
  simp only [beq_iff_eq]
  constructor
  · intro h; exact UInt8.toNat_inj.1 (by show c.toNat = 64; omega)
  · rintro rfl; rfl

set_option maxHeartbeats 400000 in
theorem hasAt_any (s : ByteArray) (w : World) (hs : s.size ≤ maxLen) :
    Calls Try.prog 6 #[.string s] w fun e w' => e = .returned (.bool (hasA (bl s))) ∧ w = w' := by
  unfold maxLen at hs
  go_enter Try.func6, Try.ntmps6
  go_wp2
  go_loop [3] (fun i => ∃ k : Nat, k ≤ s.size ∧ i = .int .i64 k ∧ ∀ j (hj : j < s.size), j < k → s[j] ≠ 64) (fun i => s.size - (intOf i).toNat)
  case atStart => exact ⟨0, Nat.zero_le _, rfl, fun j hj h => absurd h (Nat.not_lt_zero _)⟩
  case round =>
    obtain ⟨k, hk, rfl, hno⟩ := hrel
    have HN : Hid (∀ j (hj : j < s.size), j < k → s[j] ≠ 64) := hno
    clear hno
    by_cases hlt : k < s.size
    · have hu := u8_iff s[k]
      by_cases h64 : s[k] = 64
      · have hb : ((s[k].toNat : Int) == 64) = true := by rw [hu]; simpa using h64
        have HA : Hid (hasA (bl s) = true) := hasA_some (bl s) k (by rw [bl_len]; exact hlt) (by rw [bl_at s k hlt]; exact h64)
        clear hu h64
        go_wp2
        go_ret
        exact ⟨by rw [HA.out]; rfl, rfl⟩
      · have hb : ((s[k].toNat : Int) == 64) = false := by rw [hu]; simpa using h64
        have HN2 : Hid (∀ j (hj : j < s.size), j < k + 1 → s[j] ≠ 64) := fun j hj hjk => by
          by_cases e : j = k
          · subst e; exact h64
          · exact HN.out j hj (by omega)
        clear hu h64
        go_wp2
        go_round
        case rel => exact ⟨k + 1, by omega, by go_num, HN2.out⟩
        case measure => simp [intOf]; omega
    · have HA : Hid (hasA (bl s) = false) := hasA_none (bl s) (fun j hj => by rw [bl_at s j (by rw [bl_len] at hj; exact hj)]; rw [bl_len] at hj; exact HN.out j hj (by omega))
      go_wp2
      go_ret
      exact ⟨by rw [HA.out]; rfl, rfl⟩

/-- What LastIndexByte answers for '@'. -/
def LI (s : ByteArray) (i : Int) : Prop := (i = -1 ∧ hasA (bl s) = false) ∨ ∃ k : Nat, ∃ h : k < s.size, i = k ∧ s[k] = 64 ∧ ∀ j (hj : j < s.size), k < j → s[j] ≠ 64

set_option maxHeartbeats 400000 in
theorem lastS_any (s : ByteArray) (w : World) (hs : s.size ≤ maxLen) :
    Calls Try.prog 10 #[.string s, .int .u8 64] w fun e w' => ∃ i, e = .returned (.int .i64 i) ∧ w = w' ∧ LI s i := by
  unfold maxLen at hs
  go_enter Try.func10, Try.ntmps10
  go_wp2
  go_loop [5] (fun i => ∃ k : Nat, k ≤ s.size ∧ i = .int .i64 ((k : Int) - 1) ∧ ∀ j (hj : j < s.size), k ≤ j → s[j] ≠ 64) (fun i => (intOf i + 1).toNat)
  case atStart => exact ⟨s.size, Nat.le_refl _, rfl, fun j hj h => absurd hj (by omega)⟩
  case round =>
    obtain ⟨k, hk, rfl, hno⟩ := hrel
    have HN : Hid (∀ j (hj : j < s.size), k ≤ j → s[j] ≠ 64) := hno
    clear hno
    by_cases h0 : 0 < k
    · obtain ⟨q, rfl⟩ : ∃ q, k = q + 1 := ⟨k - 1, by omega⟩
      have hq : q < s.size := by omega
      rw [show (((q + 1 : Nat) : Int) - 1) = (q : Int) from by omega]
      have hu := u8_iff s[q]
      by_cases h64 : s[q] = 64
      · have hb : ((s[q].toNat : Int) == 64) = true := by rw [hu]; simpa using h64
        have HA : Hid (LI s q) := .inr ⟨q, hq, rfl, h64, fun j hj hjq => HN.out j hj (by omega)⟩
        clear hu h64
        go_wp2
        go_ret
        exact ⟨_, rfl, rfl, HA.out⟩
      · have hb : ((s[q].toNat : Int) == 64) = false := by rw [hu]; simpa using h64
        have HN2 : Hid (∀ j (hj : j < s.size), q ≤ j → s[j] ≠ 64) := fun j hj hjk => by
          by_cases e : j = q
          · subst e; exact h64
          · exact HN.out j hj (by omega)
        clear hu h64
        go_wp2
        go_round
        case rel => exact ⟨q, by omega, rfl, HN2.out⟩
        case measure => simp [intOf]
    · have hk0 : k = 0 := by omega
      subst hk0
      have HA : Hid (hasA (bl s) = false) := hasA_none (bl s) (fun j hj => by rw [bl_at s j (by rw [bl_len] at hj; exact hj)]; rw [bl_len] at hj; exact HN.out j hj (by omega))
      go_wp2
      go_ret
      exact ⟨_, rfl, rfl, .inl ⟨rfl, HA.out⟩⟩

/-- The domain, as a text. -/
def D (s : ByteArray) : ByteArray := ⟨(dom (bl s)).toArray⟩
theorem bl_D (s : ByteArray) : bl (D s) = dom (bl s) := by simp [bl, D]
theorem ext_bl {a b : ByteArray} (h : bl a = bl b) : a = b := by
  cases a; cases b; simp [bl] at h; rw [h]

theorem D_none (s : ByteArray) (h : hasA (bl s) = false) : D s = ⟨#[]⟩ := by
  apply ext_bl; rw [bl_D, dom_none _ h]; rfl

theorem D_at (s : ByteArray) (k : Nat) (h : k < s.size) (h64 : s[k] = 64) (hn : ∀ j (hj : j < s.size), k < j → s[j] ≠ 64) : D s = s.extract (k + 1) s.size ∧ hasA (bl (s.extract (k + 1) s.size)) = false ∧ hasA (bl s) = true := by
  have hl := bl_len s
  have hd := dom_at (bl s) k (by omega) (by rw [bl_at s k h]; exact h64) (fun j hj hkj => by rw [bl_at s j (by omega)]; exact hn j (by omega) hkj)
  have hx : bl (s.extract (k + 1) s.size) = (bl s).drop (k + 1) := by
    unfold bl
    rw [Lib.extract_data]
    rw [List.take_of_length_le]
    rw [List.length_drop, Array.length_toList]; exact Nat.le_refl _
  refine ⟨?_, ?_, hd.2.2⟩
  · apply ext_bl; rw [bl_D, hd.1, hx]
  · rw [hx]; exact hd.2.1

set_option maxHeartbeats 400000 in
theorem last_any (s : ByteArray) (w : World) (hs : s.size ≤ maxLen) :
    Calls Try.prog 9 #[.string s, .int .u8 64] w fun e w' => ∃ i, e = .returned (.int .i64 i) ∧ w = w' ∧ LI s i := by
  go_enter Try.func9, Try.ntmps9
  go_wp2_with (go_at_call 10; refine (lastS_any s _ hs).mono ?_; rintro e w' ⟨i, rfl, rfl, hL⟩)
  go_ret
  exact ⟨i, rfl, rfl, hL⟩

theorem ret_bool {a b : Bool} (h : a = b) : Ending.returned (.bool a) = .returned (.bool b) := by rw [h]

/-- Where there is an '@' there is a last one. -/
theorem last_of (s : ByteArray) (h : hasA (bl s) = true) : ∃ (k : Nat) (hk : k < s.size), s[k] = 64 ∧ ∀ j (hj : j < s.size), k < j → s[j] ≠ 64 := by
  have key : ∀ n, n ≤ s.size → (∀ j (hj : j < s.size), n ≤ j → s[j] ≠ 64) ∨ ∃ (k : Nat) (hk : k < s.size), s[k] = 64 ∧ ∀ j (hj : j < s.size), k < j → s[j] ≠ 64 := by
    intro n hn
    obtain ⟨m, rfl⟩ : ∃ m, n = s.size - m := ⟨s.size - n, by omega⟩
    clear hn
    induction m with
    | zero => exact .inl fun j hj h => absurd hj (by omega)
    | succ m ih =>
      rcases ih with ih | ih
      · by_cases hm : m < s.size
        · by_cases e : s[s.size - (m + 1)]'(by omega) = 64
          · exact .inr ⟨s.size - (m + 1), by omega, e, fun j hj hk => ih j hj (by omega)⟩
          · refine .inl fun j hj hk => ?_
            by_cases e2 : j = s.size - (m + 1)
            · subst e2; exact e
            · exact ih j hj (by omega)
        · exact .inl fun j hj hk => ih j hj (by omega)
      · exact .inr ih
  rcases key 0 (Nat.zero_le _) with h0 | h0
  · exfalso
    have := hasA_none (bl s) (fun j hj => by rw [bl_at s j (by rw [bl_len] at hj; exact hj)]; exact h0 j (by rw [bl_len] at hj; exact hj) (Nat.zero_le _))
    rw [this] at h; cases h
  · exact h0

theorem ret_str {a b : ByteArray} (h : a = b) : Ending.returned (.string a) = .returned (.string b) := by rw [h]

set_option maxHeartbeats 400000 in
theorem dom_any (s : ByteArray) (w : World) (hs : s.size ≤ maxLen) :
    Calls Try.prog 8 #[.string s] w fun e w' => e = .returned (.string (D s)) ∧ w = w' := by
  go_enter Try.func8, Try.ntmps8
  go_wp2_with fail
  refine (last_any s _ hs).mono ?_
  rintro e w' ⟨i, rfl, rfl, hL⟩
  rcases hL with ⟨rfl, hA⟩ | ⟨k, hk, rfl, h64, hn⟩
  · have HD : Hid (D s = ⟨#[]⟩) := D_none s hA
    clear hA
    go_wp2
    go_ret
    exact ⟨by rw [HD.out]; rfl, rfl⟩
  · have HD : Hid (D s = s.extract (k + 1) s.size) := (D_at s k hk h64 hn).1
    clear h64 hn
    unfold maxLen at hs
    go_wp2
    go_ret
    exact ⟨by rw [HD.out]; rfl, rfl⟩

set_option maxHeartbeats 400000 in
theorem zzDom_any (s : ByteArray) (w : World) (hs : s.size ≤ maxLen) :
    Calls Try.prog 5 #[.string s] w fun e w' => e = .returned (.string (D s)) ∧ w = w' := by
  go_enter Try.func5, Try.ntmps5
  go_wp2_with (go_at_call 8; refine (dom_any s _ hs).mono ?_; rintro e w' ⟨rfl, rfl⟩)
  go_ret
  exact ⟨rfl, rfl⟩

set_option maxHeartbeats 400000 in
theorem bytes_any (a b : ByteArray) (w : World) (h1 : a.size ≤ maxLen) (h2 : b.size ≤ maxLen) :
    Calls Try.prog 4 #[.string a, .string b] w fun e w' => ∃ r, e = .returned (.bool r) ∧ w' = w := by
  unfold maxLen at h1 h2
  go_enter Try.func4, Try.ntmps4
  go_wp2
  all_goals (go_ret; exact ⟨_, rfl, rfl⟩)

/-- The part behind the last '@' is a domain part. -/
theorem part_k (s : ByteArray) (k : Nat) (w : World) (hs : s.size ≤ maxLen) (hk : k < s.size) (h64 : s[k] = 64) (hA : hasA (bl (s.extract (k + 1) s.size)) = false) :
    Calls Try.prog 7 #[.string s, .string (s.extract (k + 1) s.size)] w fun e w' => e = .returned (.bool true) ∧ w = w' := by
  have hsz : (s.extract (k + 1) s.size).size = s.size - (k + 1) := by simp [ByteArray.size_extract]
  obtain ⟨t, ht⟩ : ∃ t, t = s.extract (k + 1) s.size := ⟨_, rfl⟩
  rw [← ht] at hA hsz ⊢
  have htm : t.size ≤ maxLen := by omega
  have hk1 : t.size < s.size := by omega
  have hk2 : s.size - t.size - 1 < s.size := by omega
  have hkk : s.size - t.size - 1 = k := by omega
  have hch : ((s[s.size - t.size - 1].toNat : Int) != 64) = false := by
    have e : s[s.size - t.size - 1] = 64 := by simp only [hkk]; exact h64
    rw [e]; rfl
  have HF : Hid (((s.extract (s.size - t.size) s.size).toList == t.toList) = true) := by
    have e : s.size - t.size = k + 1 := by omega
    show ((s.extract (s.size - t.size) s.size).toList == t.toList) = true
    rw [e, ← ht]; simp
  unfold maxLen at hs
  clear ht hsz hkk h64
  go_enter Try.func7, Try.ntmps7
  go_wp2_with fail
  refine (hasAt_any t _ htm).mono ?_
  rintro e w' ⟨rfl, rfl⟩
  go_wp2
  go_ret
  exact ⟨ret_bool HF.out, rfl⟩

theorem part_any (s : ByteArray) (w : World) (hs : s.size ≤ maxLen) (h : hasA (bl s) = true) :
    Calls Try.prog 7 #[.string s, .string (D s)] w fun e w' => e = .returned (.bool true) ∧ w = w' := by
  obtain ⟨k, hk, h64, hn⟩ := last_of s h
  obtain ⟨e1, e2, _⟩ := D_at s k hk h64 hn
  rw [e1]
  exact part_k s k w hs hk h64 e2

end Go.Proofs.Qxb6619295a
