import Derived.Test.Qxb6619510aZz
import Derived.Deep.QuietTactic
import Derived.BigQuiet
namespace Go.Proofs.Qxb6619510a
open Go.RowKit
set_option linter.unusedVariables false

set_option maxHeartbeats 400000 in
theorem bytesS_any (s : ByteArray) (k : Int) (w : World) (h1 : s.size ≤ maxLen) :
    Calls Try.prog 9 #[.string s, .int .i64 k] w fun e w' => ∃ r, e = .returned (.bool r) ∧ w' = w := by
  unfold maxLen at h1
  go_enter Try.func9, Try.ntmps9
  go_wp2
  all_goals (go_ret; exact ⟨_, rfl, rfl⟩)

theorem adr (g o j : Nat) : (⟨g, o, none⟩ : Addr).add j = ⟨g, o + j, none⟩ := by unfold Addr.add; split <;> simp_all

/-- What the law answers. -/
def Yes (w : World) (e : Ending) (w' : World) : Prop := e = .returned (.bool true) ∧ w.grownBy w' none

theorem good_take (s : ByteArray) (k : Nat) : ∀ r ∈ (rn s).take k, Good r := fun r hr => rn_good s r (List.mem_of_mem_take hr)
theorem good_drop (s : ByteArray) (k : Nat) : ∀ r ∈ (rn s).drop k, Good r := fun r hr => rn_good s r (List.mem_of_mem_drop hr)

/-- ZZ of runes written out. -/
theorem zz_runes (ns : List Int) (w : World) (hg : ∀ r ∈ ns, Good r) (hn : ns.length ≤ 1048576) :
    Calls Try.prog 6 #[.string (runesBytes ns)] w fun e w' => ∃ v1 v2 v3, e = .returned (.tuple #[v1, v2, v3]) ∧ Tr3 w' w.heap.size v1 v2 v3 (jp false 0 ns) ∧ w.grownBy w' none := by
  have hsz := runesBytes_size_le ns
  have h := zz_any (runesBytes ns) w (by omega)
  rw [trip ns hg] at h
  exact h

/-- Each place is at most the number of runes. -/
theorem jp_place : ∀ (n : Nat) (l : List Int) (q : Bool) (i : Nat), l.length ≤ n → ∀ c ∈ jp q i l, c.2.1 ≤ i + l.length := by
  intro n
  induction n with
  | zero =>
    intro l q i h c hc
    have : l = [] := List.eq_nil_of_length_eq_zero (by omega)
    subst this; cases q <;> simp [jp] at hc
  | succ n ih =>
    intro l q i h c hc
    match l, q, h with
    | [], q, _ => cases q <;> simp [jp] at hc
    | [a], q, _ => cases q <;> simp [jp] at hc <;> subst hc <;> simp
    | a :: e :: l, true, h =>
      simp only [List.length_cons] at h ⊢
      rw [jp] at hc
      by_cases h1 : a = 92 ∧ e = 69
      · rw [if_pos h1] at hc
        have := ih l false (i + 2) (by omega) c hc; omega
      · rw [if_neg h1] at hc
        rcases List.mem_cons.1 hc with rfl | hc
        · simp
        · have := ih (e :: l) true (i + 1) (by simp only [List.length_cons]; omega) c hc
          simp only [List.length_cons] at this; omega
    | a :: e :: l, false, h =>
      simp only [List.length_cons] at h ⊢
      rw [jp] at hc
      by_cases h1 : a = 92
      · rw [if_pos h1] at hc
        by_cases h2 : e = 81
        · rw [if_pos h2] at hc
          have := ih l true (i + 2) (by omega) c hc; omega
        · rw [if_neg h2] at hc
          rcases List.mem_cons.1 hc with rfl | hc
          · simp
          · rcases List.mem_cons.1 hc with rfl | hc
            · simp
            · have := ih l false (i + 2) (by omega) c hc; omega
      · rw [if_neg h1] at hc
        rcases List.mem_cons.1 hc with rfl | hc
        · simp
        · have := ih (e :: l) false (i + 1) (by simp only [List.length_cons]; omega) c hc
          simp only [List.length_cons] at this; omega

theorem place_le {L : List (Int × Nat × Bool)} {l : List Int} (h : L = jp false 0 l) {j : Nat} (hj : j < L.length) : (L.getD j (0, 0, false)).2.1 ≤ l.length := by
  have hm : L[j] ∈ jp false 0 l := by rw [← h]; exact List.getElem_mem hj
  have := jp_place _ l false 0 (Nat.le_refl _) _ hm
  rw [List.getD_eq_getElem?_getD, List.getElem?_eq_getElem hj]
  simp only [Option.getD_some]
  omega

theorem list_cells (L : List (Int × Nat × Bool)) (j : Nat) (h : j < L.length) : (fR L)[j]? = some (.int .i32 (L.getD j (0, 0, false)).1) ∧ (fA L)[j]? = some (.int .i64 ((L.getD j (0, 0, false)).2.1 : Nat)) ∧ (fQ L)[j]? = some (.bool (L.getD j (0, 0, false)).2.2) := by
  simp [fR, fA, fQ, h]

theorem plain_cells (R : List Int) (k j : Nat) (h : j < k) : (fR (plainTo R k))[j]? = some (.int .i32 (R.getD j 0)) ∧ (fA (plainTo R k))[j]? = some (.int .i64 ((j : Int) + 1)) ∧ (fQ (plainTo R k))[j]? = some (.bool false) := by
  have := plainTo_at R k j h
  simp only [fR, fA, fQ, List.getElem?_map, this, Option.map_some]
  refine ⟨?_, ?_, ?_⟩ <;> simp

theorem whole_cells (R : List Int) (k : Nat) (U : List (Int × Nat × Bool)) (j : Nat) (h : j < k) : (fR (plainTo R k ++ U))[j]? = some (.int .i32 (R.getD j 0)) ∧ (fA (plainTo R k ++ U))[j]? = some (.int .i64 ((j : Int) + 1)) ∧ (fQ (plainTo R k ++ U))[j]? = some (.bool false) := by
  have := plainTo_at R k j h
  have h2 : (plainTo R k ++ U)[j]? = some (R.getD j 0, j + 1, false) := by rw [List.getElem?_append_left (by rw [plainTo_len]; exact h)]; exact this
  simp only [fR, fA, fQ, List.getElem?_map, h2, Option.map_some]
  refine ⟨?_, ?_, ?_⟩ <;> simp

theorem up_cells (R : List Int) (k : Nat) (L : List (Int × Nat × Bool)) (j : Nat) (h : j < L.length) : (fR (plainTo R k ++ up k L))[k + j]? = some (.int .i32 (L.getD j (0, 0, false)).1) ∧
    (fA (plainTo R k ++ up k L))[k + j]? = some (.int .i64 (((L.getD j (0, 0, false)).2.1 : Int) + (k : Int))) ∧ (fQ (plainTo R k ++ up k L))[k + j]? = some (.bool (L.getD j (0, 0, false)).2.2) := by
  have h2 : (plainTo R k ++ up k L)[k + j]? = some ((L.getD j (0, 0, false)).1, (L.getD j (0, 0, false)).2.1 + k, (L.getD j (0, 0, false)).2.2) := by
    rw [List.getElem?_append_right (by rw [plainTo_len]; omega), plainTo_len, show k + j - k = j from by omega]
    simp [up, h]
  simp only [fR, fA, fQ, List.getElem?_map, h2, Option.map_some]
  refine ⟨?_, ?_, ?_⟩ <;> simp

end Go.Proofs.Qxb6619510a
