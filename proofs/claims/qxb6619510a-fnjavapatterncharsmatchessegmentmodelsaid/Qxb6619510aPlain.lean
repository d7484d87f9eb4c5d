/- The plain side: a pattern's characters out of its runes. -/
import Derived.Test.Qxb6619510aMem
namespace Go.Proofs.Qxb6619510a

/-- What is read from rune number i on: each character's rune, its place, whether it is quoted. -/
def jp : Bool → Nat → List Int → List (Int × Nat × Bool)
  | _, _, [] => []
  | q, i, [c] => [(c, i + 1, q)]
  | true, i, c :: d :: l => if c = 92 ∧ d = 69 then jp false (i + 2) l else (c, i + 1, true) :: jp true (i + 1) (d :: l)
  | false, i, c :: d :: l => if c = 92 then if d = 81 then jp true (i + 2) l else (92, i + 1, false) :: (d, i + 2, false) :: jp false (i + 2) l else (c, i + 1, false) :: jp false (i + 1) (d :: l)

theorem drop_one {R : List Int} {k : Nat} (h : k < R.length) : R.drop k = R.getD k 0 :: R.drop (k + 1) := by
  rw [List.drop_eq_getElem_cons h]; simp [h]

theorem drop_two {R : List Int} {k : Nat} (h : k + 1 < R.length) : R.drop k = R.getD k 0 :: R.getD (k + 1) 0 :: R.drop (k + 2) := by
  rw [drop_one (by omega), drop_one h]

theorem jp_end (q : Bool) (R : List Int) (k : Nat) (h : R.length ≤ k) : jp q k (R.drop k) = [] := by
  rw [List.drop_eq_nil_of_le h]; cases q <;> rfl

theorem jp_last (q : Bool) (R : List Int) (k : Nat) (h : k + 1 = R.length) : jp q k (R.drop k) = [(R.getD k 0, k + 1, q)] := by
  rw [drop_one (by omega), List.drop_eq_nil_of_le (by omega)]; cases q <;> rfl

theorem jp_close (R : List Int) (k : Nat) (h : k + 1 < R.length) (h1 : R.getD k 0 = 92) (h2 : R.getD (k + 1) 0 = 69) : jp true k (R.drop k) = jp false (k + 2) (R.drop (k + 2)) := by
  rw [drop_two h, jp, if_pos ⟨h1, h2⟩]

theorem jp_in (R : List Int) (k : Nat) (h : k < R.length) (hn : k + 1 < R.length → ¬ (R.getD k 0 = 92 ∧ R.getD (k + 1) 0 = 69)) : jp true k (R.drop k) = (R.getD k 0, k + 1, true) :: jp true (k + 1) (R.drop (k + 1)) := by
  by_cases h1 : k + 1 < R.length
  · rw [drop_two h1, jp, if_neg (hn h1), ← drop_one h1]
  · rw [jp_last true R k (by omega), jp_end true R (k + 1) (by omega)]

theorem jp_open (R : List Int) (k : Nat) (h : k + 1 < R.length) (h1 : R.getD k 0 = 92) (h2 : R.getD (k + 1) 0 = 81) : jp false k (R.drop k) = jp true (k + 2) (R.drop (k + 2)) := by
  rw [drop_two h, jp, if_pos h1, if_pos h2]

theorem jp_esc (R : List Int) (k : Nat) (h : k + 1 < R.length) (h1 : R.getD k 0 = 92) (h2 : R.getD (k + 1) 0 ≠ 81) :
    jp false k (R.drop k) = (92, k + 1, false) :: (R.getD (k + 1) 0, k + 2, false) :: jp false (k + 2) (R.drop (k + 2)) := by
  rw [drop_two h, jp, if_pos h1, if_neg h2]

theorem jp_plain (R : List Int) (k : Nat) (h : k < R.length) (hn : k + 1 < R.length → R.getD k 0 ≠ 92) : jp false k (R.drop k) = (R.getD k 0, k + 1, false) :: jp false (k + 1) (R.drop (k + 1)) := by
  by_cases h1 : k + 1 < R.length
  · rw [drop_two h1, jp, if_neg (hn h1), ← drop_one h1]
  · rw [jp_last false R k (by omega), jp_end false R (k + 1) (by omega)]

theorem jp_len (R : List Int) : ∀ (n : Nat) (q : Bool) (k : Nat), R.length - k ≤ n → (jp q k (R.drop k)).length ≤ R.length - k := by
  intro n
  induction n with
  | zero => intro q k h; rw [jp_end q R k (by omega)]; simp
  | succ n ih =>
    intro q k h
    by_cases h0 : R.length ≤ k
    · rw [jp_end q R k h0]; simp
    · by_cases h1 : k + 1 < R.length
      · cases q
        · by_cases h2 : R.getD k 0 = 92
          · by_cases h3 : R.getD (k + 1) 0 = 81
            · rw [jp_open R k h1 h2 h3]; have := ih true (k + 2) (by omega); omega
            · rw [jp_esc R k h1 h2 h3]; have := ih false (k + 2) (by omega); simp only [List.length_cons]; omega
          · rw [jp_plain R k (by omega) (fun _ => h2)]; have := ih false (k + 1) (by omega); simp only [List.length_cons]; omega
        · by_cases h2 : R.getD k 0 = 92 ∧ R.getD (k + 1) 0 = 69
          · rw [jp_close R k h1 h2.1 h2.2]; have := ih false (k + 2) (by omega); omega
          · rw [jp_in R k (by omega) (fun _ => h2)]; have := ih true (k + 1) (by omega); simp only [List.length_cons]; omega
      · rw [jp_last q R k (by omega)]; simp; omega

/-- Places moved up by d. -/
def up (d : Nat) (l : List (Int × Nat × Bool)) : List (Int × Nat × Bool) := l.map fun c => (c.1, c.2.1 + d, c.2.2)

theorem jp_up (d : Nat) : ∀ (n : Nat) (l : List Int) (q : Bool) (i : Nat), l.length ≤ n → jp q (i + d) l = up d (jp q i l) := by
  intro n
  induction n with
  | zero =>
    intro l q i h
    have : l = [] := List.eq_nil_of_length_eq_zero (by omega)
    subst this; cases q <;> rfl
  | succ n ih =>
    intro l q i h
    match l, q, h with
    | [], q, _ => cases q <;> rfl
    | [c], q, _ => cases q <;> simp [jp, up] <;> omega
    | c :: e :: l, true, h =>
      simp only [List.length_cons] at h
      rw [jp, jp]
      by_cases h1 : c = 92 ∧ e = 69
      · rw [if_pos h1, if_pos h1, show i + d + 2 = i + 2 + d from by omega, ih l false (i + 2) (by omega)]
      · rw [if_neg h1, if_neg h1, show i + d + 1 = i + 1 + d from by omega, ih (e :: l) true (i + 1) (by simp only [List.length_cons]; omega)]
        simp [up]
    | c :: e :: l, false, h =>
      simp only [List.length_cons] at h
      rw [jp, jp]
      by_cases h1 : c = 92
      · rw [if_pos h1, if_pos h1]
        by_cases h2 : e = 81
        · rw [if_pos h2, if_pos h2, show i + d + 2 = i + 2 + d from by omega, ih l true (i + 2) (by omega)]
        · rw [if_neg h2, if_neg h2, show i + d + 2 = i + 2 + d from by omega, ih l false (i + 2) (by omega)]
          simp [up]; omega
      · rw [if_neg h1, if_neg h1, show i + d + 1 = i + 1 + d from by omega, ih (e :: l) false (i + 1) (by simp only [List.length_cons]; omega)]
        simp [up]

/-- Plain runes, each at its own place. -/
def plainTo (R : List Int) : Nat → List (Int × Nat × Bool)
  | 0 => []
  | k + 1 => plainTo R k ++ [(R.getD k 0, k + 1, false)]

theorem plainTo_len (R : List Int) (k : Nat) : (plainTo R k).length = k := by
  induction k with
  | zero => rfl
  | succ k ih => simp [plainTo, ih]

theorem plainTo_at (R : List Int) (k j : Nat) (h : j < k) : (plainTo R k)[j]? = some (R.getD j 0, j + 1, false) := by
  induction k with
  | zero => omega
  | succ k ih =>
    unfold plainTo
    by_cases e : j = k
    · subst e
      rw [List.getElem?_append_right (by rw [plainTo_len]; omega), plainTo_len]; simp
    · rw [List.getElem?_append_left (by rw [plainTo_len]; omega)]; exact ih (by omega)

/-- Where no backslash stands before k, the whole reads as its plain head and what the rest reads. -/
theorem jp_split (R : List Int) : ∀ k, k ≤ R.length → (∀ j, j < k → R.getD j 0 ≠ 92) → jp false 0 R = plainTo R k ++ jp false k (R.drop k) := by
  intro k
  induction k with
  | zero => intro _ _; simp [plainTo]
  | succ k ih =>
    intro hk hn
    rw [ih (by omega) (fun j hj => hn j (by omega)), jp_plain R k (by omega) (fun _ => hn k (by omega)), plainTo, List.append_assoc]
    rfl

theorem jp_whole (R : List Int) (k : Nat) (hk : k ≤ R.length) (hn : ∀ j, j < k → R.getD j 0 ≠ 92) : jp false 0 R = plainTo R k ++ up k (jp false 0 (R.drop k)) := by
  rw [jp_split R k hk hn, ← jp_up k _ _ false 0 (Nat.le_refl _), Nat.zero_add]

theorem jp_head (R : List Int) (k : Nat) (hk : k ≤ R.length) (hn : ∀ j, j < k → R.getD j 0 ≠ 92) : jp false 0 (R.take k) = plainTo R k := by
  have h := jp_split (R.take k) k (by simp; omega) (fun j hj => by simp [hj]; simpa using hn j hj)
  rw [h, List.drop_eq_nil_of_le (by simp; omega)]
  have e : ∀ m, m ≤ k → plainTo (R.take k) m = plainTo R m := by
    intro m
    induction m with
    | zero => intro _; rfl
    | succ m ih =>
      intro hm
      unfold plainTo
      rw [ih (by omega)]
      simp [show m < k by omega]
  rw [e k (Nat.le_refl _)]
  simp [jp]

end Go.Proofs.Qxb6619510a
