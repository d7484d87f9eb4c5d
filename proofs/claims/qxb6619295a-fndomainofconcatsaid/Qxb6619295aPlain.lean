/- The plain side: the last '@' of a text, and what stands behind it. -/
import Derived.Test.Qxb6619295aRows
import Derived.WalkKit
import Derived.ProofKit
import Derived.WalkSpells
import Derived.WalkLawsBesides
namespace Go.Proofs.Qxb6619295a

/-- Does the text hold an '@'? -/
def hasA (l : List UInt8) : Bool := l.any (· == 64)

/-- What stands behind the last '@'; nothing where there is none. -/
def dom : List UInt8 → List UInt8
  | [] => []
  | c :: l => if hasA l then dom l else if c == 64 then l else []

theorem hasA_append (a b : List UInt8) : hasA (a ++ b) = (hasA a || hasA b) := by simp [hasA]

theorem dom_none (l : List UInt8) (h : hasA l = false) : dom l = [] := by
  induction l with
  | nil => rfl
  | cons c l ih =>
    simp [hasA] at h
    have h2 : hasA l = false := by simp [hasA]; exact h.2
    simp [dom, h2, h.1]

theorem dom_append (a b : List UInt8) : dom (a ++ b) = if hasA b then dom b else if hasA a then dom a ++ b else [] := by
  induction a with
  | nil =>
    by_cases hb : hasA b = true
    · simp [hb]
    · have hb' : hasA b = false := by simpa using hb
      have h0 : hasA [] = false := rfl
      simp [hb', dom_none b hb', h0]
  | cons c a ih =>
    simp only [List.cons_append, dom, hasA_append]
    by_cases hb : hasA b = true
    · simp [hb, ih]
    · have hb' : hasA b = false := by simpa using hb
      by_cases ha : hasA a = true
      · have hc : hasA (c :: a) = true := by simp [hasA] at ha ⊢; exact .inr ha
        simp [hb', ha, ih, hc]
      · have ha' : hasA a = false := by simpa using ha
        by_cases h64 : c = 64
        · have hc : hasA (c :: a) = true := by simp [hasA, h64]
          subst h64
          simp [hb', ha', hc]
        · have hc : hasA (c :: a) = false := by simp [hasA] at ha' ⊢; exact ⟨h64, ha'⟩
          simp [hb', ha', hc, h64]

/-- Where the last '@' stands at i, what stands behind it. -/
theorem dom_at (l : List UInt8) (i : Nat) (hi : i < l.length) (h : l[i] = 64) (hn : ∀ k (hk : k < l.length), i < k → l[k] ≠ 64) : dom l = l.drop (i + 1) ∧ hasA (l.drop (i + 1)) = false ∧ hasA l = true := by
  have h1 : hasA (l.drop (i + 1)) = false := by
    simp only [hasA, List.any_eq_false]
    intro x hx
    obtain ⟨j, hj, rfl⟩ := List.getElem_of_mem hx
    simp only [List.getElem_drop]
    simp only [List.length_drop] at hj
    simpa using hn (i + 1 + j) (by omega) (by omega)
  have hsplit : l = l.take i ++ (64 :: l.drop (i + 1)) := by
    rw [← h, ← List.drop_eq_getElem_cons hi, List.take_append_drop]
  refine ⟨?_, h1, ?_⟩
  · conv => lhs; rw [hsplit]
    rw [dom_append]
    have h2 : hasA (64 :: l.drop (i + 1)) = true := by simp [hasA]
    rw [if_pos h2]
    simp [dom, h1]
  · rw [hsplit, hasA_append]; simp [hasA]

theorem hasA_none (l : List UInt8) (h : ∀ k (hk : k < l.length), l[k] ≠ 64) : hasA l = false := by
  simp only [hasA, List.any_eq_false]
  intro x hx
  obtain ⟨j, hj, rfl⟩ := List.getElem_of_mem hx
  simpa using h j hj

theorem hasA_some (l : List UInt8) (i : Nat) (hi : i < l.length) (h : l[i] = 64) : hasA l = true := by
  simp only [hasA, List.any_eq_true]
  exact ⟨l[i], List.getElem_mem hi, by simp [h]⟩

end Go.Proofs.Qxb6619295a
