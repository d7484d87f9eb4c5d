/- The plain side: words, bits, lists of entries. -/
import Derived.Test.Qxb6618472aMem
import Derived.Laws.BitsAllLaws
namespace Go.Proofs.Qxb6618472a
open Go.RowKit

/-- Is the bit of process j set in the word x? -/
def knw (x : Int) (j : Nat) : Bool := bits .and .u64 x (IntKind.u64.wrap (2 ^ (j % 64))) != 0
/-- The word x with the bit of process j set. -/
def orb (x : Int) (j : Nat) : Int := bits .or .u64 x (IntKind.u64.wrap (2 ^ (j % 64)))

/-- Each word fits. -/
def Fits (K : List Int) : Prop := ∀ i, 0 ≤ K.getD i 0 ∧ K.getD i 0 < 18446744073709551616

theorem pow_lt (j : Nat) : 2 ^ (j % 64) < 18446744073709551616 := by
  have h : j % 64 < 64 := Nat.mod_lt _ (by omega)
  calc 2 ^ (j % 64) < 2 ^ 64 := Nat.pow_lt_pow_right (by omega) h
    _ = 18446744073709551616 := rfl

theorem wrap_pow (j : Nat) : IntKind.u64.wrap (2 ^ (j % 64)) = ((2 ^ (j % 64) : Nat) : Int) := by
  rw [IntKind.wrap_u64]
  have h := pow_lt j
  have e : ((2 : Int) ^ (j % 64)) = ((2 ^ (j % 64) : Nat) : Int) := by simp
  rw [e]
  generalize 2 ^ (j % 64) = q at *
  exact Int.emod_eq_of_lt (Int.natCast_nonneg _) (by omega)

theorem knw_eq (x : Int) (j : Nat) (h0 : 0 ≤ x) (h1 : x < 18446744073709551616) : knw x j = x.toNat.testBit (j % 64) := by
  unfold knw
  rw [wrap_pow, u64_and x _ h0 h1 (Int.natCast_nonneg _) (by have := pow_lt j; exact Int.ofNat_lt.2 this)]
  rw [Int.toNat_natCast, nat_bit]
  rw [Nat.testBit_eq_decide_div_mod_eq]
  have hp : 0 < 2 ^ (j % 64) := Nat.two_pow_pos _
  generalize 2 ^ (j % 64) = q at *
  by_cases h : x.toNat / q % 2 = 1
  · rw [h]; simp; omega
  · have h0 : x.toNat / q % 2 = 0 := by omega
    rw [h0]; simp

theorem orb_eq (x : Int) (j : Nat) (h0 : 0 ≤ x) (h1 : x < 18446744073709551616) : orb x j = ((x.toNat ||| 2 ^ (j % 64) : Nat) : Int) := by
  unfold orb
  rw [wrap_pow, u64_or x _ h0 h1 (Int.natCast_nonneg _) (by have := pow_lt j; exact Int.ofNat_lt.2 this), Int.toNat_natCast]

theorem orb_fits (x : Int) (j : Nat) (h0 : 0 ≤ x) (h1 : x < 18446744073709551616) : 0 ≤ orb x j ∧ orb x j < 18446744073709551616 := by
  rw [orb_eq x j h0 h1]
  have : x.toNat ||| 2 ^ (j % 64) < 2 ^ 64 := Nat.or_lt_two_pow (by omega) (pow_lt j)
  omega

theorem knw_orb (x : Int) (j : Nat) (h0 : 0 ≤ x) (h1 : x < 18446744073709551616) : knw (orb x j) j = true := by
  have hf := orb_fits x j h0 h1
  rw [knw_eq _ _ hf.1 hf.2, orb_eq x j h0 h1, Int.toNat_natCast]
  simp [Nat.testBit_or, Nat.testBit_two_pow_self]

theorem orb_of_knw (x : Int) (j : Nat) (h0 : 0 ≤ x) (h1 : x < 18446744073709551616) (h : knw x j = true) : orb x j = x := by
  rw [knw_eq x j h0 h1] at h
  rw [orb_eq x j h0 h1]
  have : x.toNat ||| 2 ^ (j % 64) = x.toNat := by
    apply Nat.eq_of_testBit_eq
    intro i
    rw [Nat.testBit_or, Nat.testBit_two_pow]
    by_cases e : j % 64 = i
    · subst e; simp [h]
    · simp [e]
  rw [this]
  omega

/-- The other way to ask for the bit. -/
theorem shr_knw (x : Int) (j : Nat) (h0 : 0 ≤ x) (h1 : x < 18446744073709551616) : (bits .and .u64 (x / 2 ^ (j % 64)) 1 == 0) = !knw x j := by
  rw [knw_eq x j h0 h1]
  have e : x / 2 ^ (j % 64) = ((x.toNat / 2 ^ (j % 64) : Nat) : Int) := by
    have : (2 : Int) ^ (j % 64) = ((2 ^ (j % 64) : Nat) : Int) := by simp
    rw [this]
    conv => lhs; rw [show x = ((x.toNat : Nat) : Int) from by omega]
    simp
  have hlt : x.toNat / 2 ^ (j % 64) < 18446744073709551616 := Nat.lt_of_le_of_lt (Nat.div_le_self _ _) (by omega)
  rw [e, show (1 : Int) = ((1 : Nat) : Int) from rfl, u64_and_nat _ 1 hlt (by omega), nat_mask1, Nat.testBit_eq_decide_div_mod_eq]
  by_cases h : x.toNat / 2 ^ (j % 64) % 2 = 1
  · rw [h]; simp
  · have h0 : x.toNat / 2 ^ (j % 64) % 2 = 0 := by omega
    rw [h0]; simp

/-- The entries that are not known to j, of the first k; 'skip' is left out. -/
def ent (C K : List Int) (wd j : Nat) (skip : Int) : Nat → List (Nat × Int)
  | 0 => []
  | k + 1 => ent C K wd j skip k ++ if (k : Int) ≠ skip ∧ knw (K.getD (k * wd + j / 64) 0) j = false then [(k, C.getD k 0)] else []

theorem ent_len (C K : List Int) (wd j : Nat) (skip : Int) (k : Nat) : (ent C K wd j skip k).length ≤ k := by
  induction k with
  | zero => simp [ent]
  | succ k ih => simp only [ent, List.length_append]; split <;> simp <;> omega

/-- Entries as cells. -/
def flat (l : List (Nat × Int)) : List Value := l.flatMap fun e => [.int .i64 e.1, .int .u64 e.2]

theorem flat_snoc (l : List (Nat × Int)) (e : Nat × Int) : flat (l ++ [e]) = flat l ++ [.int .i64 e.1, .int .u64 e.2] := by simp [flat]
theorem flat_len (l : List (Nat × Int)) : (flat l).length = l.length * 2 := by
  induction l with
  | nil => rfl
  | cons a l ih => simp only [flat, List.flatMap_cons, List.length_append] at *; rw [ih]; simp; omega

theorem flat_at0 (l : List (Nat × Int)) (i : Nat) (h : i < l.length) : (flat l)[i * 2]? = some (.int .i64 (l[i].1 : Nat)) := by
  induction l generalizing i with
  | nil => simp at h
  | cons a l ih =>
    cases i with
    | zero => simp [flat]
    | succ i =>
      have : flat (a :: l) = .int .i64 a.1 :: .int .u64 a.2 :: flat l := by simp [flat]
      rw [this, show (i + 1) * 2 = i * 2 + 1 + 1 from by omega]
      simp only [List.getElem?_cons_succ, List.getElem_cons_succ]
      exact ih i (by simpa using h)

theorem flat_at1 (l : List (Nat × Int)) (i : Nat) (h : i < l.length) : (flat l)[i * 2 + 1]? = some (.int .u64 (l[i].2)) := by
  induction l generalizing i with
  | nil => simp at h
  | cons a l ih =>
    cases i with
    | zero => simp [flat]
    | succ i =>
      have : flat (a :: l) = .int .i64 a.1 :: .int .u64 a.2 :: flat l := by simp [flat]
      rw [this, show (i + 1) * 2 + 1 = i * 2 + 1 + 1 + 1 from by omega]
      simp only [List.getElem?_cons_succ, List.getElem_cons_succ]
      exact ih i (by simpa using h)

/-- The matrix with the bit of j set in the first k columns. -/
def upd (K : List Int) (wd j k : Nat) : List Int := K.mapIdx fun i x => if i < k * wd ∧ i % wd = j / 64 then orb x j else x

theorem upd_len (K : List Int) (wd j k : Nat) : (upd K wd j k).length = K.length := by simp [upd]

theorem upd_at (K : List Int) (wd j k i : Nat) (h : i < K.length) : (upd K wd j k).getD i 0 = if i < k * wd ∧ i % wd = j / 64 then orb (K.getD i 0) j else K.getD i 0 := by
  simp [upd, List.getD_eq_getElem?_getD, h]

theorem upd_zero (K : List Int) (wd j : Nat) : upd K wd j 0 = K := by
  apply List.ext_getElem?
  intro i
  simp [upd, List.getElem?_mapIdx]

theorem col_mod (wd k q : Nat) (hq : q < wd) : (k * wd + q) % wd = q := by
  rw [Nat.add_comm, Nat.add_mul_mod_self_right]; exact Nat.mod_eq_of_lt hq

/-- A column below k + 1 of row q that is not below k is the column k. -/
theorem col_new (wd k q i : Nat) (h1 : i < (k + 1) * wd) (h2 : ¬ i < k * wd) (h3 : i % wd = q) : i = k * wd + q := by
  obtain ⟨d, rfl⟩ : ∃ d, i = k * wd + d := ⟨i - k * wd, by omega⟩
  have : d < wd := by rw [Nat.add_mul] at h1; omega
  rw [col_mod wd k d this] at h3
  omega

/-- The column k stands as it stood till round k. -/
theorem upd_own (K : List Int) (wd j k : Nat) (h : k * wd + j / 64 < K.length) : (upd K wd j k).getD (k * wd + j / 64) 0 = K.getD (k * wd + j / 64) 0 := by
  rw [upd_at _ _ _ _ _ h, if_neg (by omega)]

theorem upd_succ (K : List Int) (wd j k : Nat) (hq : j / 64 < wd) (h : k * wd + j / 64 < K.length) :
    upd K wd j (k + 1) = (upd K wd j k).set (k * wd + j / 64) (orb (K.getD (k * wd + j / 64) 0) j) := by
  apply List.ext_getElem?
  intro i
  rw [List.getElem?_set]
  by_cases hi : i < K.length
  · have g : ∀ k', (upd K wd j k')[i]? = some (if i < k' * wd ∧ i % wd = j / 64 then orb (K.getD i 0) j else K.getD i 0) := by
      intro k'; simp [upd, hi]
    rw [g, g]
    by_cases e : k * wd + j / 64 = i
    · subst e
      rw [if_pos rfl, upd_len, if_pos h, if_pos ⟨by rw [Nat.add_mul]; omega, col_mod wd k _ hq⟩]
    · rw [if_neg e]
      congr 1
      by_cases c1 : i < k * wd ∧ i % wd = j / 64
      · rw [if_pos c1, if_pos ⟨by rw [Nat.add_mul]; omega, c1.2⟩]
      · rw [if_neg c1, if_neg]
        rintro ⟨a, b⟩
        exact e (col_new wd k _ i a (fun z => c1 ⟨z, b⟩) b).symm
  · have : ¬ (k * wd + j / 64 = i) := by omega
    rw [if_neg this]
    simp [upd, hi]

theorem set_self (K : List Int) (i : Nat) : K.set i (K.getD i 0) = K := by
  apply List.ext_getElem?
  intro n
  rw [List.getElem?_set]
  by_cases e : i = n
  · subst e
    by_cases h : i < K.length
    · simp [h]
    · simp [h]
  · simp [e]

/-- Where the bit is set already the column's round changes nothing. -/
theorem upd_known (K : List Int) (wd j k : Nat) (hq : j / 64 < wd) (h : k * wd + j / 64 < K.length) (hK : Fits K) (hk : knw (K.getD (k * wd + j / 64) 0) j = true) :
    upd K wd j (k + 1) = upd K wd j k := by
  rw [upd_succ K wd j k hq h, orb_of_knw _ _ (hK _).1 (hK _).2 hk, ← upd_own K wd j k h, set_self]

/-- Once each bit is set nothing is left to tell. -/
theorem ent_upd (C K : List Int) (wd j n : Nat) (hq : j / 64 < wd) (hK : Fits K) (hn : n * wd ≤ K.length) : ∀ k, k ≤ n → ent C (upd K wd j n) wd j (-1) k = [] := by
  intro k
  induction k with
  | zero => intro _; rfl
  | succ k ih =>
    intro hk
    have hin : k * wd + j / 64 < n * wd := by
      have : (k + 1) * wd ≤ n * wd := Nat.mul_le_mul_right _ hk
      rw [Nat.add_mul] at this; omega
    simp only [ent, ih (by omega)]
    have e := upd_at K wd j n (k * wd + j / 64) (by omega)
    rw [if_pos ⟨hin, col_mod wd k _ hq⟩] at e
    rw [e, knw_orb _ _ (hK _).1 (hK _).2]
    simp

/-- Where one bit has been set, that entry alone is left out. -/
theorem ent_drop (C K : List Int) (wd j d : Nat) (hq : j / 64 < wd) (hK : Fits K) (hd : d * wd + j / 64 < K.length) : ∀ k, ent C (K.set (d * wd + j / 64) (orb (K.getD (d * wd + j / 64) 0) j)) wd j (-1) k = ent C K wd j d k := by
  intro k
  induction k with
  | zero => rfl
  | succ k ih =>
    simp only [ent, ih]
    congr 1
    by_cases e : k = d
    · subst e
      have : (K.set (k * wd + j / 64) (orb (K.getD (k * wd + j / 64) 0) j)).getD (k * wd + j / 64) 0 = orb (K.getD (k * wd + j / 64) 0) j := by
        rw [List.getD_eq_getElem?_getD, List.getElem?_set]; simp [hd]
      rw [this, knw_orb _ _ (hK _).1 (hK _).2]
      simp
    · have hne : d * wd + j / 64 ≠ k * wd + j / 64 := by
        intro c
        have c1 : d * wd = k * wd := by omega
        exact e (Nat.eq_of_mul_eq_mul_right (by omega) c1).symm
      have : (K.set (d * wd + j / 64) (orb (K.getD (d * wd + j / 64) 0) j)).getD (k * wd + j / 64) 0 = K.getD (k * wd + j / 64) 0 := by
        rw [List.getD_eq_getElem?_getD, List.getElem?_set, if_neg hne, List.getD_eq_getElem?_getD]
      rw [this]
      have h1 : ((k : Int) ≠ -1) := by omega
      have h2 : ((k : Int) ≠ (d : Int)) := by omega
      simp [h1, h2]

end Go.Proofs.Qxb6618472a
