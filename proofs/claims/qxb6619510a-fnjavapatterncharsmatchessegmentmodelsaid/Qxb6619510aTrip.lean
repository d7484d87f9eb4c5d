import Derived.Test.Qxb6619510aRunes
namespace Go.Proofs.Qxb6619510a

theorem get_of {s : ByteArray} {k : Nat} {x : UInt8} (h : s.data.toList[k]? = some x) : s.get! k = x := by
  have h2 : s.data[k]? = some x := by simpa using h
  show s.data[k]! = x
  rw [getElem!_def, h2]

theorem tn (n : Nat) : (UInt8.ofNat n).toNat = n % 256 := by simp

/-- One rune's bytes. -/
def eb (r : Int) : List UInt8 := (Utf8.encode r).data.toList

theorem eb_cases (r : Int) (h : Good r) : (r < 128 ∧ eb r = [UInt8.ofNat r.toNat]) ∨
    (128 ≤ r ∧ r < 2048 ∧ eb r = [UInt8.ofNat (192 + r.toNat / 64), UInt8.ofNat (128 + r.toNat % 64)]) ∨
    (2048 ≤ r ∧ r < 65536 ∧ eb r = [UInt8.ofNat (224 + r.toNat / 4096), UInt8.ofNat (128 + r.toNat / 64 % 64), UInt8.ofNat (128 + r.toNat % 64)]) ∨
    (65536 ≤ r ∧ eb r = [UInt8.ofNat (240 + r.toNat / 262144), UInt8.ofNat (128 + r.toNat / 4096 % 64), UInt8.ofNat (128 + r.toNat / 64 % 64), UInt8.ofNat (128 + r.toNat % 64)]) := by
  have hv : Utf8.valid r = true := by
    unfold Utf8.valid Good at *
    simp only [Bool.or_eq_true, Bool.and_eq_true, decide_eq_true_eq]
    omega
  have h0 : 0 ≤ r := by unfold Good at h; omega
  unfold eb Utf8.encode
  simp only [hv, if_true]
  by_cases h1 : r < 128
  · left
    refine ⟨h1, ?_⟩
    rw [if_pos (show r.toNat < 128 by omega)]
  · by_cases h2 : r < 2048
    · right; left
      refine ⟨by omega, h2, ?_⟩
      rw [if_neg (show ¬ r.toNat < 128 by omega), if_pos (show r.toNat < 2048 by omega)]
    · by_cases h3 : r < 65536
      · right; right; left
        refine ⟨by omega, h3, ?_⟩
        rw [if_neg (show ¬ r.toNat < 128 by omega), if_neg (show ¬ r.toNat < 2048 by omega), if_pos (show r.toNat < 65536 by omega)]
      · right; right; right
        refine ⟨by omega, ?_⟩
        rw [if_neg (show ¬ r.toNat < 128 by omega), if_neg (show ¬ r.toNat < 2048 by omega), if_neg (show ¬ r.toNat < 65536 by omega)]

set_option maxHeartbeats 1000000 in
theorem dec_enc (s : ByteArray) (i : Nat) (r : Int) (h : Good r) (hs : ∀ j (hj : j < (eb r).length), s.data.toList[i + j]? = some ((eb r)[j])) : Utf8.decode s i = (r.toNat, (eb r).length) := by
  have h0 : 0 ≤ r := by unfold Good at h; omega
  have hsz : s.data.toList.length = s.size := Array.length_toList
  have hg : r < 55296 ∨ (57344 ≤ r ∧ r ≤ 1114111) := by unfold Good at h; omega
  obtain ⟨c, rfl⟩ := Int.eq_ofNat_of_zero_le h0
  rw [Lib.decode_at]
  rcases eb_cases c h with ⟨h1, e⟩ | ⟨h1, h2, e⟩ | ⟨h1, h2, e⟩ | ⟨h1, e⟩
  · rw [e] at hs ⊢
    have g0 := get_of (hs 0 (by simp))
    simp only [Nat.add_zero, List.getElem_cons_zero] at g0
    rw [g0, tn]
    unfold Lib.decodeN
    rw [if_pos (by simp only [Int.toNat_natCast]; omega)]
    refine Prod.ext ?_ rfl
    show (c : Int).toNat % 256 = (c : Int).toNat
    omega
  · rw [e] at hs ⊢
    have l1 := hs 1 (by simp)
    have g0 := get_of (hs 0 (by simp))
    have g1 := get_of l1
    have hlt : i + 1 < s.size := by rw [← hsz]; exact (List.getElem?_eq_some_iff.1 l1).1
    simp only [Nat.add_zero, List.getElem_cons_zero, List.getElem_cons_succ] at g0 g1
    rw [g0, g1, tn, tn]
    simp only [Int.toNat_natCast]
    have a0 : (192 + c / 64) % 256 = 192 + c / 64 := by omega
    have a1 : (128 + c % 64) % 256 = 128 + c % 64 := by omega
    rw [a0, a1]
    unfold Lib.decodeN
    rw [if_neg (by omega), if_pos (by omega), if_pos (by omega)]
    refine Prod.ext ?_ rfl
    show (192 + c / 64) % 32 * 64 + (128 + c % 64) % 64 = c
    omega
  · rw [e] at hs ⊢
    have l1 := hs 1 (by simp)
    have l2 := hs 2 (by simp)
    have g0 := get_of (hs 0 (by simp))
    have g1 := get_of l1
    have g2 := get_of l2
    have hlt : i + 2 < s.size := by rw [← hsz]; exact (List.getElem?_eq_some_iff.1 l2).1
    simp only [Nat.add_zero, List.getElem_cons_zero, List.getElem_cons_succ] at g0 g1 g2
    rw [g0, g1, g2, tn, tn, tn]
    simp only [Int.toNat_natCast]
    have a0 : (224 + c / 4096) % 256 = 224 + c / 4096 := by omega
    have a1 : (128 + c / 64 % 64) % 256 = 128 + c / 64 % 64 := by omega
    have a2 : (128 + c % 64) % 256 = 128 + c % 64 := by omega
    rw [a0, a1, a2]
    unfold Lib.decodeN
    rw [if_neg (by omega), if_neg (by omega), if_pos (by omega), if_pos (by omega)]
    refine Prod.ext ?_ rfl
    show (224 + c / 4096) % 16 * 4096 + (128 + c / 64 % 64) % 64 * 64 + (128 + c % 64) % 64 = c
    omega
  · rw [e] at hs ⊢
    have l1 := hs 1 (by simp)
    have l2 := hs 2 (by simp)
    have l3 := hs 3 (by simp)
    have g0 := get_of (hs 0 (by simp))
    have g1 := get_of l1
    have g2 := get_of l2
    have g3 := get_of l3
    have hlt : i + 3 < s.size := by rw [← hsz]; exact (List.getElem?_eq_some_iff.1 l3).1
    simp only [Nat.add_zero, List.getElem_cons_zero, List.getElem_cons_succ] at g0 g1 g2 g3
    rw [g0, g1, g2, g3, tn, tn, tn, tn]
    simp only [Int.toNat_natCast]
    have a0 : (240 + c / 262144) % 256 = 240 + c / 262144 := by omega
    have a1 : (128 + c / 4096 % 64) % 256 = 128 + c / 4096 % 64 := by omega
    have a2 : (128 + c / 64 % 64) % 256 = 128 + c / 64 % 64 := by omega
    have a3 : (128 + c % 64) % 256 = 128 + c % 64 := by omega
    rw [a0, a1, a2, a3]
    unfold Lib.decodeN
    rw [if_neg (by omega), if_neg (by omega), if_neg (by omega), if_pos (by omega), if_pos (by omega)]
    refine Prod.ext ?_ rfl
    show (240 + c / 262144) % 8 * 262144 + (128 + c / 4096 % 64) % 64 * 4096 + (128 + c / 64 % 64) % 64 * 64 + (128 + c % 64) % 64 = c
    omega

theorem eb_pos (r : Int) (h : Good r) : 1 ≤ (eb r).length := by
  rcases eb_cases r h with ⟨_, e⟩ | ⟨_, _, e⟩ | ⟨_, _, e⟩ | ⟨_, e⟩ <;> rw [e] <;> simp

theorem trip_from (s : ByteArray) : ∀ (ns : List Int) (pre : List UInt8) (b : Nat), (∀ r ∈ ns, Good r) → s.data.toList = pre ++ ns.flatMap eb → ns.length ≤ b → rnF s b pre.length = ns := by
  intro ns
  induction ns with
  | nil =>
    intro pre b _ hs _
    have hsz : s.size = pre.length := by
      have : s.data.toList.length = s.size := Array.length_toList
      rw [← this, hs]; simp
    cases b with
    | zero => rfl
    | succ b => unfold rnF; rw [if_neg (by omega)]
  | cons r ns ih =>
    intro pre b hg hs hb
    have hr := hg r (by simp)
    have hp := eb_pos r hr
    cases b with
    | zero => simp at hb
    | succ b =>
      have hsz : s.data.toList.length = s.size := Array.length_toList
      have hl : pre.length < s.size := by
        rw [← hsz, hs]; simp; omega
      have hd := dec_enc s pre.length r hr (fun j hj => by
        rw [hs, List.getElem?_append_right (by omega), List.flatMap_cons, List.getElem?_append_left (by omega)]
        simp [hj])
      unfold rnF
      rw [if_pos hl, hd]
      have hrest := ih (pre ++ eb r) b (fun x hx => hg x (by simp [hx])) (by rw [hs]; simp) (by simp at hb; omega)
      rw [List.length_append] at hrest
      simp only
      rw [hrest]
      have : 0 ≤ r := by unfold Good at hr; omega
      congr 1
      omega

theorem foldl_data (ns : List Int) : ∀ s : ByteArray, (ns.foldl (fun r n => r ++ Utf8.encode n) s).data.toList = s.data.toList ++ ns.flatMap eb := by
  induction ns with
  | nil => intro s; simp
  | cons n ns ih => intro s; simp only [List.foldl_cons]; rw [ih]; simp [eb]

theorem rb_data (ns : List Int) : (runesBytes ns).data.toList = ns.flatMap eb := by
  unfold runesBytes; rw [foldl_data]; simp

theorem flat_len_ge (ns : List Int) (hg : ∀ r ∈ ns, Good r) : ns.length ≤ (ns.flatMap eb).length := by
  induction ns with
  | nil => simp
  | cons r ns ih =>
    have := ih (fun x hx => hg x (by simp [hx]))
    have := eb_pos r (hg r (by simp))
    simp only [List.flatMap_cons, List.length_append, List.length_cons]
    omega

/-- Runes written out are read as they were. -/
theorem trip (ns : List Int) (hg : ∀ r ∈ ns, Good r) : rn (runesBytes ns) = ns := by
  have hd := rb_data ns
  have hsz : (runesBytes ns).data.toList.length = (runesBytes ns).size := Array.length_toList
  exact trip_from (runesBytes ns) ns [] _ hg (by rw [hd]; rfl) (by rw [← hsz, hd]; exact flat_len_ge ns hg)

end Go.Proofs.Qxb6619510a
