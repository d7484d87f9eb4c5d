import Derived.Test.Qxb6618474aOwn
namespace Go.Proofs.Qxb6618474a
open Go.ChangeShapes Go.WideShapes Go.ChangeAt Go.RowKit
set_option linter.unusedVariables false

/-- Cell i of the row at ⟨b, off⟩ holds a slice of the records Dss[i]. -/
def KidAt (w : World) (lo b off : Nat) (Ds : List Itm) : Prop := ∃ a n c, w.cell? ⟨b, off, none⟩ = some (.slice a n c) ∧ ItmsAt w lo a n Ds

def KidsAt (w : World) (lo : Nat) (a : Option Addr) (n : Nat) (Dss : List (List Itm)) : Prop :=
  Dss.length = n ∧ (0 < n → ∃ b off, a = some ⟨b, off, none⟩ ∧ lo ≤ b ∧ ∀ i (h : i < Dss.length), KidAt w lo b (off + i) Dss[i])

theorem KidAt.grown {w w' : World} {lo b off : Nat} {Ds : List Itm} (h : KidAt w lo b off Ds) (hg : w.grownBy w' none) : KidAt w' lo b off Ds := by
  obtain ⟨a, n, c, h0, h1⟩ := h
  exact ⟨a, n, c, hg.cell h0 (by simp), h1.grown hg⟩
theorem KidAt.mono {w : World} {lo lo' b off : Nat} {Ds : List Itm} (h : KidAt w lo b off Ds) (hl : lo' ≤ lo) : KidAt w lo' b off Ds := by
  obtain ⟨a, n, c, h0, h1⟩ := h
  exact ⟨a, n, c, h0, h1.mono hl⟩
theorem KidsAt.grown {w w' : World} {lo : Nat} {a : Option Addr} {n : Nat} {Dss : List (List Itm)} (h : KidsAt w lo a n Dss) (hg : w.grownBy w' none) : KidsAt w' lo a n Dss :=
  ⟨h.1, fun hn => by obtain ⟨b, o, ha, hl, hc⟩ := h.2 hn; exact ⟨b, o, ha, hl, fun i hi => (hc i hi).grown hg⟩⟩

def SmallK (Dss : List (List Itm)) : Prop := ∀ i (h : i < Dss.length), Dss[i].length ≤ 65536 ∧ Small Dss[i]

theorem Try.info22 : (Try.prog.info? 22).map (fun i => (i.zero, i.size, i.bytes)) = some (some (.slice none 0 0), 1, 24) := by kernel_rfl

/-- One round: row k is stored, those before it stand. -/
theorem kid_step {w : World} {g k : Nat} {cs : List Value} {t : TypeId} {Dss : List (List Itm)} (hB : Blk w g cs t) (hk : k < cs.length) (hkd : k < Dss.length)
    (hI : ∀ i (h : i < Dss.length), i < k → KidAt w (g + 1) g i Dss[i]) {a : Option Addr} {n c : Nat} (hb : ItmsAt w (g + 1) a n Dss[k]) :
    (∃ cs', cs'.length = cs.length ∧ Blk (w.setCell ⟨g, k, none⟩ (.slice a n c)) g cs' t) ∧
    ∀ i (h : i < Dss.length), i < k + 1 → KidAt (w.setCell ⟨g, k, none⟩ (.slice a n c)) (g + 1) g i Dss[i] := by
  have hs := hB.set k (.slice a n c)
  have hgr := grown_set w g k (.slice a n c)
  refine ⟨⟨_, by simp, hs⟩, ?_⟩
  intro i h hi
  by_cases e : i = k
  · subst e
    exact ⟨a, n, c, by rw [hs.at, List.getElem?_set_self hk], hb.kept hgr (by omega)⟩
  · obtain ⟨a', n', c', h0, h1⟩ := hI i h (by omega)
    exact ⟨a', n', c', by rw [hs.at, List.getElem?_set_ne (by omega), ← hB.at]; exact h0, h1.kept hgr (by omega)⟩

set_option maxHeartbeats 400000 in
theorem cloneK_nil (w : World) (n c : Nat) : Calls Try.prog 6 #[.slice none n c] w fun e w' => e = .returned (.slice none 0 0) ∧ w' = w := by
  have he := fun w => Lib.run_eql_slice_nil (P := Try.prog) w 23 22 none n c 0 0 Try.underlying23
  go_enter Try.func6, Try.ntmps6
  go_wp2
  go_ret
  exact ⟨rfl, rfl⟩

set_option maxHeartbeats 400000 in
theorem cloneK_zero (w : World) (x : Addr) (cap : Nat) :
    Calls Try.prog 6 #[.slice (some x) 0 cap] w fun e w' => e = .returned (.slice (some ⟨w.heap.size, 0, none⟩) 0 0) ∧ w.grownBy w' none := by
  have he := fun w => Lib.run_eql_slice_nil (P := Try.prog) w 23 22 (some x) 0 cap 0 0 Try.underlying23
  obtain ⟨i0, hi, hz0, hz1, hz2⟩ := info_parts Try.info22
  go_enter Try.func6, Try.ntmps6
  go_wp2_with (at_make; refine wpList_make_full _ rfl _ _ 23 rfl w.heap.size 22 i0 (.slice none 0 0) 1 Try.underlying23 hi hz0 hz1 .i64 .i64 _ _ 0 rfl rfl rfl rfl (by omega) (by unfold maxLen; omega) (Nat.le_refl _) ?_; intro w1 hown hgr)
  clear hown he hi hz0 hz1 hz2
  refine wp_loop_rounds 1 ?_
  rw [rounds_succ]
  go_wp2
  go_ret
  exact ⟨rfl, hgr⟩

set_option maxHeartbeats 1000000 in
theorem cloneK_pos (w : World) (b off len cap : Nat) (Dss : List (List Itm)) (hl : len ≤ 65536) (hz : Dss.length = len)
    (hc : ∀ i (h : i < Dss.length), KidAt w 0 b (off + i) Dss[i]) (hs : SmallK Dss) :
    Calls Try.prog 6 #[.slice (some ⟨b, off, none⟩) len cap] w fun e w' => e = .returned (.slice (some ⟨w.heap.size, 0, none⟩) len len) ∧ (∀ i (h : i < Dss.length), KidAt w' (w.heap.size + 1) w.heap.size i Dss[i]) ∧ w.grownBy w' none := by
  have he := fun w => Lib.run_eql_slice_nil (P := Try.prog) w 23 22 (some ⟨b, off, none⟩) len cap 0 0 Try.underlying23
  obtain ⟨i0, hi, hz0, hz1, hz2⟩ := info_parts Try.info22
  have hb2 : i0.bytes * len ≤ 281474976710656 := by rw [hz2]; omega
  go_enter Try.func6, Try.ntmps6
  go_wp2_with (at_make; refine wpList_make_full _ rfl _ _ 23 rfl w.heap.size 22 i0 (.slice none 0 0) 1 Try.underlying23 hi hz0 hz1 .i64 .i64 _ _ len rfl rfl rfl rfl hb2 (by unfold maxLen; omega) (Nat.le_refl _) ?_; intro w1 hown hgr)
  have hB := own_blk hown
  have HO : Hid _ := hown.1
  have HZ : Hid (Dss.length = len) := hz
  clear hown he hi hz0 hz1 hz2 hz hb2
  go_loopw [4] (fun i wr => ∃ k : Nat, k ≤ len ∧ i = .int .i64 k ∧ (∃ cs, cs.length = len * 1 ∧ Blk wr w.heap.size cs 22) ∧ (∀ i (h : i < Dss.length), i < k → KidAt wr (w.heap.size + 1) w.heap.size i Dss[i]) ∧ w.grownBy wr none) (fun i _ => len - (intOf i).toNat)
  case atStart =>
    exact ⟨0, Nat.zero_le _, rfl, ⟨_, HO.out, hB⟩, fun i h hi => absurd hi (Nat.not_lt_zero _), hgr⟩
  case round =>
    obtain ⟨k, hk, rfl, ⟨cs, hcl, hB1⟩, hI, hg1⟩ := hrel
    by_cases hlt : k < len
    · have hk' : k < Dss.length := by rw [HZ.out]; exact hlt
      obtain ⟨va, vn, vc, s0, sB⟩ := (hc k hk').grown hg1
      have hvn : vn ≤ 65536 := by rw [← sB.1]; exact (hs k hk').1
      have hsk := (hs k hk').2
      have t0 := hB1.cell (j := k) (by omega)
      have f0 := hB1.free k
      generalize cs[k]'(by omega) = y0 at t0
      have sz1 := hB1.lt
      clear hB hgr hc hs
      go_wp2_with fail
      refine (cloneI_any _ va vn vc Dss[k] sB hsk hvn).mono ?_
      rintro e w2 ⟨va', rfl, hB18, hg18⟩
      have q0 := hg18.cell t0 (by simp)
      have p0 := grown_free hg18 t0 f0
      have hst := kid_step (k := k) (hB1.grown hg18 (by simp)) (by omega) hk' (fun i h hi => (hI i h hi).grown hg18) (c := vn) (hB18.mono (by omega))
      have hgf := grown_trans_new (grown_trans hg1 hg18) (grown_set w2 w.heap.size k (.slice va' vn vn)) (by intro i hi; cases hi; exact Nat.le_refl _)
      clear s0 sB hsk t0 f0 hI hB18 hB1
      rw [hcl] at hst
      go_wp2
      go_roundw
      case rel => exact ⟨k + 1, by omega, by go_num, hst.1, hst.2, hgf⟩
      case measure => simp [intOf]; omega
    · have : k = len := by omega
      subst this
      go_wp2
      go_ret
      exact ⟨rfl, fun i h => hI i h (by rw [← HZ.out]; exact h), hg1⟩

theorem cloneK_any (w : World) (a : Option Addr) (len cap : Nat) (Dss : List (List Itm)) (h : KidsAt w 0 a len Dss) (hs : SmallK Dss) (hl : len ≤ 65536) :
    Calls Try.prog 6 #[.slice a len cap] w fun e w' => ∃ a', e = .returned (.slice a' len len) ∧ KidsAt w' w.heap.size a' len Dss ∧ w.grownBy w' none := by
  by_cases h0 : len = 0
  · subst h0
    cases a with
    | none =>
      refine (cloneK_nil w 0 cap).mono ?_
      rintro e w' ⟨rfl, rfl⟩
      exact ⟨none, rfl, ⟨h.1, fun hn => by omega⟩, World.grownBy.refl _ _⟩
    | some x =>
      refine (cloneK_zero w x cap).mono ?_
      rintro e w' ⟨rfl, hg⟩
      exact ⟨_, rfl, ⟨h.1, fun hn => by omega⟩, hg⟩
  · obtain ⟨b, o, rfl, _, hc⟩ := h.2 (by omega)
    refine (cloneK_pos w b o len cap Dss hl h.1 hc hs).mono ?_
    rintro e w' ⟨rfl, hI, hg⟩
    refine ⟨_, rfl, ⟨h.1, fun _ => ⟨_, 0, rfl, Nat.le_refl _, fun i hi => ?_⟩⟩, hg⟩
    rw [Nat.zero_add]
    exact (hI i hi).mono (by omega)

end Go.Proofs.Qxb6618474a
