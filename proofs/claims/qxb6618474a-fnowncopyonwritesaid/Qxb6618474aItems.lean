import Derived.Test.Qxb6618474aBytes
import Derived.Deep.RegionHeld3
import Derived.Deep.DrawnRows
import Derived.BigRegion
namespace Go.Proofs.Qxb6618474a
open Go.ChangeShapes Go.WideShapes Go.ChangeAt Go.RowKit
set_option linter.unusedVariables false
attribute [local go_sem ↓] Go.wp_at_zero Go.wp_at_succ

/-- One record, as data. -/
structure Itm where
  coll : ByteArray
  id : ByteArray
  ver : Int
  val : List Int

/-- A record lies at ⟨b, off⟩: four cells, and the bytes behind the fourth (in no block below lo). -/
def ItmAt (w : World) (lo b off : Nat) (D : Itm) : Prop :=
  w.cell? ⟨b, off, none⟩ = some (.string D.coll) ∧ w.cell? ⟨b, off + 1, none⟩ = some (.string D.id) ∧ w.cell? ⟨b, off + 2, none⟩ = some (.int .u64 D.ver) ∧
    ∃ a n c, w.cell? ⟨b, off + 3, none⟩ = some (.slice a n c) ∧ BytesAt w lo a n D.val

theorem ItmAt.grown {w w' : World} {lo b off : Nat} {D : Itm} (h : ItmAt w lo b off D) (hg : w.grownBy w' none) : ItmAt w' lo b off D := by
  obtain ⟨h0, h1, h2, a, n, c, h3, hb⟩ := h
  exact ⟨hg.cell h0 (by simp), hg.cell h1 (by simp), hg.cell h2 (by simp), a, n, c, hg.cell h3 (by simp), hb.grown hg⟩

/-- The world behind the store of a record's four cells. -/
def set4 (w : World) (g o : Nat) (u0 u1 u2 u3 : Value) : World :=
  (((w.setCell ⟨g, o, none⟩ u0).setCell ⟨g, o + 1, none⟩ u1).setCell ⟨g, o + 2, none⟩ u2).setCell ⟨g, o + 3, none⟩ u3

theorem set4_blk {w : World} {g : Nat} {cs : List Value} {t : TypeId} (h : Blk w g cs t) (o : Nat) (u0 u1 u2 u3 : Value) : Blk (set4 w g o u0 u1 u2 u3) g ((((cs.set o u0).set (o + 1) u1).set (o + 2) u2).set (o + 3) u3) t :=
  (((h.set o u0).set (o + 1) u1).set (o + 2) u2).set (o + 3) u3

theorem set4_grown (w : World) (g o : Nat) (u0 u1 u2 u3 : Value) : w.grownBy (set4 w g o u0 u1 u2 u3) (some g) :=
  grown_trans (grown_trans (grown_trans (grown_set w g o u0) (grown_set _ g (o + 1) u1)) (grown_set _ g (o + 2) u2)) (grown_set _ g (o + 3) u3)

theorem set4_far {w : World} {g : Nat} {cs : List Value} {t : TypeId} (h : Blk w g cs t) (o : Nat) (u0 u1 u2 u3 : Value) (j : Nat) (hj : j < o ∨ o + 3 < j) : (set4 w g o u0 u1 u2 u3).cell? ⟨g, j, none⟩ = w.cell? ⟨g, j, none⟩ := by
  rw [(set4_blk h o u0 u1 u2 u3).at, h.at]
  rw [List.getElem?_set_ne (by omega), List.getElem?_set_ne (by omega), List.getElem?_set_ne (by omega), List.getElem?_set_ne (by omega)]

theorem set4_at {w : World} {g : Nat} {cs : List Value} {t : TypeId} (h : Blk w g cs t) (o : Nat) (u0 u1 u2 u3 : Value) (ho : o + 3 < cs.length) :
    (set4 w g o u0 u1 u2 u3).cell? ⟨g, o, none⟩ = some u0 ∧ (set4 w g o u0 u1 u2 u3).cell? ⟨g, o + 1, none⟩ = some u1 ∧ (set4 w g o u0 u1 u2 u3).cell? ⟨g, o + 2, none⟩ = some u2 ∧ (set4 w g o u0 u1 u2 u3).cell? ⟨g, o + 3, none⟩ = some u3 := by
  have hb := set4_blk h o u0 u1 u2 u3
  refine ⟨?_, ?_, ?_, ?_⟩
  · rw [hb.at, List.getElem?_set_ne (by omega), List.getElem?_set_ne (by omega), List.getElem?_set_ne (by omega), List.getElem?_set_self (by omega)]
  · rw [hb.at, List.getElem?_set_ne (by omega), List.getElem?_set_ne (by omega), List.getElem?_set_self (by simp; omega)]
  · rw [hb.at, List.getElem?_set_ne (by omega), List.getElem?_set_self (by simp; omega)]
  · rw [hb.at, List.getElem?_set_self (by simp; omega)]

/-- One round: record k is stored, those before it stand. -/
theorem itm_step {w : World} {g k len : Nat} {cs : List Value} {t : TypeId} {Ds : List Itm} (hB : Blk w g cs t) (hcl : cs.length = len * 4) (hk : k < len) (hkd : k < Ds.length)
    (hI : ∀ i (h : i < Ds.length), i < k → ItmAt w (g + 1) g (i * 4) Ds[i]) {a : Option Addr} {n c : Nat} (hb : BytesAt w (g + 1) a n Ds[k].val) :
    (∃ cs', cs'.length = len * 4 ∧ Blk (set4 w g (k * 4) (.string Ds[k].coll) (.string Ds[k].id) (.int .u64 Ds[k].ver) (.slice a n c)) g cs' t) ∧
    ∀ i (h : i < Ds.length), i < k + 1 → ItmAt (set4 w g (k * 4) (.string Ds[k].coll) (.string Ds[k].id) (.int .u64 Ds[k].ver) (.slice a n c)) (g + 1) g (i * 4) Ds[i] := by
  refine ⟨⟨_, ?_, set4_blk hB _ _ _ _ _⟩, ?_⟩
  · simp [hcl]
  · intro i h hi
    have hgr := set4_grown w g (k * 4) (.string Ds[k].coll) (.string Ds[k].id) (.int .u64 Ds[k].ver) (.slice a n c)
    by_cases e : i = k
    · subst e
      obtain ⟨e0, e1, e2, e3⟩ := set4_at hB (i * 4) (.string Ds[i].coll) (.string Ds[i].id) (.int .u64 Ds[i].ver) (.slice a n c) (by omega)
      exact ⟨e0, e1, e2, a, n, c, e3, hb.kept hgr (by omega)⟩
    · obtain ⟨h0, h1, h2, a', n', c', h3, hb'⟩ := hI i h (by omega)
      exact ⟨by rw [set4_far hB _ _ _ _ _ _ (by omega)]; exact h0, by rw [set4_far hB _ _ _ _ _ _ (by omega)]; exact h1, by rw [set4_far hB _ _ _ _ _ _ (by omega)]; exact h2, a', n', c',
        by rw [set4_far hB _ _ _ _ _ _ (by omega)]; exact h3, hb'.kept hgr (by omega)⟩

theorem Try.info28 : (Try.prog.info? 28).map (fun i => (i.zero, i.size, i.bytes)) = some (some (.agg #[.string ⟨#[]⟩, .string ⟨#[]⟩, .int .u64 0, .slice none 0 0]), 4, 64) := by kernel_rfl

set_option maxHeartbeats 1000000 in
theorem cloneI_pos (w : World) (b off len cap : Nat) (Ds : List Itm) (hl : len ≤ 65536) (hz : Ds.length = len)
    (hc : ∀ i (h : i < Ds.length), ItmAt w 0 b (off + i * 4) Ds[i]) (hb : ∀ i (h : i < Ds.length), Ds[i].val.length ≤ 1048576) :
    Calls Try.prog 5 #[.slice (some ⟨b, off, none⟩) len cap] w fun e w' => e = .returned (.slice (some ⟨w.heap.size, 0, none⟩) len len) ∧ (∀ i (h : i < Ds.length), ItmAt w' (w.heap.size + 1) w.heap.size (i * 4) Ds[i]) ∧ w.grownBy w' none := by
  have he := fun w => Lib.run_eql_slice_nil (P := Try.prog) w 22 28 (some ⟨b, off, none⟩) len cap 0 0 Try.underlying22
  obtain ⟨i0, hi, hz0, hz1, hz2⟩ := info_parts Try.info28
  have hb2 : i0.bytes * len ≤ 281474976710656 := by rw [hz2]; omega
  go_enter Try.func5, Try.ntmps5
  go_wp2_with (at_make; refine wpList_make_full _ rfl _ _ 22 rfl w.heap.size 28 i0 (.agg #[.string ⟨#[]⟩, .string ⟨#[]⟩, .int .u64 0, .slice none 0 0]) 4 Try.underlying22 hi hz0 hz1 .i64 .i64 _ _ len rfl rfl rfl rfl hb2 (by unfold maxLen; omega) (Nat.le_refl _) ?_; intro w1 hown hgr)
  have hB := own_blk hown
  have HO : Hid _ := hown.1
  have HZ : Hid (Ds.length = len) := hz
  clear hown he hi hz0 hz1 hz2 hz hb2
  go_loopw [4] (fun i wr => ∃ k : Nat, k ≤ len ∧ i = .int .i64 k ∧ (∃ cs, cs.length = len * 4 ∧ Blk wr w.heap.size cs 28) ∧ (∀ i (h : i < Ds.length), i < k → ItmAt wr (w.heap.size + 1) w.heap.size (i * 4) Ds[i]) ∧ w.grownBy wr none) (fun i _ => len - (intOf i).toNat)
  case atStart =>
    exact ⟨0, Nat.zero_le _, rfl, ⟨_, HO.out, hB⟩, fun i h hi => absurd hi (Nat.not_lt_zero _), hgr⟩
  case round =>
    obtain ⟨k, hk, rfl, ⟨cs, hcl, hB1⟩, hI, hg1⟩ := hrel
    by_cases hlt : k < len
    · have hk' : k < Ds.length := by rw [HZ.out]; exact hlt
      obtain ⟨s0, s1, s2, va, vn, vc, s3, sB⟩ := hc k hk'
      have hvn : vn ≤ 1048576 := by rw [← sB.1]; exact hb k hk'
      obtain ⟨x0, e0⟩ : ∃ x, x = Ds[k].coll := ⟨_, rfl⟩
      obtain ⟨x1, e1⟩ : ∃ x, x = Ds[k].id := ⟨_, rfl⟩
      obtain ⟨x2, e2⟩ : ∃ x, x = Ds[k].ver := ⟨_, rfl⟩
      obtain ⟨x3, e3⟩ : ∃ x, x = Ds[k].val := ⟨_, rfl⟩
      rw [← e0] at s0
      rw [← e1] at s1
      rw [← e2] at s2
      rw [← e3] at sB
      have E : Hid (x0 = Ds[k].coll ∧ x1 = Ds[k].id ∧ x2 = Ds[k].ver ∧ x3 = Ds[k].val) := ⟨e0, e1, e2, e3⟩
      clear e0 e1 e2 e3
      have r0 := hg1.cell s0 (by simp)
      have r1 := hg1.cell s1 (by simp)
      have r2 := hg1.cell s2 (by simp)
      have r3 := hg1.cell s3 (by simp)
      have t0 := hB1.cell (j := k * 4) (by omega)
      have t1 := hB1.cell (j := k * 4 + 1) (by omega)
      have t2 := hB1.cell (j := k * 4 + 2) (by omega)
      have t3 := hB1.cell (j := k * 4 + 3) (by omega)
      have f0 := hB1.free (k * 4)
      have f1 := hB1.free (k * 4 + 1)
      have f2 := hB1.free (k * 4 + 2)
      have f3 := hB1.free (k * 4 + 3)
      generalize cs[k * 4]'(by omega) = y0 at t0
      generalize cs[k * 4 + 1]'(by omega) = y1 at t1
      generalize cs[k * 4 + 2]'(by omega) = y2 at t2
      generalize cs[k * 4 + 3]'(by omega) = y3 at t3
      have hi0 : (0 : Int) ≤ (k : Int) := by omega
      have hi1 : (k : Int) < (len : Int) := by omega
      have sz1 := hB1.lt
      clear hB hgr hc hb
      go_wp2
      go_region_held3 (fun wx => w.grownBy wx none ∧ wx.cell? ⟨b, off + k * 4, none⟩ = some (.string x0) ∧ wx.cell? ⟨b, off + k * 4 + 1, none⟩ = some (.string x1) ∧ wx.cell? ⟨b, off + k * 4 + 2, none⟩ = some (.int .u64 x2) ∧ wx.cell? ⟨b, off + k * 4 + 3, none⟩ = some (.slice va vn vc))
        (first | (have hG := grown_trans hg1 (grown_drewN wr 1 none); exact ⟨hG, hG.cell s0 (by simp), hG.cell s1 (by simp), hG.cell s2 (by simp), hG.cell s3 (by simp)⟩) | (have hG := grown_trans (grown_trans hg1 (grown_drewN wr 1 none)) hg18; exact ⟨hG, hG.cell s0 (by simp), hG.cell s1 (by simp), hG.cell s2 (by simp), hG.cell s3 (by simp)⟩) | (have hG := grown_set4 (grown_trans (grown_trans hg1 (grown_drewN wr 1 none)) hg18) w.heap.size (Nat.le_refl _) (k * 4) (k * 4 + 1) (k * 4 + 2) (k * 4 + 3) (.string x0) (.string x1) (.int .u64 x2) (.slice va' vn vn); exact ⟨hG, hG.cell s0 (by simp), hG.cell s1 (by simp), hG.cell s2 (by simp), hG.cell s3 (by simp)⟩))
        (first | (go_at_call 18; refine (cloneB_any _ 0 va vn vc x3 (sB.grown (grown_trans hg1 (grown_drewN wr 1 none))) hvn).mono ?_; rintro e w18 ⟨va', rfl, hB18, hg18⟩; have q0 := hg18.cell (show wr.drew.cell? _ = _ from t0) (by simp); have q1 := hg18.cell (show wr.drew.cell? _ = _ from t1) (by simp); have q2 := hg18.cell (show wr.drew.cell? _ = _ from t2) (by simp); have q3 := hg18.cell (show wr.drew.cell? _ = _ from t3) (by simp); have p0 := grown_free hg18 (show wr.drew.cell? _ = _ from t0) f0; have p1 := grown_free hg18 (show wr.drew.cell? _ = _ from t1) f1; have p2 := grown_free hg18 (show wr.drew.cell? _ = _ from t2) f2; have p3 := grown_free hg18 (show wr.drew.cell? _ = _ from t3) f3))
      go_wp2
      have hG : wr.grownBy w18 none := grown_trans (grown_drewN wr 1 none) hg18
      obtain ⟨e0, e1, e2, e3⟩ := E.out
      subst e0 e1 e2 e3
      have hst := itm_step (k := k) (len := len) (hB1.grown hG (by simp)) hcl hlt hk' (fun i h hi => (hI i h hi).grown hG) (c := vn) (hB18.mono (by show w.heap.size + 1 ≤ wr.heap.size; omega))
      go_roundw
      case rel => exact ⟨k + 1, by omega, by go_num, hst.1, hst.2, grown_set4 (grown_trans hg1 hG) w.heap.size (Nat.le_refl _) _ _ _ _ _ _ _ _⟩
      case measure => simp [intOf]; omega
    · have : k = len := by omega
      subst this
      go_wp2
      go_ret
      exact ⟨rfl, fun i h => hI i h (by rw [← HZ.out]; exact h), hg1⟩
end Go.Proofs.Qxb6618474a
