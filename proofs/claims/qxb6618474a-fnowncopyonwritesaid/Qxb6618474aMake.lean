import Derived.Test.Qxb6618474aItems
namespace Go.Proofs.Qxb6618474a
open Go.ChangeShapes Go.WideShapes Go.ChangeAt Go.RowKit
set_option linter.unusedVariables false
attribute [local go_sem ↓] Go.wp_at_zero Go.wp_at_succ

set_option maxHeartbeats 400000 in
theorem mkItem_any (w : World) (c i : ByteArray) (v : Int) (a : Option Addr) (n cp : Nat) :
    Calls Try.prog 17 #[.string c, .string i, .int .u64 v, .slice a n cp] w fun e w' => e = .returned (.agg #[.string c, .string i, .int .u64 v, .slice a n cp]) ∧ w.grownBy w' none := by
  go_enter Try.func17, Try.ntmps17
  go_wp2
  exact bodyPost_ret (v := .agg #[.string c, .string i, .int .u64 v, .slice a n cp]) (by simp [results, Try.results17, go_sem]) rfl ⟨rfl, World.grownBy_alloc _ _ _⟩

set_option maxHeartbeats 400000 in
theorem fields_any (w : World) (c i : ByteArray) (v : Int) (a : Option Addr) (n cp : Nat) :
    Calls Try.prog 20 #[.agg #[.string c, .string i, .int .u64 v, .slice a n cp]] w fun e w' => e = .returned (.tuple #[.string c, .string i, .int .u64 v, .slice a n cp]) ∧ w.grownBy w' none := by
  go_enter Try.func20, Try.ntmps20
  go_wp2
  go_quiet (fail)
  go_wp2
  exact bodyPost_ret (v := .tuple #[.string c, .string i, .int .u64 v, .slice a n cp]) (by simp [results, Try.results20, go_sem]) rfl ⟨rfl, grown_trans (World.grownBy_alloc _ _ _) (grown_drewN _ _ _)⟩

/-- A slice of records. -/
def ItmsAt (w : World) (lo : Nat) (a : Option Addr) (n : Nat) (Ds : List Itm) : Prop :=
  Ds.length = n ∧ (0 < n → ∃ b off, a = some ⟨b, off, none⟩ ∧ lo ≤ b ∧ ∀ i (h : i < Ds.length), ItmAt w lo b (off + i * 4) Ds[i])

theorem ItmAt.mono {w : World} {lo lo' b off : Nat} {D : Itm} (h : ItmAt w lo b off D) (hl : lo' ≤ lo) : ItmAt w lo' b off D := by
  obtain ⟨h0, h1, h2, a, n, c, h3, hb⟩ := h
  exact ⟨h0, h1, h2, a, n, c, h3, hb.mono hl⟩

theorem ItmsAt.grown {w w' : World} {lo : Nat} {a : Option Addr} {n : Nat} {Ds : List Itm} (h : ItmsAt w lo a n Ds) (hg : w.grownBy w' none) : ItmsAt w' lo a n Ds :=
  ⟨h.1, fun hn => by obtain ⟨b, o, ha, hl, hc⟩ := h.2 hn; exact ⟨b, o, ha, hl, fun i hi => (hc i hi).grown hg⟩⟩

theorem ItmsAt.mono {w : World} {lo lo' : Nat} {a : Option Addr} {n : Nat} {Ds : List Itm} (h : ItmsAt w lo a n Ds) (hl : lo' ≤ lo) : ItmsAt w lo' a n Ds :=
  ⟨h.1, fun hn => by obtain ⟨b, o, ha, hl', hc⟩ := h.2 hn; exact ⟨b, o, ha, Nat.le_trans hl hl', fun i hi => (hc i hi).mono hl⟩⟩

/-- A store into a block below lo does not touch a record. -/
theorem ItmAt.kept {w w' : World} {lo b off : Nat} {D : Itm} {row : Nat} (h : ItmAt w lo b off D) (hg : w.grownBy w' (some row)) (hb : b ≠ row) (hr : row < lo) : ItmAt w' lo b off D := by
  obtain ⟨h0, h1, h2, a, n, c, h3, hbb⟩ := h
  have hne : some b ≠ some row := by intro e; exact hb (by simpa using e)
  exact ⟨hg.cell h0 hne, hg.cell h1 hne, hg.cell h2 hne, a, n, c, hg.cell h3 hne, hbb.kept hg hr⟩

theorem ItmsAt.kept {w w' : World} {lo : Nat} {a : Option Addr} {n : Nat} {Ds : List Itm} {row : Nat} (h : ItmsAt w lo a n Ds) (hg : w.grownBy w' (some row)) (hr : row < lo) : ItmsAt w' lo a n Ds :=
  ⟨h.1, fun hn => by obtain ⟨b, o, ha, hl', hc⟩ := h.2 hn; exact ⟨b, o, ha, hl', fun i hi => (hc i hi).kept hg (by omega) hr⟩⟩

/-- Each record's bytes are few. -/
def Small (Ds : List Itm) : Prop := ∀ i (h : i < Ds.length), Ds[i].val.length ≤ 1048576 ∧ Ds[i].coll.size ≤ 1048576 ∧ Ds[i].id.size ≤ 1048576

set_option maxHeartbeats 400000 in
theorem cloneI_nil (w : World) (n c : Nat) : Calls Try.prog 5 #[.slice none n c] w fun e w' => e = .returned (.slice none 0 0) ∧ w' = w := by
  have he := fun w => Lib.run_eql_slice_nil (P := Try.prog) w 22 28 none n c 0 0 Try.underlying22
  go_enter Try.func5, Try.ntmps5
  go_wp2
  go_ret
  exact ⟨rfl, rfl⟩

set_option maxHeartbeats 400000 in
theorem cloneI_zero (w : World) (x : Addr) (cap : Nat) :
    Calls Try.prog 5 #[.slice (some x) 0 cap] w fun e w' => e = .returned (.slice (some ⟨w.heap.size, 0, none⟩) 0 0) ∧ w.grownBy w' none := by
  have he := fun w => Lib.run_eql_slice_nil (P := Try.prog) w 22 28 (some x) 0 cap 0 0 Try.underlying22
  obtain ⟨i0, hi, hz0, hz1, hz2⟩ := info_parts Try.info28
  go_enter Try.func5, Try.ntmps5
  go_wp2_with (at_make; refine wpList_make_full _ rfl _ _ 22 rfl w.heap.size 28 i0 (.agg #[.string ⟨#[]⟩, .string ⟨#[]⟩, .int .u64 0, .slice none 0 0]) 4 Try.underlying22 hi hz0 hz1 .i64 .i64 _ _ 0 rfl rfl rfl rfl (by omega) (by unfold maxLen; omega) (Nat.le_refl _) ?_; intro w1 hown hgr)
  clear hown he hi hz0 hz1 hz2
  refine wp_loop_rounds 1 ?_
  rw [rounds_succ]
  go_wp2
  go_ret
  exact ⟨rfl, hgr⟩

theorem cloneI_any (w : World) (a : Option Addr) (len cap : Nat) (Ds : List Itm) (h : ItmsAt w 0 a len Ds) (hs : Small Ds) (hl : len ≤ 65536) :
    Calls Try.prog 5 #[.slice a len cap] w fun e w' => ∃ a', e = .returned (.slice a' len len) ∧ ItmsAt w' w.heap.size a' len Ds ∧ w.grownBy w' none := by
  by_cases h0 : len = 0
  · subst h0
    cases a with
    | none =>
      refine (cloneI_nil w 0 cap).mono ?_
      rintro e w' ⟨rfl, rfl⟩
      exact ⟨none, rfl, ⟨h.1, fun hn => by omega⟩, World.grownBy.refl _ _⟩
    | some x =>
      refine (cloneI_zero w x cap).mono ?_
      rintro e w' ⟨rfl, hg⟩
      exact ⟨_, rfl, ⟨h.1, fun hn => by omega⟩, hg⟩
  · obtain ⟨b, o, rfl, _, hc⟩ := h.2 (by omega)
    refine (cloneI_pos w b o len cap Ds hl h.1 hc (fun i hi => (hs i hi).1)).mono ?_
    rintro e w' ⟨rfl, hI, hg⟩
    refine ⟨_, rfl, ⟨h.1, fun _ => ⟨_, 0, rfl, Nat.le_refl _, fun i hi => ?_⟩⟩, hg⟩
    rw [Nat.zero_add]
    exact (hI i hi).mono (by omega)

theorem Try.info51 : (Try.prog.info? 51).map (fun i => (i.zero, i.size, i.bytes)) = some (some (.agg #[.string ⟨#[]⟩, .string ⟨#[]⟩, .int .u64 0, .slice none 0 0]), 4, 64) := by kernel_rfl

set_option maxHeartbeats 1000000 in
theorem makeI_pos (w : World) (b off len cap : Nat) (Ds : List Itm) (hl : len ≤ 65536) (hz : Ds.length = len)
    (hc : ∀ i (h : i < Ds.length), ItmAt w 0 b (off + i * 4) Ds[i]) (hb : ∀ i (h : i < Ds.length), Ds[i].val.length ≤ 1048576) :
    Calls Try.prog 9 #[.slice (some ⟨b, off, none⟩) len cap] w fun e w' => e = .returned (.slice (some ⟨w.heap.size, 0, none⟩) len len) ∧ (∀ i (h : i < Ds.length), ItmAt w' (w.heap.size + 1) w.heap.size (i * 4) Ds[i]) ∧ (∃ cs, cs.length = len * 4 ∧ Blk w' w.heap.size cs 51) ∧ w.grownBy w' none := by
  obtain ⟨i0, hi, hz0, hz1, hz2⟩ := info_parts Try.info51
  have hb2 : i0.bytes * len ≤ 281474976710656 := by rw [hz2]; omega
  go_enter Try.func9, Try.ntmps9
  go_wp2_with (at_make; refine wpList_make_full _ rfl _ _ 36 rfl w.heap.size 51 i0 (.agg #[.string ⟨#[]⟩, .string ⟨#[]⟩, .int .u64 0, .slice none 0 0]) 4 Try.underlying36 hi hz0 hz1 .i64 .i64 _ _ len rfl rfl rfl rfl hb2 (by unfold maxLen; omega) (Nat.le_refl _) ?_; intro w1 hown hgr)
  have hB := own_blk hown
  have HO : Hid _ := hown.1
  have HZ : Hid (Ds.length = len) := hz
  clear hown hi hz0 hz1 hz2 hz hb2
  go_loopw [4] (fun i wr => ∃ k : Nat, k ≤ len ∧ i = .int .i64 k ∧ (∃ cs, cs.length = len * 4 ∧ Blk wr w.heap.size cs 51) ∧ (∀ i (h : i < Ds.length), i < k → ItmAt wr (w.heap.size + 1) w.heap.size (i * 4) Ds[i]) ∧ w.grownBy wr none) (fun i _ => len - (intOf i).toNat)
  case atStart =>
    exact ⟨0, Nat.zero_le _, rfl, ⟨_, HO.out, hB⟩, fun i h hi => absurd hi (Nat.not_lt_zero _), hgr⟩
  case round =>
    obtain ⟨k, hk, rfl, ⟨cs, hcl, hB1⟩, hI, hg1⟩ := hrel
    by_cases hlt : k < len
    · have hk' : k < Ds.length := by rw [HZ.out]; exact hlt
      obtain ⟨s0, s1, s2, va, vn, vc, s3, sB⟩ := hc k hk'
      have hvn : vn ≤ 1048576 := by rw [← sB.1]; exact hb k hk'
      obtain ⟨x0, e0⟩ : ∃ x, x = Ds[k].coll := ⟨_, rfl⟩
      obtain ⟨x1, e1⟩ : ∃ x, x = Ds[k].id := ⟨_, rfl⟩
      obtain ⟨x2, e2⟩ : ∃ x, x = Ds[k].ver := ⟨_, rfl⟩
      obtain ⟨x3, e3⟩ : ∃ x, x = Ds[k].val := ⟨_, rfl⟩
      rw [← e0] at s0
      rw [← e1] at s1
      rw [← e2] at s2
      rw [← e3] at sB
      have E : Hid (x0 = Ds[k].coll ∧ x1 = Ds[k].id ∧ x2 = Ds[k].ver ∧ x3 = Ds[k].val) := ⟨e0, e1, e2, e3⟩
      clear e0 e1 e2 e3
      have r0 := hg1.cell s0 (by simp)
      have r1 := hg1.cell s1 (by simp)
      have r2 := hg1.cell s2 (by simp)
      have r3 := hg1.cell s3 (by simp)
      have t0 := hB1.cell (j := k * 4) (by omega)
      have t1 := hB1.cell (j := k * 4 + 1) (by omega)
      have t2 := hB1.cell (j := k * 4 + 2) (by omega)
      have t3 := hB1.cell (j := k * 4 + 3) (by omega)
      have f0 := hB1.free (k * 4)
      have f1 := hB1.free (k * 4 + 1)
      have f2 := hB1.free (k * 4 + 2)
      have f3 := hB1.free (k * 4 + 3)
      generalize cs[k * 4]'(by omega) = y0 at t0
      generalize cs[k * 4 + 1]'(by omega) = y1 at t1
      generalize cs[k * 4 + 2]'(by omega) = y2 at t2
      generalize cs[k * 4 + 3]'(by omega) = y3 at t3
      have hi0 : (0 : Int) ≤ (k : Int) := by omega
      have hi1 : (k : Int) < (len : Int) := by omega
      have sz1 := hB1.lt
      clear hB hgr hc hb
      go_wp2
      go_region_held3 (fun wx => w.grownBy wx none ∧ wx.cell? ⟨b, off + k * 4, none⟩ = some (.string x0) ∧ wx.cell? ⟨b, off + k * 4 + 1, none⟩ = some (.string x1) ∧ wx.cell? ⟨b, off + k * 4 + 2, none⟩ = some (.int .u64 x2) ∧ wx.cell? ⟨b, off + k * 4 + 3, none⟩ = some (.slice va vn vc))
        (first | (have hG := grown_trans hg1 (grown_drewN wr 1 none); exact ⟨hG, hG.cell s0 (by simp), hG.cell s1 (by simp), hG.cell s2 (by simp), hG.cell s3 (by simp)⟩) | (have hG := grown_trans (grown_trans hg1 (grown_drewN wr 1 none)) hg18; exact ⟨hG, hG.cell s0 (by simp), hG.cell s1 (by simp), hG.cell s2 (by simp), hG.cell s3 (by simp)⟩) | (have hG := grown_trans (grown_trans (grown_trans hg1 (grown_drewN wr 1 none)) hg18) hg17; exact ⟨hG, hG.cell s0 (by simp), hG.cell s1 (by simp), hG.cell s2 (by simp), hG.cell s3 (by simp)⟩) | (have hG := grown_set4 (grown_trans (grown_trans (grown_trans hg1 (grown_drewN wr 1 none)) hg18) hg17) w.heap.size (Nat.le_refl _) (k * 4) (k * 4 + 1) (k * 4 + 2) (k * 4 + 3) (.string x0) (.string x1) (.int .u64 x2) (.slice va' vn vn); exact ⟨hG, hG.cell s0 (by simp), hG.cell s1 (by simp), hG.cell s2 (by simp), hG.cell s3 (by simp)⟩))
        (first | (go_at_call 18; refine (cloneB_any _ 0 va vn vc x3 (sB.grown (grown_trans hg1 (grown_drewN wr 1 none))) hvn).mono ?_; rintro e w18 ⟨va', rfl, hB18, hg18⟩) | (go_at_call 17; refine (mkItem_any _ x0 x1 x2 va' vn vn).mono ?_; rintro e w17 ⟨rfl, hg17⟩; have q0 := hg17.cell (hg18.cell (show wr.drew.cell? _ = _ from t0) (by simp)) (by simp); have q1 := hg17.cell (hg18.cell (show wr.drew.cell? _ = _ from t1) (by simp)) (by simp); have q2 := hg17.cell (hg18.cell (show wr.drew.cell? _ = _ from t2) (by simp)) (by simp); have q3 := hg17.cell (hg18.cell (show wr.drew.cell? _ = _ from t3) (by simp)) (by simp); have p0 := grown_free (grown_trans hg18 hg17) (show wr.drew.cell? _ = _ from t0) f0; have p1 := grown_free (grown_trans hg18 hg17) (show wr.drew.cell? _ = _ from t1) f1; have p2 := grown_free (grown_trans hg18 hg17) (show wr.drew.cell? _ = _ from t2) f2; have p3 := grown_free (grown_trans hg18 hg17) (show wr.drew.cell? _ = _ from t3) f3))
      go_wp2
      have hG : wr.grownBy w17 none := grown_trans (grown_trans (grown_drewN wr 1 none) hg18) hg17
      obtain ⟨e0, e1, e2, e3⟩ := E.out
      subst e0 e1 e2 e3
      have hst := itm_step (k := k) (len := len) (hB1.grown hG (by simp)) hcl hlt hk' (fun i h hi => (hI i h hi).grown hG) (c := vn) ((hB18.mono (by show w.heap.size + 1 ≤ wr.heap.size; omega)).grown hg17)
      go_roundw
      case rel => exact ⟨k + 1, by omega, by go_num, hst.1, hst.2, grown_set4 (grown_trans hg1 hG) w.heap.size (Nat.le_refl _) _ _ _ _ _ _ _ _⟩
      case measure => simp [intOf]; omega
    · have : k = len := by omega
      subst this
      go_wp2
      go_ret
      exact ⟨rfl, fun i h => hI i h (by rw [← HZ.out]; exact h), ⟨cs, hcl, hB1⟩, hg1⟩

set_option maxHeartbeats 400000 in
theorem makeI_zero (w : World) (x : Option Addr) (cap : Nat) :
    Calls Try.prog 9 #[.slice x 0 cap] w fun e w' => e = .returned (.slice (some ⟨w.heap.size, 0, none⟩) 0 0) ∧ Blk w' w.heap.size [] 51 ∧ w.grownBy w' none := by
  obtain ⟨i0, hi, hz0, hz1, hz2⟩ := info_parts Try.info51
  go_enter Try.func9, Try.ntmps9
  go_wp2_with (at_make; refine wpList_make_full _ rfl _ _ 36 rfl w.heap.size 51 i0 (.agg #[.string ⟨#[]⟩, .string ⟨#[]⟩, .int .u64 0, .slice none 0 0]) 4 Try.underlying36 hi hz0 hz1 .i64 .i64 _ _ 0 rfl rfl rfl rfl (by omega) (by unfold maxLen; omega) (Nat.le_refl _) ?_; intro w1 hown hgr)
  have hB := own_blk hown
  have hnil := List.eq_nil_of_length_eq_zero (show _ = 0 from hown.1)
  rw [hnil] at hB
  clear hnil
  clear hown hi hz0 hz1 hz2
  refine wp_loop_rounds 1 ?_
  rw [rounds_succ]
  go_wp2
  go_ret
  exact ⟨rfl, hB, hgr⟩

end Go.Proofs.Qxb6618474a
