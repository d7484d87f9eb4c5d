import Derived.Test.Qxb6618474aMem
import Derived.Deep.QuietTactic
import Derived.BigQuiet
namespace Go.Proofs.Qxb6618474a
open Go.ChangeShapes Go.WideShapes Go.ChangeAt Go.RowKit
set_option linter.unusedVariables false

theorem Try.info5 : (Try.prog.info? 5).map (fun i => (i.zero, i.size, i.bytes)) = some (some (.int .u8 0), 1, 1) := by kernel_rfl

/-- A slice of bytes: its length, and where it holds something, where its bytes lie (in no block below lo). -/
def BytesAt (w : World) (lo : Nat) (a : Option Addr) (n : Nat) (zs : List Int) : Prop :=
  zs.length = n ∧ (0 < n → ∃ g o, a = some ⟨g, o, none⟩ ∧ lo ≤ g ∧ ∀ i, i < n → w.cell? ⟨g, o + i, none⟩ = some (.int .u8 (zs.getD i 0)))

theorem BytesAt.grown {w w' : World} {lo : Nat} {a : Option Addr} {n : Nat} {zs : List Int} (h : BytesAt w lo a n zs) (hg : w.grownBy w' none) : BytesAt w' lo a n zs :=
  ⟨h.1, fun hn => by obtain ⟨g, o, ha, hl, hc⟩ := h.2 hn; exact ⟨g, o, ha, hl, fun i hi => hg.cell (hc i hi) (by simp)⟩⟩

/-- A store into a block below lo does not touch it. -/
theorem BytesAt.kept {w w' : World} {lo : Nat} {a : Option Addr} {n : Nat} {zs : List Int} {row : Nat} (h : BytesAt w lo a n zs) (hg : w.grownBy w' (some row)) (hr : row < lo) : BytesAt w' lo a n zs := by
  refine ⟨h.1, fun hn => ?_⟩
  obtain ⟨g, o, ha, hl, hc⟩ := h.2 hn
  refine ⟨g, o, ha, hl, fun i hi => hg.cell (hc i hi) ?_⟩
  intro e
  have e2 : g = row := by simpa using e
  omega

theorem BytesAt.mono {w : World} {lo lo' : Nat} {a : Option Addr} {n : Nat} {zs : List Int} (h : BytesAt w lo a n zs) (hl : lo' ≤ lo) : BytesAt w lo' a n zs :=
  ⟨h.1, fun hn => by obtain ⟨g, o, ha, hl', hc⟩ := h.2 hn; exact ⟨g, o, ha, Nat.le_trans hl hl', hc⟩⟩

set_option maxHeartbeats 400000 in
theorem cloneB_nil (w : World) (n c : Nat) : Calls Try.prog 18 #[.slice none n c] w fun e w' => e = .returned (.slice none 0 0) ∧ w' = w := by
  have he := fun w => Lib.run_eql_slice_nil (P := Try.prog) w 26 5 none n c 0 0 Try.underlying26
  go_enter Try.func18, Try.ntmps18
  go_wp2
  go_ret
  exact ⟨rfl, rfl⟩

set_option maxHeartbeats 400000 in
theorem cloneB_zero (w : World) (x : Addr) (cap : Nat) :
    Calls Try.prog 18 #[.slice (some x) 0 cap] w fun e w' => e = .returned (.slice (some ⟨w.heap.size, 0, none⟩) 0 0) ∧ w.grownBy w' none := by
  have he := fun w => Lib.run_eql_slice_nil (P := Try.prog) w 26 5 (some x) 0 cap 0 0 Try.underlying26
  obtain ⟨i0, hi, hz0, hz1, hz2⟩ := info_parts Try.info5
  go_enter Try.func18, Try.ntmps18
  go_wp2_with (at_make; refine wpList_make_full _ rfl _ _ 26 rfl w.heap.size 5 i0 (.int .u8 0) 1 Try.underlying26 hi hz0 hz1 .i64 .i64 _ _ 0 rfl rfl rfl rfl (by omega) (by unfold maxLen; omega) (Nat.le_refl _) ?_; intro w1 hown hgr)
  clear hown he hi hz0 hz1 hz2
  refine wp_loop_rounds 1 ?_
  rw [rounds_succ]
  go_wp2
  go_ret
  exact ⟨rfl, hgr⟩

set_option maxHeartbeats 400000 in
theorem cloneB_pos (w : World) (b off len cap : Nat) (zs : List Int) (hl : len ≤ 1048576) (hz : zs.length = len)
    (hc : ∀ i, i < len → w.cell? ⟨b, off + i, none⟩ = some (.int .u8 (zs.getD i 0))) (hb : b < w.heap.size) :
    Calls Try.prog 18 #[.slice (some ⟨b, off, none⟩) len cap] w fun e w' => e = .returned (.slice (some ⟨w.heap.size, 0, none⟩) len len) ∧ Blk w' w.heap.size (wds zs) 5 ∧ w.grownBy w' none := by
  have he := fun w => Lib.run_eql_slice_nil (P := Try.prog) w 26 5 (some ⟨b, off, none⟩) len cap 0 0 Try.underlying26
  obtain ⟨i0, hi, hz0, hz1, hz2⟩ := info_parts Try.info5
  have hb2 : i0.bytes * len ≤ 281474976710656 := by rw [hz2]; omega
  go_enter Try.func18, Try.ntmps18
  go_wp2_with (at_make; refine wpList_make_full _ rfl _ _ 26 rfl w.heap.size 5 i0 (.int .u8 0) 1 Try.underlying26 hi hz0 hz1 .i64 .i64 _ _ len rfl rfl rfl rfl hb2 (by unfold maxLen; omega) (Nat.le_refl _) ?_; intro w1 hown hgr)
  have hB := own_blk hown
  rw [made_words] at hB
  have HZ : Hid (zs.length = len) := hz
  clear hown he hi hz0 hz1 hz2 hz hb2
  go_loopw [4] (fun i wr => ∃ k : Nat, k ≤ len ∧ i = .int .i64 k ∧ Blk wr w.heap.size (wds (zs.take k ++ List.replicate (len - k) 0)) 5 ∧ w.grownBy wr none) (fun i _ => len - (intOf i).toNat)
  case atStart => exact ⟨0, Nat.zero_le _, rfl, by simpa using hB, hgr⟩
  case round =>
    obtain ⟨k, hk, rfl, hB1, hg1⟩ := hrel
    by_cases hlt : k < len
    · have hcx : wr.cell? ⟨b, off + k, none⟩ = some (.int .u8 (zs.getD k 0)) := by
        rw [World.cell?_of_block (w := w) (hg1.block b hb (by simp))]; exact hc k hlt
      have hcy := hB1.word (j := k) (by simp [HZ.out]; omega)
      have hfy := hB1.free k
      clear hB hgr
      go_wp2
      go_roundw
      case rel =>
        refine ⟨k + 1, by omega, by go_num, ?_, ?_⟩
        · have := hB1.set k (.int .u8 (zs.getD k 0))
          rw [wds_set, ← HZ.out, copy_step zs k (by rw [HZ.out]; exact hlt), HZ.out] at this
          exact this
        · exact grown_trans_new hg1 (grown_set _ _ _ _) (by intro i hi; simp at hi; omega)
      case measure => simp [intOf]; omega
    · have hkl : k = len := by omega
      subst hkl
      go_wp2
      go_ret
      refine ⟨rfl, ?_, hg1⟩
      simpa [List.take_of_length_le (Nat.le_of_eq HZ.out)] using hB1

theorem cloneB_any (w : World) (lo : Nat) (a : Option Addr) (len cap : Nat) (zs : List Int) (h : BytesAt w lo a len zs) (hl : len ≤ 1048576) :
    Calls Try.prog 18 #[.slice a len cap] w fun e w' => ∃ a', e = .returned (.slice a' len len) ∧ BytesAt w' w.heap.size a' len zs ∧ w.grownBy w' none := by
  by_cases h0 : len = 0
  · subst h0
    cases a with
    | none =>
      refine (cloneB_nil w 0 cap).mono ?_
      rintro e w' ⟨rfl, rfl⟩
      exact ⟨none, rfl, ⟨h.1, fun hn => by omega⟩, World.grownBy.refl _ _⟩
    | some x =>
      refine (cloneB_zero w x cap).mono ?_
      rintro e w' ⟨rfl, hg⟩
      exact ⟨_, rfl, ⟨h.1, fun hn => by omega⟩, hg⟩
  · obtain ⟨g, o, rfl, _, hc⟩ := h.2 (by omega)
    refine (cloneB_pos w g o len cap zs hl h.1 hc (World.block_lt_of_cell? w _ (hc 0 (by omega)))).mono ?_
    rintro e w' ⟨rfl, hB, hg⟩
    refine ⟨_, rfl, ⟨h.1, fun _ => ⟨_, 0, rfl, Nat.le_refl _, fun i hi => ?_⟩⟩, hg⟩
    rw [Nat.zero_add]
    exact hB.word (by rw [h.1]; exact hi)

set_option maxHeartbeats 400000 in
theorem eqB_zero (w : World) (a b : Option Addr) (c d : Nat) : Calls Try.prog 21 #[.slice a 0 c, .slice b 0 d] w fun e w' => e = .returned (.bool true) ∧ ∃ q, w' = w.drewN q := by
  go_enter Try.func21, Try.ntmps21
  go_wp2
  refine wp_loop_rounds 1 ?_
  rw [rounds_succ]
  go_wp2
  go_ret
  exact ⟨rfl, 0, rfl⟩

set_option maxHeartbeats 400000 in
theorem eqB_pos (w : World) (g1 o1 g2 o2 n c1 c2 : Nat) (zs : List Int) (hn : n ≤ 1048576)
    (h1 : ∀ i, i < n → w.cell? ⟨g1, o1 + i, none⟩ = some (.int .u8 (zs.getD i 0))) (h2 : ∀ i, i < n → w.cell? ⟨g2, o2 + i, none⟩ = some (.int .u8 (zs.getD i 0))) :
    Calls Try.prog 21 #[.slice (some ⟨g1, o1, none⟩) n c1, .slice (some ⟨g2, o2, none⟩) n c2] w fun e w' => e = .returned (.bool true) ∧ ∃ q, w' = w.drewN q := by
  have hne : ((n : Int) != (n : Int)) = false := by simp
  have H1 : Hid (∀ i, i < n → w.cell? ⟨g1, o1 + i, none⟩ = some (.int .u8 (zs.getD i 0))) := h1
  have H2 : Hid (∀ i, i < n → w.cell? ⟨g2, o2 + i, none⟩ = some (.int .u8 (zs.getD i 0))) := h2
  clear h1 h2
  go_enter Try.func21, Try.ntmps21
  go_wp2
  go_loopw [5] (fun i wr => ∃ k : Nat, k ≤ n ∧ i = .int .i64 k ∧ ∃ q, wr = w.drewN q) (fun i _ => n - (intOf i).toNat)
  case atStart => exact ⟨0, Nat.zero_le _, rfl, 0, rfl⟩
  case round =>
    obtain ⟨k, hk, rfl, q, rfl⟩ := hrel
    by_cases hlt : k < n
    · have hlt' : (k : Int) < (n : Int) := by omega
      have d0 := H1.out k hlt
      have e0 := H2.out k hlt
      generalize zs.getD k 0 = x at d0 e0
      have hx : (x != x) = false := by simp
      go_wp2
      go_quiet (fail)
      go_wp2
      go_roundw
      case rel => exact ⟨k + 1, by omega, by go_num, _, rfl⟩
      case measure => simp [intOf]; omega
    · go_wp2
      go_ret
      exact ⟨rfl, q, rfl⟩

theorem eqB_any (w : World) (lo lo' : Nat) (a b : Option Addr) (n c d : Nat) (zs : List Int) (hn : n ≤ 1048576) (h1 : BytesAt w lo a n zs) (h2 : BytesAt w lo' b n zs) :
    Calls Try.prog 21 #[.slice a n c, .slice b n d] w fun e w' => e = .returned (.bool true) ∧ ∃ q, w' = w.drewN q := by
  by_cases h0 : n = 0
  · subst h0
    exact eqB_zero w a b c d
  · obtain ⟨g1, o1, rfl, _, c1⟩ := h1.2 (by omega)
    obtain ⟨g2, o2, rfl, _, c2⟩ := h2.2 (by omega)
    exact eqB_pos w g1 o1 g2 o2 n c d zs hn c1 c2

end Go.Proofs.Qxb6618474a
