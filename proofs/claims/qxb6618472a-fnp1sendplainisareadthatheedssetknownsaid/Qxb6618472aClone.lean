import Derived.Test.Qxb6618472aMem
namespace Go.Proofs.Qxb6618472a
open Go.ChangeShapes Go.WideShapes Go.ChangeAt Go.RowKit
set_option linter.unusedVariables false

theorem Try.info32 : (Try.prog.info? 32).map (fun i => (i.zero, i.size, i.bytes)) = some (some (.int .u64 0), 1, 8) := by kernel_rfl

set_option maxHeartbeats 400000 in
theorem clone_nil (w : World) : Calls Try.prog 6 #[.slice none 0 0] w fun e w' => e = .returned (.slice none 0 0) ∧ w' = w := by
  have he := fun w => Lib.run_eql_slice_nil (P := Try.prog) w 22 32 none 0 0 0 0 Try.underlying22
  go_enter Try.func6, Try.ntmps6
  go_wp2
  go_ret
  exact ⟨rfl, rfl⟩

set_option maxHeartbeats 400000 in
theorem clone_pos (w : World) (b off len cap : Nat) (zs : List Int) (hl : len ≤ 1048576) (hz : zs.length = len)
    (hc : ∀ i, i < len → w.cell? ⟨b, off + i, none⟩ = some (.int .u64 (zs.getD i 0))) (hb : b < w.heap.size) :
    Calls Try.prog 6 #[.slice (some ⟨b, off, none⟩) len cap] w fun e w' => e = .returned (.slice (some ⟨w.heap.size, 0, none⟩) len len) ∧ Blk w' w.heap.size (wds zs) 32 ∧ w.grownBy w' none := by
  have he := fun w => Lib.run_eql_slice_nil (P := Try.prog) w 22 32 (some ⟨b, off, none⟩) len cap 0 0 Try.underlying22
  obtain ⟨i0, hi, hz0, hz1, hz2⟩ := info_parts Try.info32
  have hb2 : i0.bytes * len ≤ 281474976710656 := by rw [hz2]; omega
  go_enter Try.func6, Try.ntmps6
  go_wp2_with (at_make; refine wpList_make_full _ rfl _ _ 22 rfl w.heap.size 32 i0 (.int .u64 0) 1 Try.underlying22 hi hz0 hz1 .i64 .i64 _ _ len rfl rfl rfl rfl hb2 (by unfold maxLen; omega) (Nat.le_refl _) ?_; intro w1 hown hgr)
  have hB := own_blk hown
  rw [made_words] at hB
  have HZ : Hid (zs.length = len) := hz
  clear hown he hi hz0 hz1 hz2 hz hb2
  go_loopw [4] (fun i wr => ∃ k : Nat, k ≤ len ∧ i = .int .i64 k ∧ Blk wr w.heap.size (wds (zs.take k ++ List.replicate (len - k) 0)) 32 ∧ w.grownBy wr none) (fun i _ => len - (intOf i).toNat)
  case atStart => exact ⟨0, Nat.zero_le _, rfl, by simpa using hB, hgr⟩
  case round =>
    obtain ⟨k, hk, rfl, hB1, hg1⟩ := hrel
    by_cases hlt : k < len
    · have hcx : wr.cell? ⟨b, off + k, none⟩ = some (.int .u64 (zs.getD k 0)) := by
        rw [World.cell?_of_block (w := w) (hg1.block b hb (by simp))]; exact hc k hlt
      have hcy := hB1.word (j := k) (by simp [HZ.out]; omega)
      have hfy := hB1.free k
      clear hB hgr
      go_wp2
      go_roundw
      case rel =>
        refine ⟨k + 1, by omega, by go_num, ?_, ?_⟩
        · have := hB1.set k (.int .u64 (zs.getD k 0))
          rw [wds_set, ← HZ.out, copy_step zs k (by rw [HZ.out]; exact hlt), HZ.out] at this
          exact this
        · exact grown_trans_new hg1 (grown_set _ _ _ _) (by intro i hi; simp at hi; omega)
      case measure => simp [intOf]; omega
    · have hkl : k = len := by omega
      subst hkl
      go_wp2
      go_ret
      refine ⟨rfl, ?_, hg1⟩
      simpa [List.take_of_length_le (Nat.le_of_eq HZ.out)] using hB1

end Go.Proofs.Qxb6618472a
