import Derived.Test.Qxb6618472aSend
namespace Go.Proofs.Qxb6618472a
open Go.ChangeShapes Go.WideShapes Go.ChangeAt Go.RowKit
set_option linter.unusedVariables false

/-- Behind an append to a row that is new since w, the new cells in a block of their own. -/
theorem app_plain {w wr w1 : World} {e size n : Nat} {v : Value} {xs : List Value} {o : Obj} (hg : w.grownBy wr none) (hown : wr.ownsRow w.heap.size e size v n xs) (hgr : (wr.alloc o).grownBy w1 v.ownBlock) :
    w.grownBy w1 none := by
  have h1 : wr.grownBy w1 v.ownBlock := grown_trans (World.grownBy_alloc _ o _) hgr
  exact grown_trans_new hg h1 (fun i hi => (hown.lt i hi).1)

set_option maxHeartbeats 1000000 in
theorem unk_pos (w : World) (gc gk : Nat) (nc cc : Nat) (wd nk ckk j : Nat) (skip : Int) (C K : List Int)
    (hC : Blk w gc (wds C) 32) (hKb : Blk w gk (wds K) 32) (lc : C.length = nc) (lk : K.length = nk)
    (hK : Fits K) (hnc : nc ≤ 4096) (hnk : nk ≤ 65536) (hwd : wd ≤ 65536) (hj : j < 64 * wd) (hn : nc * wd ≤ nk) :
    Calls Try.prog 10 #[.slice (some ⟨gc, 0, none⟩) nc cc, .int .i64 wd, .slice (some ⟨gk, 0, none⟩) nk ckk, .int .i64 j, .int .i64 skip] w fun e w' => ∃ v, e = .returned v ∧ w'.ownsRow w.heap.size 43 2 v (ent C K wd j skip nc).length (flat (ent C K wd j skip nc)) ∧ w.grownBy w' none := by
  obtain ⟨i0, hi, hz0, hz1, hz2⟩ := info_parts Try.info43
  go_enter Try.func10, Try.ntmps10
  go_wp2
  go_loopw [11, 12] (fun v i wr => ∃ k : Nat, k ≤ nc ∧ i = .int .i64 k ∧ wr.ownsRow w.heap.size 43 2 v (ent C K wd j skip k).length (flat (ent C K wd j skip k)) ∧ w.grownBy wr none) (fun _ i _ => nc - (intOf i).toNat)
  case atStart => exact ⟨0, Nat.zero_le _, rfl, World.ownsRow_nil _ _ _ _, World.grownBy.refl _ _⟩
  case round =>
    obtain ⟨k, hk, rfl, hown, hg⟩ := hrel
    by_cases hlt : k < nc
    · have hq : j / 64 < wd := by omega
      have hin : k * wd + j / 64 < nk := by
        have : (k + 1) * wd ≤ nc * wd := Nat.mul_le_mul_right _ hlt
        rw [Nat.add_mul] at this; omega
      have cc' := (hC.grown hg (by simp)).word (j := k) (by rw [lc]; exact hlt)
      have cx := (hKb.grown hg (by simp)).word (j := k * wd + j / 64) (by rw [lk]; exact hin)
      have hxf := hK (k * wd + j / 64)
      obtain ⟨x, hx⟩ : ∃ x, x = K.getD (k * wd + j / 64) 0 := ⟨_, rfl⟩
      rw [← hx] at cx hxf
      obtain ⟨c, hc⟩ : ∃ c, c = C.getD k 0 := ⟨_, rfl⟩
      rw [← hc] at cc'
      obtain ⟨m, hm⟩ : ∃ m, m = k * wd := ⟨_, rfl⟩
      rw [← hm] at cx
      have hm' : (k : Int) * (wd : Int) = (m : Int) := by rw [hm]; simp
      have hin' : m + j / 64 < nk := by rw [hm]; exact hin
      have HX : Hid (x = K.getD (k * wd + j / 64) 0) := hx
      have HC : Hid (c = C.getD k 0) := hc
      clear hx hm hin hc lc lk
      have hsk := shr_knw x j hxf.1 hxf.2
      clear hxf
      have hel := ent_len C K wd j skip k
      by_cases hks : (k : Int) = skip
      · have hks' : ((k : Int) == skip) = true := by simpa using hks
        have HE : Hid (ent C K wd j skip (k + 1) = ent C K wd j skip k) := ent_skip C K wd j skip k hks
        clear hks hsk
        go_wp2
        go_roundw
        case rel => exact ⟨k + 1, by omega, by go_num, by rw [HE.out]; exact hown, hg⟩
        case measure => simp [intOf]; omega
      · have hks' : ((k : Int) == skip) = false := by simpa using hks
        by_cases hkn : knw x j = true
        · rw [hkn] at hsk
          have HE : Hid (ent C K wd j skip (k + 1) = ent C K wd j skip k) := ent_known C K wd j skip k (by rw [← HX.out]; exact hkn)
          clear hkn hks
          simp only [Bool.not_true] at hsk
          go_wp2
          go_roundw
          case rel => exact ⟨k + 1, by omega, by go_num, by rw [HE.out]; exact hown, hg⟩
          case measure => simp [intOf]; omega
        · have hkf : knw x j = false := by simpa using hkn
          rw [hkf] at hsk
          simp only [Bool.not_false] at hsk
          have he1 : ent C K wd j skip (k + 1) = ent C K wd j skip k ++ [(k, c)] := by rw [ent_new C K wd j skip k hks (by rw [← HX.out]; exact hkf), HC.out]
          clear hkn hks hkf
          obtain ⟨N, hN⟩ : ∃ N, N = (ent C K wd j skip k).length := ⟨_, rfl⟩
          obtain ⟨X, hX⟩ : ∃ X, X = flat (ent C K wd j skip k) := ⟨_, rfl⟩
          rw [← hN] at hel hown
          rw [← hX] at hown
          have HL : Hid ((ent C K wd j skip (k + 1)).length = N + 1) := by rw [he1, hN]; simp [Hid]
          have HF : Hid (flat (ent C K wd j skip (k + 1)) = X ++ [.int .i64 k, .int .u64 c]) := by rw [he1, flat_snoc, hX]; simp [Hid]
          clear he1 hN hX
          have hc2 : ∀ u ∈ ([.int .i64 k, .int .u64 c] : List Value), u.oneCell' = true := by intro u hu; simp at hu; rcases hu with rfl | rfl <;> rfl
          have hc3 : N + 1 ≤ maxLen := by unfold maxLen; omega
          have hc4 : (N + 1) * 16 ≤ 140737488355328 := by omega
          go_wp2_with (at_builtin; refine wpList_append_own _ rfl _ _ 27 rfl w.heap.size 43 i0 (.agg #[.int .i64 0, .int .u64 0]) 2 16 Try.underlying27 hi hz0 hz1 hz2 rfl (by decide) _ N X rfl (hown.alloc _) ⟨wr.heap.size, 0, none⟩ 1 1 [.int .i64 k, .int .u64 c] rfl rfl (cell_two_new wr _ _ _) hc2 hc3 hc4 (Nat.le_trans hg.size (World.grownBy_alloc wr _ none).size) ?_; intro v' w1 hown' hgr _; have hst := app_plain hg hown hgr)
          go_roundw
          case rel => exact ⟨k + 1, by omega, by go_num, by rw [HL.out, HF.out]; exact hown', hst⟩
          case measure => simp [intOf]; omega
    · go_wp2
      go_ret
      have : k = nc := by omega
      subst this
      exact ⟨_, rfl, hown, hg⟩

end Go.Proofs.Qxb6618472a
