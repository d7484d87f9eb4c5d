import Derived.Test.Qxb6618472aKnown
namespace Go.Proofs.Qxb6618472a
open Go.ChangeShapes Go.WideShapes Go.ChangeAt Go.RowKit
set_option linter.unusedVariables false

theorem Try.info43 : (Try.prog.info? 43).map (fun i => (i.zero, i.size, i.bytes)) = some (some (.agg #[.int .i64 0, .int .u64 0]), 2, 16) := by kernel_rfl

/-- The matrix behind k rounds of send. -/
def sent (fifo : Bool) (K : List Int) (wd j k : Nat) : List Int := if fifo then upd K wd j k else K

theorem sent_len (fifo : Bool) (K : List Int) (wd j k : Nat) : (sent fifo K wd j k).length = K.length := by unfold sent; split <;> simp [upd_len]
theorem sent_own (fifo : Bool) (K : List Int) (wd j k : Nat) (h : k * wd + j / 64 < K.length) : (sent fifo K wd j k).getD (k * wd + j / 64) 0 = K.getD (k * wd + j / 64) 0 := by
  unfold sent; split
  · exact upd_own K wd j k h
  · rfl
theorem sent_known (fifo : Bool) (K : List Int) (wd j k : Nat) (hq : j / 64 < wd) (h : k * wd + j / 64 < K.length) (hK : Fits K) (hk : knw (K.getD (k * wd + j / 64) 0) j = true) : sent fifo K wd j (k + 1) = sent fifo K wd j k := by
  unfold sent; split
  · exact upd_known K wd j k hq h hK hk
  · rfl

theorem ent_known (C K : List Int) (wd j : Nat) (skip : Int) (k : Nat) (h : knw (K.getD (k * wd + j / 64) 0) j = true) : ent C K wd j skip (k + 1) = ent C K wd j skip k := by
  conv => lhs; unfold ent
  rw [if_neg (fun c => by rw [h] at c; exact absurd c.2 (by simp)), List.append_nil]
theorem ent_new (C K : List Int) (wd j : Nat) (skip : Int) (k : Nat) (hs : (k : Int) ≠ skip) (h : knw (K.getD (k * wd + j / 64) 0) j = false) : ent C K wd j skip (k + 1) = ent C K wd j skip k ++ [(k, C.getD k 0)] := by
  conv => lhs; unfold ent
  rw [if_pos ⟨hs, h⟩]
theorem ent_skip (C K : List Int) (wd j : Nat) (skip : Int) (k : Nat) (hs : (k : Int) = skip) : ent C K wd j skip (k + 1) = ent C K wd j skip k := by
  simp [ent, hs]

/-- What send asks of the memory: the tracker's own cells, the clock, the matrix. -/
structure Tracker (w : World) (gt gc gk : Nat) (p : Int) (nc : Nat) (cc : Nat) (fifo : Bool) (wd : Nat) (nk ck : Nat) (C K : List Int) : Prop where
  t : Blk w gt [.int .i64 p, .slice (some ⟨gc, 0, none⟩) nc cc, .bool fifo, .int .i64 wd, .slice (some ⟨gk, 0, none⟩) nk ck] 40
  c : Blk w gc (wds C) 32
  k : Blk w gk (wds K) 32
  tk : gt ≠ gk
  ck : gc ≠ gk
  lc : C.length = nc
  lk : K.length = nk

/-- Behind an append to a row that is new since w: what was there at w, but for the matrix, is as it was; of what lies below, nothing has turned since wr. -/
theorem app_step {w wr w1 : World} {gk q e size n : Nat} {v : Value} {xs : List Value} {o : Obj} (hg : w.grownBy wr (some gk)) (hown : wr.ownsRow w.heap.size e size v n xs) (hgr : ((wr.drewN q).alloc o).grownBy w1 v.ownBlock) :
    w.grownBy w1 (some gk) ∧ (∀ g cs t, g < w.heap.size → Blk wr g cs t → Blk w1 g cs t) ∧ ∀ a v, a.block < w.heap.size → wr.cell? a = some v → w1.cell? a = some v := by
  have h1 : wr.grownBy w1 v.ownBlock := grown_trans (grown_trans (grown_drewN wr q _) (World.grownBy_alloc _ o _)) hgr
  have h2 : ∀ i, v.ownBlock = some i → w.heap.size ≤ i := fun i hi => (hown.lt i hi).1
  exact ⟨grown_trans_new hg h1 h2, fun g cs t hlt hb => hb.grown h1 (fun e => by have := h2 g e.symm; omega), fun a v hlt hc => h1.cell hc (fun e => by have := h2 a.block e.symm; omega)⟩

set_option maxHeartbeats 1000000 in
theorem send_pos (w : World) (gt gc gk : Nat) (p : Int) (nc cc : Nat) (fifo : Bool) (wd nk ckk j : Nat) (C K : List Int)
    (hT : Tracker w gt gc gk p nc cc fifo wd nk ckk C K) (hK : Fits K) (hnc : nc ≤ 4096) (hnk : nk ≤ 65536) (hwd : wd ≤ 65536) (hj : j < 64 * wd) (hn : nc * wd ≤ nk) :
    Calls Try.prog 14 #[.pointer (some ⟨gt, 0, none⟩), .int .i64 j] w fun e w' => ∃ v, e = .returned v ∧ w'.ownsRow w.heap.size 43 2 v (ent C K wd j (-1) nc).length (flat (ent C K wd j (-1) nc)) ∧
      Blk w' gk (wds (sent fifo K wd j nc)) 32 ∧ w.grownBy w' (some gk) := by
  obtain ⟨i0, hi, hz0, hz1, hz2⟩ := info_parts Try.info43
  have c1 := hT.t.cell (j := 1) (by simp)
  simp only [List.getElem_cons_succ, List.getElem_cons_zero] at c1
  go_enter Try.func14, Try.ntmps14
  go_wp2
  clear c1
  go_loopw [5, 14] (fun v i wr => ∃ k : Nat, k ≤ nc ∧ i = .int .i64 k ∧ wr.ownsRow w.heap.size 43 2 v (ent C K wd j (-1) k).length (flat (ent C K wd j (-1) k)) ∧ Blk wr gk (wds (sent fifo K wd j k)) 32 ∧ w.grownBy wr (some gk)) (fun _ i _ => nc - (intOf i).toNat)
  case atStart => exact ⟨0, Nat.zero_le _, rfl, World.ownsRow_nil _ _ _ _, by simpa [sent, upd_zero] using hT.k, World.grownBy.refl _ _⟩
  case round =>
    obtain ⟨k, hk, rfl, hown, hB, hg⟩ := hrel
    by_cases hlt : k < nc
    · have hq : j / 64 < wd := by omega
      have hin : k * wd + j / 64 < nk := by
        have : (k + 1) * wd ≤ nc * wd := Nat.mul_le_mul_right _ hlt
        rw [Nat.add_mul] at this; omega
      have hTt := hT.t.grown hg (by simpa using hT.tk)
      have c2 := hTt.cell (j := 2) (by simp)
      have c3 := hTt.cell (j := 3) (by simp)
      have c4 := hTt.cell (j := 4) (by simp)
      simp only [List.getElem_cons_succ, List.getElem_cons_zero] at c2 c3 c4
      have cc' := (hT.c.grown hg (by simpa using hT.ck)).word (j := k) (by rw [hT.lc]; exact hlt)
      have cx := hB.word (j := k * wd + j / 64) (by rw [sent_len, hT.lk]; exact hin)
      rw [sent_own fifo K wd j k (by rw [hT.lk]; exact hin)] at cx
      have hgt := hT.t.lt
      have hgk := hT.k.lt
      obtain ⟨x, hx⟩ : ∃ x, x = K.getD (k * wd + j / 64) 0 := ⟨_, rfl⟩
      rw [← hx] at cx
      obtain ⟨c, hc⟩ : ∃ c, c = C.getD k 0 := ⟨_, rfl⟩
      rw [← hc] at cc'
      have HC : Hid (c = C.getD k 0) := hc
      clear hc
      obtain ⟨m, hm⟩ : ∃ m, m = k * wd := ⟨_, rfl⟩
      rw [← hm] at cx
      have hm' : (k : Int) * (wd : Int) = (m : Int) := by rw [hm]; simp
      have hin' : m + j / 64 < nk := by rw [hm]; exact hin
      have HX : Hid (x = K.getD (k * wd + j / 64) 0) := hx
      have HM : Hid (m = k * wd) := hm
      have HM' : Hid ((k : Int) * (wd : Int) = (m : Int)) := hm'
      clear hx hm hm' hin
      by_cases hkn : knw x j = true
      · go_wp2_with (go_at_call 16; refine (isKnown_any _ gt gk nk ckk wd j k m x hwd (by omega) (by omega) hnk HM'.out hin' c3 c4 cx).mono ?_; rintro e w' ⟨rfl, n, rfl⟩)
        go_roundw
        case rel =>
          refine ⟨k + 1, by omega, by go_num, ?_, ?_, grown_trans hg (grown_drewN _ _ _)⟩
          · rw [ent_known C K wd j (-1) k (by rw [← HX.out]; exact hkn)]; exact hown
          · rw [sent_known fifo K wd j k hq (by rw [hT.lk, ← HM.out]; exact hin') hK (by rw [← HX.out]; exact hkn)]; exact hB
        case measure => simp [intOf]; omega
      · have hkf : knw x j = false := by simpa using hkn
        clear hkn
        have hel := ent_len C K wd j (-1) k
        obtain ⟨N, hN⟩ : ∃ N, N = (ent C K wd j (-1) k).length := ⟨_, rfl⟩
        obtain ⟨X, hX⟩ : ∃ X, X = flat (ent C K wd j (-1) k) := ⟨_, rfl⟩
        rw [← hN] at hel hown
        rw [← hX] at hown
        have HN : Hid (N = (ent C K wd j (-1) k).length) := hN
        have HXX : Hid (X = flat (ent C K wd j (-1) k)) := hX
        clear hN hX
        have hc2 : ∀ u ∈ ([.int .i64 k, .int .u64 c] : List Value), u.oneCell' = true := by intro u hu; simp at hu; rcases hu with rfl | rfl <;> rfl
        have hc3 : N + 1 ≤ maxLen := by unfold maxLen; omega
        have hc4 : (N + 1) * 16 ≤ 140737488355328 := by omega
        have he1 : ent C K wd j (-1) (k + 1) = ent C K wd j (-1) k ++ [(k, c)] := by rw [ent_new C K wd j (-1) k (by omega) (by rw [← HX.out]; exact hkf), HC.out]
        have hlen : (ent C K wd j (-1) (k + 1)).length = N + 1 := by rw [he1, HN.out]; simp
        have hfl : flat (ent C K wd j (-1) (k + 1)) = X ++ [.int .i64 k, .int .u64 c] := by rw [he1, flat_snoc, HXX.out]
        have HL : Hid ((ent C K wd j (-1) (k + 1)).length = N + 1) := hlen
        have HF : Hid (flat (ent C K wd j (-1) (k + 1)) = X ++ [.int .i64 k, .int .u64 c]) := hfl
        clear he1 hlen hfl
        cases fifo
        · go_wp2_with (first | (go_at_call 16; refine (isKnown_any _ gt gk nk ckk wd j k m x hwd (by omega) (by omega) hnk HM'.out hin' c3 c4 cx).mono ?_; rintro e w' ⟨rfl, n, rfl⟩) | (at_builtin; refine wpList_append_own _ rfl _ _ 27 rfl w.heap.size 43 i0 (.agg #[.int .i64 0, .int .u64 0]) 2 16 Try.underlying27 hi hz0 hz1 hz2 rfl (by decide) _ N X rfl (World.ownsRow.alloc (w := World.drewN wr _) hown _) ⟨wr.heap.size, 0, none⟩ 1 1 [.int .i64 k, .int .u64 c] rfl rfl (cell_two_new (World.drewN wr _) _ _ _) hc2 hc3 hc4 (Nat.le_trans hg.size (World.grownBy_alloc (World.drewN wr _) _ none).size) ?_; intro v' w1 hown' hgr _; have hst := app_step hg hown hgr; have d2 := hst.2.2 _ _ (by exact hgt) c2; have d3 := hst.2.2 _ _ (by exact hgt) c3; have d4 := hst.2.2 _ _ (by exact hgt) c4; have dx := hst.2.2 _ _ (by exact hgk) cx; have df := (hst.2.1 gk _ _ hgk hB).free (m + j / 64)))
          go_roundw
          case rel =>
            refine ⟨k + 1, by omega, by go_num, ?_, ?_, hst.1⟩
            · rw [HL.out, HF.out]; exact hown'
            · exact hst.2.1 gk _ _ hgk hB
          case measure => simp [intOf]; omega
        · go_wp2_with (first | (go_at_call 16; refine (isKnown_any _ gt gk nk ckk wd j k m x hwd (by omega) (by omega) hnk HM'.out hin' c3 c4 cx).mono ?_; rintro e w' ⟨rfl, n, rfl⟩) | (at_builtin; refine wpList_append_own _ rfl _ _ 27 rfl w.heap.size 43 i0 (.agg #[.int .i64 0, .int .u64 0]) 2 16 Try.underlying27 hi hz0 hz1 hz2 rfl (by decide) _ N X rfl (World.ownsRow.alloc (w := World.drewN wr _) hown _) ⟨wr.heap.size, 0, none⟩ 1 1 [.int .i64 k, .int .u64 c] rfl rfl (cell_two_new (World.drewN wr _) _ _ _) hc2 hc3 hc4 (Nat.le_trans hg.size (World.grownBy_alloc (World.drewN wr _) _ none).size) ?_; intro v' w1 hown' hgr _; have hst := app_step hg hown hgr; have d2 := hst.2.2 _ _ (by exact hgt) c2; have d3 := hst.2.2 _ _ (by exact hgt) c3; have d4 := hst.2.2 _ _ (by exact hgt) c4; have dx := hst.2.2 _ _ (by exact hgk) cx; have df := (hst.2.1 gk _ _ hgk hB).free (m + j / 64)) | (go_at_call 15; refine (setKnown_any _ gt gk nk ckk wd j k m x hwd (by omega) (by omega) hnk HM'.out hin' d3 d4 dx df).mono ?_; rintro e w' ⟨rfl, rfl⟩))
          go_roundw
          case rel =>
            refine ⟨k + 1, by omega, by go_num, ?_, ?_, grown_trans hst.1 (grown_set_drew w1 gk _ _)⟩
            · rw [HL.out, HF.out]; exact own_grown hown' (grown_set_drew w1 gk (m + j / 64) (.int .u64 (orb x j))) (by intro i hi; cases hi; exact hgk)
            · have h := (hst.2.1 gk _ _ hgk hB).set (m + j / 64) (.int .u64 (orb x j))
              rw [wds_set] at h
              have e := upd_succ K wd j k hq (by rw [hT.lk, ← HM.out]; exact hin')
              have e' : sent true K wd j (k + 1) = (sent true K wd j k).set (k * wd + j / 64) (orb (K.getD (k * wd + j / 64) 0) j) := e
              rw [e', ← HX.out, ← HM.out]
              exact h
          case measure => simp [intOf]; omega
    · go_wp2
      go_ret
      have : k = nc := by omega
      subst this
      exact ⟨_, rfl, hown, hB, hg⟩

end Go.Proofs.Qxb6618472a
