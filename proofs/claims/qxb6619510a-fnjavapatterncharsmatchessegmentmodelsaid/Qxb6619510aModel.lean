/- The segment model reads the same characters. -/
import Derived.Test.Qxb6619510aQend
namespace Go.Proofs.Qxb6619510a
open Go.RowKit
set_option linter.unusedVariables false
set_option maxRecDepth 100000

theorem tr3_one {w : World} {B : Nat} {v1 v2 v3 : Value} {l : List (Int × Nat × Bool)} {N k : Nat} {r : Int} {q : Bool} (hN : N = l.length)
    (h : Tri w B v1 v2 v3 (N + 1) (N + 1) (N + 1) (fR l ++ [.int .i32 r]) (fA l ++ [.int .i64 ((k : Int) + 1)]) (fQ l ++ [.bool q])) : Tr3 w B v1 v2 v3 (l ++ [(r, k + 1, q)]) := by
  subst hN
  unfold Tr3
  simpa [fR, fA, fQ] using h

theorem tr3_two {w : World} {B : Nat} {v1 v2 v3 : Value} {l : List (Int × Nat × Bool)} {N k : Nat} {r r' : Int} {q q' : Bool} (hN : N = l.length)
    (h : Tri w B v1 v2 v3 (N + 2) (N + 2) (N + 2) (fR l ++ [.int .i32 r, .int .i32 r']) (fA l ++ [.int .i64 ((k : Int) + 1), .int .i64 ((k : Int) + 2)]) (fQ l ++ [.bool q, .bool q'])) : Tr3 w B v1 v2 v3 (l ++ [(r, k + 1, q), (r', k + 2, q')]) := by
  subst hN
  unfold Tr3
  simpa [fR, fA, fQ] using h

/-- What the model answers. -/
def MPost (w : World) (T : List (Int × Nat × Bool)) (e : Ending) (w' : World) : Prop := ∃ v1 v2 v3, e = .returned (.tuple #[v1, v2, v3]) ∧ Tr3 w' w.heap.size v1 v2 v3 T ∧ w.grownBy w' none

set_option maxHeartbeats 4000000 in
theorem model_any (s : ByteArray) (w : World) (hs : s.size ≤ 1048576) : Calls Try.prog 7 #[.string s] w (MPost w (jp false 0 (rn s))) := by
  obtain ⟨i1, hi1, hz10, hz11, hz12⟩ := info_parts Try.info21
  obtain ⟨i2, hi2, hz20, hz21, hz22⟩ := info_parts Try.info3
  obtain ⟨i3, hi3, hz30, hz31, hz32⟩ := info_parts Try.info4
  obtain ⟨C, Bk, hcv, hC, hbk⟩ := conv_run s (by omega)
  have hl := rn_len s
  have hjl := jp_len (rn s) (rn s).length false 0 (by omega)
  rw [List.drop_zero] at hjl
  generalize rn s = R at *
  obtain ⟨n, hn⟩ : ∃ n, n = R.length := ⟨_, rfl⟩
  rw [← hn] at hcv hl hjl
  have hlp : n ≤ 1048576 := by omega
  obtain ⟨T, hT⟩ : ∃ T, T = jp false 0 R := ⟨_, rfl⟩
  rw [← hT] at hjl ⊢
  have HN : Hid (n = R.length) := hn
  have HT : Hid (T = jp false 0 R) := hT
  clear hn hT
  go_enter Try.func7, Try.ntmps7
  go_wp2
  obtain ⟨W0, hw0⟩ : ∃ x, x = (w.alloc (Obj.cells (Bk w) 21)).drew := ⟨_, rfl⟩
  rw [← hw0]
  have hB : w.heap.size ≤ W0.heap.size := by rw [hw0]; simp
  have hR0 : RowR W0 w.heap.size R := hbk w W0 (by rw [hw0]; exact heap_alloc_new w _)
  have hG0 : w.grownBy W0 none := by rw [hw0]; exact grown_trans (World.grownBy_alloc w _ none) (grown_drewN _ 1 none)
  clear hw0 hcv hbk hC
  generalize C w = Cw at *
  go_loopw [7, 8, 9, 10] (fun v1 v2 v3 i wr => ∃ (k : Nat) (acc : List (Int × Nat × Bool)), k ≤ n ∧ i = .int .i64 k ∧ acc ++ jp false k (R.drop k) = T ∧ Tr3 wr W0.heap.size v1 v2 v3 acc ∧ W0.grownBy wr none) (fun _ _ _ i _ => n - (intOf i).toNat)
  case atStart => exact ⟨0, [], Nat.zero_le _, rfl, by rw [List.drop_zero, HT.out]; rfl, Tr3.nil _ _, World.grownBy.refl _ _⟩
  case round => as_aux_lemma =>
    obtain ⟨k, acc, hk, rfl, heq, hT, hg⟩ := hrel
    have hal : acc.length ≤ n := by
      have := congrArg List.length heq
      rw [List.length_append] at this; omega
    by_cases hlt : k < n
    · have hk' : k < R.length := by rw [← HN.out]; exact hlt
      have hRr := hR0.grown hg
      have ck := hRr k hk'
      have HE : Hid (acc ++ jp false k (R.drop k) = T) := heq
      have hsz : W0.heap.size ≤ wr.heap.size := hg.size
      obtain ⟨c, hc⟩ : ∃ c, c = R.getD k 0 := ⟨_, rfl⟩
      rw [← hc] at ck
      have HC : Hid (c = R.getD k 0) := hc
      clear hc heq
      have HT3 : Hid _ := hT
      unfold Tr3 at hT
      obtain ⟨N, hN⟩ : ∃ N, N = acc.length := ⟨_, rfl⟩
      obtain ⟨FR, hFR⟩ : ∃ X, X = fR acc := ⟨_, rfl⟩
      obtain ⟨FA, hFA⟩ : ∃ X, X = fA acc := ⟨_, rfl⟩
      obtain ⟨FQ, hFQ⟩ : ∃ X, X = fQ acc := ⟨_, rfl⟩
      rw [← hN, ← hFR, ← hFA, ← hFQ] at hT
      rw [← hN] at hal
      have HF : Hid (N = acc.length ∧ FR = fR acc ∧ FA = fA acc ∧ FQ = fQ acc) := ⟨hN, hFR, hFA, hFQ⟩
      clear hN hFR hFA hFQ
      have m1 : N + 1 ≤ maxLen := by unfold maxLen; omega
      have m2 : N + 2 ≤ maxLen := by unfold maxLen; omega
      by_cases h92 : c = 92
      · by_cases h1 : k + 1 < n
        · have h1' : k + 1 < R.length := by rw [← HN.out]; exact h1
          have ck1 := hRr (k + 1) h1'
          obtain ⟨d, hd⟩ : ∃ d, d = R.getD (k + 1) 0 := ⟨_, rfl⟩
          rw [← hd] at ck1
          have HD : Hid (d = R.getD (k + 1) 0) := hd
          clear hd
          have b92 : (c != 92) = false := by simp [h92]
          have b1 : ((k : Int) + 1 == (n : Int)) = false := by rw [beq_eq_false_iff_ne]; omega
          by_cases h81 : d = 81
          · -- an opening
            as_aux_lemma =>
            have b81 : (d != 81) = false := by simp [h81]
            have HG : Hid (acc ++ jp true (k + 2) (R.drop (k + 2)) = T) := by
              have := HE.out; rw [jp_open R k h1' (by rw [← HC.out]; exact h92) (by rw [← HD.out]; exact h81)] at this; exact this
            clear h92 h81
            go_wp2_with fail
            refine (qend_any R w.heap.size _ (k + 2) n _ hRr HN.out (by omega) (by omega)).mono ?_
            rintro e wq ⟨x, rfl, hq, hgq⟩
            have hgq0 := grown_trans hg hgq
            have hRq := hRr.grown hgq
            have HTq : Hid _ := HT3.out.grown hgq
            have hx1 := hq.lo
            have hx2 := hq.hi
            rw [← HN.out] at hx2
            have HQ : Hid (QEnd R (k + 2) x) := hq
            clear hq hgq hRr hT hg ck ck1 hsz HF m1 m2 hal HE
            go_wp2_with fail
            go_loopw [7, 8, 9, 12] (fun v1 v2 v3 i wr => ∃ (j : Nat) (ac : List (Int × Nat × Bool)), k + 2 ≤ j ∧ j ≤ x ∧ i = .int .i64 j ∧ ac ++ jp true j (R.drop j) = T ∧ Tr3 wr W0.heap.size v1 v2 v3 ac ∧ W0.grownBy wr none) (fun _ _ _ i _ => x - (intOf i).toNat)
            case atStart => exact ⟨k + 2, acc, Nat.le_refl _, hx1, by go_num, HG.out, HTq.out, hgq0⟩
            case round => as_aux_lemma =>
              obtain ⟨j, ac, hj1, hj2, rfl, heq, hT, hg⟩ := hrel
              have hal : ac.length ≤ n := by
                have := congrArg List.length heq
                rw [List.length_append] at this; omega
              by_cases hlj : j < x
              · as_aux_lemma =>
                have hj' : j < R.length := by rw [← HN.out]; omega
                have cj := (hR0.grown hg) j hj'
                obtain ⟨c', hc'⟩ : ∃ c, c = R.getD j 0 := ⟨_, rfl⟩
                rw [← hc'] at cj
                have HG2 : Hid ((ac ++ [(c', j + 1, true)]) ++ jp true (j + 1) (R.drop (j + 1)) = T) := by
                  have := heq; rw [jp_in R j hj' (fun h => HQ.out.no j hj1 hlj h), ← hc'] at this
                  show (ac ++ [(c', j + 1, true)]) ++ jp true (j + 1) (R.drop (j + 1)) = T
                  rw [List.append_assoc]; exact this
                have hsz : W0.heap.size ≤ wr.heap.size := hg.size
                clear hc' heq
                unfold Tr3 at hT
                obtain ⟨N, hN⟩ : ∃ N, N = ac.length := ⟨_, rfl⟩
                obtain ⟨FR, hFR⟩ : ∃ X, X = fR ac := ⟨_, rfl⟩
                obtain ⟨FA, hFA⟩ : ∃ X, X = fA ac := ⟨_, rfl⟩
                obtain ⟨FQ, hFQ⟩ : ∃ X, X = fQ ac := ⟨_, rfl⟩
                rw [← hN, ← hFR, ← hFA, ← hFQ] at hT
                rw [← hN] at hal
                have HF : Hid (N = ac.length ∧ FR = fR ac ∧ FA = fA ac ∧ FQ = fQ ac) := ⟨hN, hFR, hFA, hFQ⟩
                clear hN hFR hFA hFQ
                have m1 : N + 1 ≤ maxLen := by unfold maxLen; omega
                go_wp2_with (first | (at_builtin; refine wpList_append_own _ rfl _ _ 23 rfl W0.heap.size 21 i1 (.int .i32 0) 1 4 Try.underlying23 hi1 hz10 hz11 hz12 rfl (by decide) _ N FR rfl (hT.r.alloc _) ⟨wr.heap.size, 0, none⟩ 1 1 [.int .i32 c'] rfl rfl (cells_new wr _ _) (one1 _ rfl) m1 (by omega) (Nat.le_trans hsz (World.grownBy_alloc wr _ none).size) ?_; intro v1' wa hoa hga _; have hTa := (hT.alloc _).onR hoa hga; have hGa := grown_app rfl (grown_trans hg (World.grownBy_alloc wr _ none)) (hT.r.alloc _) hga; have sza := hGa.size) | (at_builtin; refine wpList_append_own _ rfl _ _ 24 rfl W0.heap.size 3 i2 (.int .i64 0) 1 8 Try.underlying24 hi2 hz20 hz21 hz22 rfl (by decide) _ N FA rfl (hTa.a.alloc _) ⟨wa.heap.size, 0, none⟩ 1 1 [.int .i64 ((j : Int) + 1)] rfl rfl (cells_new wa _ _) (one1 _ rfl) m1 (by omega) (Nat.le_trans sza (World.grownBy_alloc wa _ none).size) ?_; intro v2' wb hob hgb _; have hTb := (hTa.alloc _).onA hob hgb; have hGb := grown_app rfl (grown_trans hGa (World.grownBy_alloc wa _ none)) (hTa.a.alloc _) hgb; have szb := hGb.size) | (at_builtin; refine wpList_append_own _ rfl _ _ 25 rfl W0.heap.size 4 i3 (.bool false) 1 1 Try.underlying25 hi3 hz30 hz31 hz32 rfl (by decide) _ N FQ rfl (hTb.q.alloc _) ⟨wb.heap.size, 0, none⟩ 1 1 [.bool true] rfl rfl (cells_new wb _ _) (one1 _ rfl) m1 (by omega) (Nat.le_trans szb (World.grownBy_alloc wb _ none).size) ?_; intro v3' wd hod hgd _; have hTd := (hTb.alloc _).onQ hod hgd; have hGd := grown_app rfl (grown_trans hGb (World.grownBy_alloc wb _ none)) (hTb.q.alloc _) hgd))
                go_roundw
                case rel =>
                  obtain ⟨e1, e2, e3, e4⟩ := HF.out
                  exact ⟨j + 1, _, by omega, by omega, by go_num, HG2.out, tr3_one e1 (by rw [← e2, ← e3, ← e4]; exact hTd), hGd⟩
                case measure => simp [intOf]; omega
              · as_aux_lemma =>
                obtain rfl : j = x := by omega
                by_cases hxn : n ≤ j
                · have HG2 : Hid (ac ++ jp false n (R.drop n) = T) := by
                    have := heq
                    rw [jp_end true R j (by rw [← HN.out]; exact hxn)] at this
                    rw [jp_end false R n (by rw [HN.out]; exact Nat.le_refl _)]; exact this
                  clear heq hlj
                  go_wp2
                  go_roundw
                  case rel => exact ⟨n, ac, Nat.le_refl _, rfl, HG2.out, hT, hg⟩
                  case measure => simp [intOf]; omega
                · have hy := HQ.out.yes (by rw [← HN.out]; omega)
                  have hy1 := hy.1
                  rw [← HN.out] at hy1
                  have HG2 : Hid (ac ++ jp false (j + 2) (R.drop (j + 2)) = T) := by
                    have := heq
                    rw [jp_close R j hy.1 hy.2.1 hy.2.2] at this; exact this
                  clear heq hlj hy
                  go_wp2
                  go_roundw
                  case rel => exact ⟨j + 2, ac, by omega, by go_num, HG2.out, hT, hg⟩
                  case measure => simp [intOf]; omega
          · -- an escape
            as_aux_lemma =>
            have b81 : (d != 81) = true := by simp [h81]
            have HG : Hid ((acc ++ [(92, k + 1, false), (d, k + 2, false)]) ++ jp false (k + 2) (R.drop (k + 2)) = T) := by
              have := HE.out; rw [jp_esc R k h1' (by rw [← HC.out]; exact h92) (by rw [← HD.out]; exact h81), ← HD.out] at this
              show (acc ++ [(92, k + 1, false), (d, k + 2, false)]) ++ jp false (k + 2) (R.drop (k + 2)) = T
              rw [List.append_assoc]; exact this
            clear h92 h81
            go_wp2_with (first | (at_builtin; refine wpList_append_own _ rfl _ _ 23 rfl W0.heap.size 21 i1 (.int .i32 0) 1 4 Try.underlying23 hi1 hz10 hz11 hz12 rfl (by decide) _ N FR rfl (hT.r.alloc _) ⟨wr.heap.size, 0, none⟩ 2 2 [.int .i32 92, .int .i32 d] rfl rfl (cells_new wr _ _) (one2 _ _ rfl rfl) m2 (by omega) (Nat.le_trans hsz (World.grownBy_alloc wr _ none).size) ?_; intro v1' wa hoa hga _; have hTa := (hT.alloc _).onR hoa hga; have hGa := grown_app rfl (grown_trans hg (World.grownBy_alloc wr _ none)) (hT.r.alloc _) hga; have sza := hGa.size) | (at_builtin; refine wpList_append_own _ rfl _ _ 24 rfl W0.heap.size 3 i2 (.int .i64 0) 1 8 Try.underlying24 hi2 hz20 hz21 hz22 rfl (by decide) _ N FA rfl (hTa.a.alloc _) ⟨wa.heap.size, 0, none⟩ 2 2 [.int .i64 ((k : Int) + 1), .int .i64 ((k : Int) + 2)] rfl rfl (cells_new wa _ _) (one2 _ _ rfl rfl) m2 (by omega) (Nat.le_trans sza (World.grownBy_alloc wa _ none).size) ?_; intro v2' wb hob hgb _; have hTb := (hTa.alloc _).onA hob hgb; have hGb := grown_app rfl (grown_trans hGa (World.grownBy_alloc wa _ none)) (hTa.a.alloc _) hgb; have szb := hGb.size) | (at_builtin; refine wpList_append_own _ rfl _ _ 25 rfl W0.heap.size 4 i3 (.bool false) 1 1 Try.underlying25 hi3 hz30 hz31 hz32 rfl (by decide) _ N FQ rfl (hTb.q.alloc _) ⟨wb.heap.size, 0, none⟩ 2 2 [.bool false, .bool false] rfl rfl (cells_new wb _ _) (one2 _ _ rfl rfl) m2 (by omega) (Nat.le_trans szb (World.grownBy_alloc wb _ none).size) ?_; intro v3' wd hod hgd _; have hTd := (hTb.alloc _).onQ hod hgd; have hGd := grown_app rfl (grown_trans hGb (World.grownBy_alloc wb _ none)) (hTb.q.alloc _) hgd))
            go_roundw
            case rel =>
              obtain ⟨e1, e2, e3, e4⟩ := HF.out
              exact ⟨k + 2, _, by omega, by go_num, HG.out, tr3_two e1 (by rw [← e2, ← e3, ← e4]; exact hTd), hGd⟩
            case measure => simp [intOf]; omega
        · -- the last rune, a backslash
          as_aux_lemma =>
          have b92 : (c != 92) = false := by simp [h92]
          have b1 : ((k : Int) + 1 == (n : Int)) = true := by rw [beq_iff_eq]; omega
          have HG : Hid ((acc ++ [(92, k + 1, false)]) ++ jp false (k + 1) (R.drop (k + 1)) = T) := by
            have := HE.out; rw [jp_plain R k hk' (fun h => absurd h (by rw [← HN.out]; exact h1)), ← HC.out, h92] at this
            show (acc ++ [(92, k + 1, false)]) ++ jp false (k + 1) (R.drop (k + 1)) = T
            rw [List.append_assoc]; exact this
          clear h92
          go_wp2_with (first | (at_builtin; refine wpList_append_own _ rfl _ _ 23 rfl W0.heap.size 21 i1 (.int .i32 0) 1 4 Try.underlying23 hi1 hz10 hz11 hz12 rfl (by decide) _ N FR rfl (hT.r.alloc _) ⟨wr.heap.size, 0, none⟩ 1 1 [.int .i32 92] rfl rfl (cells_new wr _ _) (one1 _ rfl) m1 (by omega) (Nat.le_trans hsz (World.grownBy_alloc wr _ none).size) ?_; intro v1' wa hoa hga _; have hTa := (hT.alloc _).onR hoa hga; have hGa := grown_app rfl (grown_trans hg (World.grownBy_alloc wr _ none)) (hT.r.alloc _) hga; have sza := hGa.size) | (at_builtin; refine wpList_append_own _ rfl _ _ 24 rfl W0.heap.size 3 i2 (.int .i64 0) 1 8 Try.underlying24 hi2 hz20 hz21 hz22 rfl (by decide) _ N FA rfl (hTa.a.alloc _) ⟨wa.heap.size, 0, none⟩ 1 1 [.int .i64 ((k : Int) + 1)] rfl rfl (cells_new wa _ _) (one1 _ rfl) m1 (by omega) (Nat.le_trans sza (World.grownBy_alloc wa _ none).size) ?_; intro v2' wb hob hgb _; have hTb := (hTa.alloc _).onA hob hgb; have hGb := grown_app rfl (grown_trans hGa (World.grownBy_alloc wa _ none)) (hTa.a.alloc _) hgb; have szb := hGb.size) | (at_builtin; refine wpList_append_own _ rfl _ _ 25 rfl W0.heap.size 4 i3 (.bool false) 1 1 Try.underlying25 hi3 hz30 hz31 hz32 rfl (by decide) _ N FQ rfl (hTb.q.alloc _) ⟨wb.heap.size, 0, none⟩ 1 1 [.bool false] rfl rfl (cells_new wb _ _) (one1 _ rfl) m1 (by omega) (Nat.le_trans szb (World.grownBy_alloc wb _ none).size) ?_; intro v3' wd hod hgd _; have hTd := (hTb.alloc _).onQ hod hgd; have hGd := grown_app rfl (grown_trans hGb (World.grownBy_alloc wb _ none)) (hTb.q.alloc _) hgd))
          go_roundw
          case rel =>
            obtain ⟨e1, e2, e3, e4⟩ := HF.out
            exact ⟨k + 1, _, by omega, by go_num, HG.out, tr3_one e1 (by rw [← e2, ← e3, ← e4]; exact hTd), hGd⟩
          case measure => simp [intOf]; omega
      · -- a plain rune
        as_aux_lemma =>
        have b92 : (c != 92) = true := by simp [h92]
        have HG : Hid ((acc ++ [(c, k + 1, false)]) ++ jp false (k + 1) (R.drop (k + 1)) = T) := by
          have := HE.out; rw [jp_plain R k hk' (fun _ => by rw [← HC.out]; exact h92), ← HC.out] at this
          show (acc ++ [(c, k + 1, false)]) ++ jp false (k + 1) (R.drop (k + 1)) = T
          rw [List.append_assoc]; exact this
        clear h92
        go_wp2_with (first | (at_builtin; refine wpList_append_own _ rfl _ _ 23 rfl W0.heap.size 21 i1 (.int .i32 0) 1 4 Try.underlying23 hi1 hz10 hz11 hz12 rfl (by decide) _ N FR rfl (hT.r.alloc _) ⟨wr.heap.size, 0, none⟩ 1 1 [.int .i32 c] rfl rfl (cells_new wr _ _) (one1 _ rfl) m1 (by omega) (Nat.le_trans hsz (World.grownBy_alloc wr _ none).size) ?_; intro v1' wa hoa hga _; have hTa := (hT.alloc _).onR hoa hga; have hGa := grown_app rfl (grown_trans hg (World.grownBy_alloc wr _ none)) (hT.r.alloc _) hga; have sza := hGa.size) | (at_builtin; refine wpList_append_own _ rfl _ _ 24 rfl W0.heap.size 3 i2 (.int .i64 0) 1 8 Try.underlying24 hi2 hz20 hz21 hz22 rfl (by decide) _ N FA rfl (hTa.a.alloc _) ⟨wa.heap.size, 0, none⟩ 1 1 [.int .i64 ((k : Int) + 1)] rfl rfl (cells_new wa _ _) (one1 _ rfl) m1 (by omega) (Nat.le_trans sza (World.grownBy_alloc wa _ none).size) ?_; intro v2' wb hob hgb _; have hTb := (hTa.alloc _).onA hob hgb; have hGb := grown_app rfl (grown_trans hGa (World.grownBy_alloc wa _ none)) (hTa.a.alloc _) hgb; have szb := hGb.size) | (at_builtin; refine wpList_append_own _ rfl _ _ 25 rfl W0.heap.size 4 i3 (.bool false) 1 1 Try.underlying25 hi3 hz30 hz31 hz32 rfl (by decide) _ N FQ rfl (hTb.q.alloc _) ⟨wb.heap.size, 0, none⟩ 1 1 [.bool false] rfl rfl (cells_new wb _ _) (one1 _ rfl) m1 (by omega) (Nat.le_trans szb (World.grownBy_alloc wb _ none).size) ?_; intro v3' wd hod hgd _; have hTd := (hTb.alloc _).onQ hod hgd; have hGd := grown_app rfl (grown_trans hGb (World.grownBy_alloc wb _ none)) (hTb.q.alloc _) hgd))
        go_roundw
        case rel =>
          obtain ⟨e1, e2, e3, e4⟩ := HF.out
          exact ⟨k + 1, _, by omega, by go_num, HG.out, tr3_one e1 (by rw [← e2, ← e3, ← e4]; exact hTd), hGd⟩
        case measure => simp [intOf]; omega
    · as_aux_lemma =>
      have hfin : acc = T := by
        have := heq
        rw [jp_end false R k (by rw [← HN.out]; omega), List.append_nil] at this; exact this
      subst hfin
      go_wp2
      go_ret3
      exact ⟨_, _, _, rfl, hT.weaken hB, grown_trans hG0 hg⟩
end Go.Proofs.Qxb6619510a
