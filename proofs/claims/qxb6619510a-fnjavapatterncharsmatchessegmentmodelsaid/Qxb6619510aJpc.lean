import Derived.Test.Qxb6619510aTrip
namespace Go.Proofs.Qxb6619510a
open Go.RowKit
set_option linter.unusedVariables false

/-- A row of runes that may be read. -/
def RowR (w : World) (g : Nat) (R : List Int) : Prop := ∀ i, i < R.length → w.cell? ⟨g, i, none⟩ = some (.int .i32 (R.getD i 0))

theorem RowR.grown {w w' : World} {g : Nat} {R : List Int} (h : RowR w g R) (hg : w.grownBy w' none) : RowR w' g R := fun i hi => hg.cell (h i hi) (by simp)

/-- '[]rune(s)': a new row; its runes; whatever capacity. -/
theorem conv_run (s : ByteArray) (hs : s.size ≤ 4194304) : ∃ (C : World → Nat) (Bk : World → Array Value),
    (∀ w : World, (convert 9 23 (.string s)).run Try.prog w = .ok (.slice (some ⟨w.heap.size, 0, none⟩) (rn s).length (C w)) (w.drew.alloc (.cells (Bk w) 21))) ∧
    (∀ w, (rn s).length ≤ C w) ∧ ∀ w w' : World, w'.heap[w.heap.size]? = some (.cells (Bk w) 21 (0, 0)) → RowR w' w.heap.size (rn s) := by
  have hl := rn_len s
  have e := runes_eq s
  refine ⟨fun w => grownCap w (rn s).length 0 21, fun w => ((rn s).map (Value.int .i32)).toArray ++ Array.replicate (grownCap w (rn s).length 0 21 - (rn s).length) (.int .i32 0), fun w => ?_, fun w => grownCap_ge w _ 0 21, fun w w' h i hi => ?_⟩
  · have h := run_runes_of_string (P := Try.prog) w 9 23 21 s Try.underlying9 Try.underlying23 Try.underlying21 (by rw [e]; simp; omega)
    rw [e] at h
    simpa using h
  · rw [cell_of_row w' w.heap.size i _ 21 (0, 0) h]
    dsimp only
    rw [Array.getElem?_append_left (by simpa using hi)]
    simp [hi]

/-- Characters as cells. -/
def flat3 (l : List (Int × Nat × Bool)) : List Value := l.flatMap fun c => [.int .i32 c.1, .int .i64 c.2.1, .bool c.2.2]
theorem flat3_append (a b : List (Int × Nat × Bool)) : flat3 (a ++ b) = flat3 a ++ flat3 b := by simp [flat3]
theorem flat3_len (l : List (Int × Nat × Bool)) : (flat3 l).length = l.length * 3 := by
  induction l with
  | nil => rfl
  | cons a l ih => simp only [flat3, List.flatMap_cons, List.length_append, List.length_cons, List.length_nil] at *; rw [ih]; omega

theorem cells_new (w : World) (cs : List Value) (t : TypeId) : ∀ j u, cs[j]? = some u → (w.alloc (.cells cs.toArray t)).cell? ((⟨w.heap.size, 0, none⟩ : Addr).add j) = some u := by
  intro j u hu
  have : (⟨w.heap.size, 0, none⟩ : Addr).add j = ⟨w.heap.size, j, none⟩ := by unfold Addr.add; split <;> simp_all
  rw [this, (Blk.new w cs t).at]; exact hu

theorem Try.info33 : (Try.prog.info? 33).map (fun i => (i.zero, i.size, i.bytes)) = some (some (.agg #[.int .i32 0, .int .i64 0, .bool false]), 3, 24) := by kernel_rfl

theorem app_plain {w wr w1 : World} {e size n B : Nat} {v : Value} {xs : List Value} {o : Obj} (hB : w.heap.size = B) (hg : w.grownBy wr none) (hown : wr.ownsRow B e size v n xs) (hgr : (wr.alloc o).grownBy w1 v.ownBlock) :
    w.grownBy w1 none := by
  have h1 : wr.grownBy w1 v.ownBlock := grown_trans (World.grownBy_alloc _ o _) hgr
  exact grown_trans_new hg h1 (fun i hi => by rw [hB]; exact (hown.lt i hi).1)

theorem one3 (a b : Int) (q : Bool) : ∀ u ∈ ([.int .i32 a, .int .i64 b, .bool q] : List Value), u.oneCell' = true := by
  intro u hu; simp at hu; rcases hu with rfl | rfl | rfl <;> rfl
theorem one6 (a b c d : Int) (p q : Bool) : ∀ u ∈ ([.int .i32 a, .int .i64 b, .bool p, .int .i32 c, .int .i64 d, .bool q] : List Value), u.oneCell' = true := by
  intro u hu; simp at hu; rcases hu with rfl | rfl | rfl | rfl | rfl | rfl <;> rfl

/-- Behind one more character. -/
theorem own_one3 {w : World} {B n k : Nat} {v : Value} {acc : List (Int × Nat × Bool)} {c : Int} {q : Bool} (hn : n = acc.length) (h : w.ownsRow B 33 3 v (n + 1) (flat3 acc ++ [.int .i32 c, .int .i64 ((k : Int) + 1), .bool q])) :
    w.ownsRow B 33 3 v (acc ++ [(c, k + 1, q)]).length (flat3 (acc ++ [(c, k + 1, q)])) := by
  subst hn
  simpa [flat3] using h
theorem own_two3 {w : World} {B n k : Nat} {v : Value} {acc : List (Int × Nat × Bool)} {c d : Int} (hn : n = acc.length) (h : w.ownsRow B 33 3 v (n + 2) (flat3 acc ++ [.int .i32 c, .int .i64 ((k : Int) + 1), .bool false, .int .i32 d, .int .i64 ((k : Int) + 2), .bool false])) :
    w.ownsRow B 33 3 v (acc ++ [(c, k + 1, false), (d, k + 2, false)]).length (flat3 (acc ++ [(c, k + 1, false), (d, k + 2, false)])) := by
  subst hn
  simpa [flat3] using h

set_option maxHeartbeats 2000000 in
set_option maxRecDepth 100000 in
theorem jpc_any (s : ByteArray) (w : World) (hs : s.size ≤ 4194304) :
    Calls Try.prog 10 #[.string s] w fun e w' => ∃ v, e = .returned v ∧ w'.ownsRow w.heap.size 33 3 v (jp false 0 (rn s)).length (flat3 (jp false 0 (rn s))) ∧ w.grownBy w' none := by
  obtain ⟨i0, hi, hz0, hz1, hz2⟩ := info_parts Try.info33
  obtain ⟨C, Bk, hcv, hC, hbk⟩ := conv_run s hs
  have hl := rn_len s
  have hjl := jp_len (rn s) (rn s).length false 0 (by omega)
  rw [List.drop_zero] at hjl
  generalize rn s = R at *
  obtain ⟨n, hn⟩ : ∃ n, n = R.length := ⟨_, rfl⟩
  rw [← hn] at hcv hl hjl
  obtain ⟨T, hT⟩ : ∃ T, T = jp false 0 R := ⟨_, rfl⟩
  rw [← hT] at hjl ⊢
  have HN : Hid (n = R.length) := hn
  have HT : Hid (T = jp false 0 R) := hT
  clear hn hT
  go_enter Try.func10, Try.ntmps10
  go_wp2
  obtain ⟨w0, hw0⟩ : ∃ x, x = (w.alloc (Obj.cells (Bk w) 21)).drew := ⟨_, rfl⟩
  rw [← hw0]
  have hB : w0.heap.size = w.heap.size + 1 := by rw [hw0]; simp
  have hR0 : RowR w0 w.heap.size R := hbk w w0 (by rw [hw0]; exact heap_alloc_new w _)
  have hG0 : w.grownBy w0 none := by rw [hw0]; exact grown_trans (World.grownBy_alloc w _ none) (grown_drewN _ 1 none)
  have HB : Hid (w0.heap.size = w.heap.size + 1) := hB
  clear hw0 hcv hbk hC hB
  go_loopw [4, 5, 6] (fun v qv i wr => ∃ (k : Nat) (q : Bool) (acc : List (Int × Nat × Bool)), k ≤ n ∧ i = .int .i64 k ∧ qv = .bool q ∧ acc ++ jp q k (R.drop k) = T ∧ wr.ownsRow (w.heap.size + 1) 33 3 v acc.length (flat3 acc) ∧ w0.grownBy wr none) (fun _ _ i _ => n - (intOf i).toNat)
  case atStart => exact ⟨0, false, [], Nat.zero_le _, rfl, rfl, by rw [List.drop_zero, HT.out]; rfl, World.ownsRow_nil _ _ _ _, World.grownBy.refl _ _⟩
  case round =>
    obtain ⟨k, q, acc, hk, rfl, rfl, heq, hown, hg⟩ := hrel
    have hal : acc.length ≤ n := by
      have := congrArg List.length heq
      rw [List.length_append] at this; omega
    by_cases hlt : k < n
    · have hk' : k < R.length := by rw [← HN.out]; exact hlt
      have hRr := hR0.grown hg
      have ck := hRr k hk'
      have ck1 : k + 1 < n → wr.cell? ⟨w.heap.size, k + 1, none⟩ = some (.int .i32 (R.getD (k + 1) 0)) := fun h => hRr (k + 1) (by rw [← HN.out]; exact h)
      have e_last : ¬ k + 1 < n → k + 1 < R.length → False := fun h h' => h (by rw [HN.out]; exact h')
      have HE : Hid (acc ++ jp q k (R.drop k) = T) := heq
      have hsz : w.heap.size + 1 ≤ wr.heap.size := by have := hg.size; rw [HB.out] at this; exact this
      obtain ⟨c, hc⟩ : ∃ c, c = R.getD k 0 := ⟨_, rfl⟩
      obtain ⟨d, hd⟩ : ∃ d, d = R.getD (k + 1) 0 := ⟨_, rfl⟩
      rw [← hc] at ck
      rw [← hd] at ck1
      have HC : Hid (c = R.getD k 0) := hc
      have HD : Hid (d = R.getD (k + 1) 0) := hd
      clear hc hd heq hRr
      obtain ⟨N, hN⟩ : ∃ N, N = acc.length := ⟨_, rfl⟩
      obtain ⟨X, hX⟩ : ∃ X, X = flat3 acc := ⟨_, rfl⟩
      rw [← hN] at hown hal
      rw [← hX] at hown
      have HNN : Hid (N = acc.length) := hN
      have HX : Hid (X = flat3 acc) := hX
      clear hN hX
      have m1 : N + 1 ≤ maxLen := by unfold maxLen; omega
      have m2 : N + 2 ≤ maxLen := by unfold maxLen; omega
      by_cases h1 : k + 1 < n
      · have ck1' := ck1 h1
        clear ck1
        have h1' : k + 1 < R.length := by rw [← HN.out]; exact h1
        cases q
        · by_cases h92 : c = 92
          · have b92 : (c == 92) = true := by rw [beq_iff_eq]; exact h92
            by_cases h81 : d = 81
            · -- an opening
              have b81 : (d == 81) = true := by rw [beq_iff_eq]; exact h81
              have HF : Hid (acc ++ jp true (k + 2) (R.drop (k + 2)) = T) := by
                have := HE.out; rw [jp_open R k h1' (by rw [← HC.out]; exact h92) (by rw [← HD.out]; exact h81)] at this; exact this
              clear h92 h81
              go_wp2
              go_roundw
              case rel => exact ⟨k + 2, true, acc, by omega, by go_num, rfl, HF.out, by rw [← HNN.out, ← HX.out]; exact hown, hg⟩
              case measure => simp [intOf]; omega
            · -- an escape
              have b81 : (d == 81) = false := by rw [beq_eq_false_iff_ne]; exact h81
              have HF : Hid ((acc ++ [(92, k + 1, false), (d, k + 2, false)]) ++ jp false (k + 2) (R.drop (k + 2)) = T) := by
                have := HE.out; rw [jp_esc R k h1' (by rw [← HC.out]; exact h92) (by rw [← HD.out]; exact h81), ← HD.out] at this
                show (acc ++ [(92, k + 1, false), (d, k + 2, false)]) ++ jp false (k + 2) (R.drop (k + 2)) = T
                rw [List.append_assoc]; exact this
              clear h92 h81
              go_wp2_with (at_builtin; refine wpList_append_own _ rfl _ _ 30 rfl (w.heap.size + 1) 33 i0 (.agg #[.int .i32 0, .int .i64 0, .bool false]) 3 24 Try.underlying30 hi hz0 hz1 hz2 rfl (by decide) _ N X rfl (hown.alloc _) ⟨wr.heap.size, 0, none⟩ 2 2 [.int .i32 92, .int .i64 ((k : Int) + 1), .bool false, .int .i32 d, .int .i64 ((k : Int) + 2), .bool false] rfl rfl (cells_new wr _ _) (one6 _ _ _ _ _ _) m2 (by omega) (Nat.le_trans hsz (World.grownBy_alloc wr _ none).size) ?_; intro v' w1 hown' hgr _; have hst := app_plain HB.out hg hown hgr)
              go_roundw
              case rel => exact ⟨k + 2, false, _, by omega, by go_num, rfl, HF.out, own_two3 HNN.out (by rw [← HX.out]; exact hown'), hst⟩
              case measure => simp [intOf]; omega
          · -- a plain rune
            have b92 : (c == 92) = false := by rw [beq_eq_false_iff_ne]; exact h92
            have HF : Hid ((acc ++ [(c, k + 1, false)]) ++ jp false (k + 1) (R.drop (k + 1)) = T) := by
              have := HE.out; rw [jp_plain R k hk' (fun _ => by rw [← HC.out]; exact h92), ← HC.out] at this
              show (acc ++ [(c, k + 1, false)]) ++ jp false (k + 1) (R.drop (k + 1)) = T
              rw [List.append_assoc]; exact this
            clear h92
            go_wp2_with (at_builtin; refine wpList_append_own _ rfl _ _ 30 rfl (w.heap.size + 1) 33 i0 (.agg #[.int .i32 0, .int .i64 0, .bool false]) 3 24 Try.underlying30 hi hz0 hz1 hz2 rfl (by decide) _ N X rfl (hown.alloc _) ⟨wr.heap.size, 0, none⟩ 1 1 [.int .i32 c, .int .i64 ((k : Int) + 1), .bool false] rfl rfl (cells_new wr _ _) (one3 _ _ _) m1 (by omega) (Nat.le_trans hsz (World.grownBy_alloc wr _ none).size) ?_; intro v' w1 hown' hgr _; have hst := app_plain HB.out hg hown hgr)
            go_roundw
            case rel => exact ⟨k + 1, false, _, by omega, by go_num, rfl, HF.out, own_one3 HNN.out (by rw [← HX.out]; exact hown'), hst⟩
            case measure => simp [intOf]; omega
        · by_cases h69 : c = 92 ∧ d = 69
          · -- a closing
            have b92 : (c == 92) = true := by rw [beq_iff_eq]; exact h69.1
            have b69 : (d == 69) = true := by rw [beq_iff_eq]; exact h69.2
            have HF : Hid (acc ++ jp false (k + 2) (R.drop (k + 2)) = T) := by
              have := HE.out; rw [jp_close R k h1' (by rw [← HC.out]; exact h69.1) (by rw [← HD.out]; exact h69.2)] at this; exact this
            clear h69
            go_wp2
            go_roundw
            case rel => exact ⟨k + 2, false, acc, by omega, by go_num, rfl, HF.out, by rw [← HNN.out, ← HX.out]; exact hown, hg⟩
            case measure => simp [intOf]; omega
          · -- a quoted rune
            have HF : Hid ((acc ++ [(c, k + 1, true)]) ++ jp true (k + 1) (R.drop (k + 1)) = T) := by
              have := HE.out; rw [jp_in R k hk' (fun _ => by rw [← HC.out, ← HD.out]; exact h69), ← HC.out] at this
              show (acc ++ [(c, k + 1, true)]) ++ jp true (k + 1) (R.drop (k + 1)) = T
              rw [List.append_assoc]; exact this
            by_cases h92 : c = 92
            · have b92 : (c == 92) = true := by rw [beq_iff_eq]; exact h92
              have b69 : (d == 69) = false := by rw [beq_eq_false_iff_ne]; exact fun e => h69 ⟨h92, e⟩
              clear h69 h92
              go_wp2_with (at_builtin; refine wpList_append_own _ rfl _ _ 30 rfl (w.heap.size + 1) 33 i0 (.agg #[.int .i32 0, .int .i64 0, .bool false]) 3 24 Try.underlying30 hi hz0 hz1 hz2 rfl (by decide) _ N X rfl (hown.alloc _) ⟨wr.heap.size, 0, none⟩ 1 1 [.int .i32 c, .int .i64 ((k : Int) + 1), .bool true] rfl rfl (cells_new wr _ _) (one3 _ _ _) m1 (by omega) (Nat.le_trans hsz (World.grownBy_alloc wr _ none).size) ?_; intro v' w1 hown' hgr _; have hst := app_plain HB.out hg hown hgr)
              go_roundw
              case rel => exact ⟨k + 1, true, _, by omega, by go_num, rfl, HF.out, own_one3 HNN.out (by rw [← HX.out]; exact hown'), hst⟩
              case measure => simp [intOf]; omega
            · have b92 : (c == 92) = false := by rw [beq_eq_false_iff_ne]; exact h92
              clear h69 h92
              go_wp2_with (at_builtin; refine wpList_append_own _ rfl _ _ 30 rfl (w.heap.size + 1) 33 i0 (.agg #[.int .i32 0, .int .i64 0, .bool false]) 3 24 Try.underlying30 hi hz0 hz1 hz2 rfl (by decide) _ N X rfl (hown.alloc _) ⟨wr.heap.size, 0, none⟩ 1 1 [.int .i32 c, .int .i64 ((k : Int) + 1), .bool true] rfl rfl (cells_new wr _ _) (one3 _ _ _) m1 (by omega) (Nat.le_trans hsz (World.grownBy_alloc wr _ none).size) ?_; intro v' w1 hown' hgr _; have hst := app_plain HB.out hg hown hgr)
              go_roundw
              case rel => exact ⟨k + 1, true, _, by omega, by go_num, rfl, HF.out, own_one3 HNN.out (by rw [← HX.out]; exact hown'), hst⟩
              case measure => simp [intOf]; omega
      · clear ck1
        have hlast := e_last h1
        have h1n : n ≤ k + 1 := by omega
        cases q
        · have HF : Hid ((acc ++ [(c, k + 1, false)]) ++ jp false (k + 1) (R.drop (k + 1)) = T) := by
            have := HE.out; rw [jp_plain R k hk' (fun h => (hlast h).elim), ← HC.out] at this
            show (acc ++ [(c, k + 1, false)]) ++ jp false (k + 1) (R.drop (k + 1)) = T
            rw [List.append_assoc]; exact this
          clear hlast e_last
          go_wp2_with (at_builtin; refine wpList_append_own _ rfl _ _ 30 rfl (w.heap.size + 1) 33 i0 (.agg #[.int .i32 0, .int .i64 0, .bool false]) 3 24 Try.underlying30 hi hz0 hz1 hz2 rfl (by decide) _ N X rfl (hown.alloc _) ⟨wr.heap.size, 0, none⟩ 1 1 [.int .i32 c, .int .i64 ((k : Int) + 1), .bool false] rfl rfl (cells_new wr _ _) (one3 _ _ _) m1 (by omega) (Nat.le_trans hsz (World.grownBy_alloc wr _ none).size) ?_; intro v' w1 hown' hgr _; have hst := app_plain HB.out hg hown hgr)
          go_roundw
          case rel => exact ⟨k + 1, false, _, by omega, by go_num, rfl, HF.out, own_one3 HNN.out (by rw [← HX.out]; exact hown'), hst⟩
          case measure => simp [intOf]; omega
        · have HF : Hid ((acc ++ [(c, k + 1, true)]) ++ jp true (k + 1) (R.drop (k + 1)) = T) := by
            have := HE.out; rw [jp_in R k hk' (fun h => (hlast h).elim), ← HC.out] at this
            show (acc ++ [(c, k + 1, true)]) ++ jp true (k + 1) (R.drop (k + 1)) = T
            rw [List.append_assoc]; exact this
          clear hlast e_last
          go_wp2_with (at_builtin; refine wpList_append_own _ rfl _ _ 30 rfl (w.heap.size + 1) 33 i0 (.agg #[.int .i32 0, .int .i64 0, .bool false]) 3 24 Try.underlying30 hi hz0 hz1 hz2 rfl (by decide) _ N X rfl (hown.alloc _) ⟨wr.heap.size, 0, none⟩ 1 1 [.int .i32 c, .int .i64 ((k : Int) + 1), .bool true] rfl rfl (cells_new wr _ _) (one3 _ _ _) m1 (by omega) (Nat.le_trans hsz (World.grownBy_alloc wr _ none).size) ?_; intro v' w1 hown' hgr _; have hst := app_plain HB.out hg hown hgr)
          go_roundw
          case rel => exact ⟨k + 1, true, _, by omega, by go_num, rfl, HF.out, own_one3 HNN.out (by rw [← HX.out]; exact hown'), hst⟩
          case measure => simp [intOf]; omega
    · have hfin : acc = T := by
        have := heq
        rw [jp_end q R k (by rw [← HN.out]; omega), List.append_nil] at this; exact this
      go_wp2
      go_ret
      subst hfin
      exact ⟨_, rfl, own_weaken hown (Nat.le_succ _), grown_trans hG0 hg⟩
end Go.Proofs.Qxb6619510a
