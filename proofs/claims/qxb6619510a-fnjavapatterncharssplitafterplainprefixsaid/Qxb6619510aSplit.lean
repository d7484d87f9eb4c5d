import Derived.Test.Qxb6619510aCells
import Derived.Deep.QuietTactic
import Derived.BigQuiet
namespace Go.Proofs.Qxb6619510a
open Go.RowKit
set_option linter.unusedVariables false

set_option maxHeartbeats 4000000 in
set_option maxRecDepth 100000 in
theorem split_main (s : ByteArray) (k : Nat) (w : World) (hs : s.size ≤ 1048576) (hk : k ≤ (rn s).length) (hno : ∀ j, j < k → (rn s).getD j 0 ≠ 92) :
    Calls Try.prog 4 #[.string s, .int .i64 k] w (Yes w) := by
  obtain ⟨C, Bk, hcv, hC, hbk⟩ := conv_run s (by omega)
  have hl := rn_len s
  have hgt := good_take s k
  have hgd := good_drop s k
  have H1 : Hid (∀ w : World, Calls Try.prog 6 #[.string s] w fun e w' => ∃ v1 v2 v3, e = .returned (.tuple #[v1, v2, v3]) ∧ Tr3 w' w.heap.size v1 v2 v3 (jp false 0 (rn s)) ∧ w.grownBy w' none) := fun w => zz_any s w (by omega)
  have hjl := jp_len (rn s) (rn s).length false 0 (by omega)
  rw [List.drop_zero] at hjl
  generalize rn s = R at *
  obtain ⟨n, hn⟩ : ∃ n, n = R.length := ⟨_, rfl⟩
  rw [← hn] at hcv hl hk hC hjl
  have HN : Hid (n = R.length) := hn
  have hlp : n ≤ 1048576 := by omega
  have hw1 := jp_whole R k (by omega) hno
  have hw2 := jp_head R k (by omega) hno
  obtain ⟨L3, hL3⟩ : ∃ L, L = jp false 0 (R.drop k) := ⟨_, rfl⟩
  have hl3 : L3.length + k ≤ n := by
    have := congrArg List.length hw1
    rw [List.length_append, plainTo_len, ← hL3] at this
    simp [up] at this; omega
  have hC' := hC w
  have HNO : Hid (∀ j, j < k → R.getD j 0 ≠ 92) := hno
  have HW1 : Hid (jp false 0 R = plainTo R k ++ up k L3) := by rw [hL3]; exact hw1
  have HW2 : Hid (jp false 0 (R.take k) = plainTo R k) := hw2
  have HL3 : Hid (L3 = jp false 0 (R.drop k)) := hL3
  clear hn hw1 hw2 hL3 hjl hno hC
  have hsm : s.size ≤ maxLen := by unfold maxLen; omega
  go_enter Try.func4, Try.ntmps4
  go_wp2_with fail
  refine (bytesS_any s _ _ hsm).mono ?_
  rintro e w' ⟨r, rfl, hw⟩
  have hw := hw.symm
  subst hw
  cases r
  · go_wp2_with fail
    go_ret
    exact ⟨rfl, World.grownBy.refl _ _⟩
  go_wp2_with fail
  obtain ⟨w0, hw0⟩ : ∃ x, x = (w.alloc (Obj.cells (Bk w) 21)).drew := ⟨_, rfl⟩
  rw [← hw0]
  have hR0 : RowR w0 w.heap.size R := hbk w w0 (by rw [hw0]; exact heap_alloc_new w _)
  have hG0 : w.grownBy w0 none := by rw [hw0]; exact grown_trans (World.grownBy_alloc w _ none) (grown_drewN _ 1 none)
  clear hw0 hcv hbk
  generalize C w = Cw at *
  go_loop [6] (fun i => ∃ j : Nat, j ≤ k ∧ i = .int .i64 j) (fun i => k - (intOf i).toNat)
  case atStart => exact ⟨0, Nat.zero_le _, rfl⟩
  case round =>
    obtain ⟨j, hj, rfl⟩ := hrel
    by_cases hlt : j < k
    · have cj := hR0 j (by rw [← HN.out]; omega)
      have b92 : (R.getD j 0 == 92) = false := by rw [beq_eq_false_iff_ne]; exact HNO.out j hlt
      generalize R.getD j 0 = x at *
      go_wp2
      go_round
      case rel => exact ⟨j + 1, by omega, by go_num⟩
      case measure => simp [intOf]; omega
    · go_wp2_with fail
      clear hlt hj
      refine (H1.out _).mono ?_
      rintro e w1 ⟨f1, f2, f3, rfl, T1, g1⟩
      rw [HW1.out] at T1
      have hR1 := hR0.grown g1
      have hp : ∀ cap, (convert 23 9 (.slice (some ⟨w.heap.size, 0, none⟩) k cap)).run Try.prog w1 = .ok (.string (runesBytes (R.take k))) w1 := fun cap =>
        run_convert_runes w1 23 9 21 ⟨w.heap.size, 0, none⟩ k cap R (by rw [← HN.out]; exact hk) Try.underlying23 Try.underlying21 Try.underlying9 (fun j hj => by rw [adr]; rw [Nat.zero_add]; exact hR1 j hj)
      go_wp2_with fail
      refine (zz_runes (R.take k) _ hgt (by rw [List.length_take]; omega)).mono ?_
      rintro e w2 ⟨p1, p2, p3, rfl, T2, g2⟩
      rw [HW2.out] at T2
      have T1' := T1.grown g2
      have hR2 := hR1.grown g2
      clear hp hR1 T1
      have hp0 : Cw = k → ∀ cap, (convert 23 9 (.slice (some ⟨w.heap.size, 0, none⟩) (n - k) cap)).run Try.prog w2 = .ok (.string (runesBytes (R.drop k))) w2 := fun hck cap => by
        have h0 : n - k = 0 := by omega
        have h1 : R.drop k = [] := List.drop_eq_nil_of_le (by rw [← HN.out]; omega)
        rw [h0, h1]
        exact run_convert_runes w2 23 9 21 ⟨w.heap.size, 0, none⟩ 0 cap R (Nat.zero_le _) Try.underlying23 Try.underlying21 Try.underlying9 (fun j hj => by rw [adr, Nat.zero_add]; exact hR2 j hj)
      have hp1 : ∀ cap, (convert 23 9 (.slice (some ⟨w.heap.size, k, none⟩) (n - k) cap)).run Try.prog w2 = .ok (.string (runesBytes (R.drop k))) w2 := fun cap => by
        have h1 : (R.drop k).take (n - k) = R.drop k := List.take_of_length_le (by rw [List.length_drop, ← HN.out]; exact Nat.le_refl _)
        have h := run_convert_runes w2 23 9 21 ⟨w.heap.size, k, none⟩ (n - k) cap (R.drop k) (by rw [List.length_drop, ← HN.out]; exact Nat.le_refl _) Try.underlying23 Try.underlying21 Try.underlying9 (fun j hj => by
          rw [List.length_drop] at hj
          rw [adr, hR2 (k + j) (by omega)]
          simp)
        rw [h1] at h
        exact h
      have HP : Hid (∀ w : World, Calls Try.prog 6 #[.string (runesBytes (R.drop k))] w fun e w' => ∃ v1 v2 v3, e = .returned (.tuple #[v1, v2, v3]) ∧ Tr3 w' w.heap.size v1 v2 v3 L3 ∧ w.grownBy w' none) := fun w => by
        rw [HL3.out]; exact zz_runes (R.drop k) w hgd (by rw [List.length_drop, ← HN.out]; omega)
      by_cases hck : Cw = k
      · as_aux_lemma =>
        have hp2 := hp0 hck
        clear hp0 hp1
        go_wp2_with fail
        refine (HP.out _).mono ?_
        rintro e w3 ⟨q1, q2, q3, rfl, T3, g3⟩
        have A1 := T1'.grown g3
        have A2 := T2.grown g3
        have A3 : Tr3 w3 w2.heap.size q1 q2 q3 L3 := T3
        have hR3 := hR2.grown g3
        have G3 : w.grownBy w3 none := grown_trans (grown_trans (grown_trans hG0 g1) g2) g3
        unfold Tr3 at A3
        have e1 : (plainTo R k ++ up k L3).length = k + L3.length := by rw [List.length_append, plainTo_len]; simp [up]
        have e2 := plainTo_len R k
        rw [e1] at A1
        rw [e2] at A2
        have hpl := fun j (hj : j < L3.length) => place_le HL3.out hj
        obtain ⟨m, hm⟩ : ∃ m, m = L3.length := ⟨_, rfl⟩
        rw [← hm] at A1 A3 hl3 hpl
        have HMM : Hid (m = L3.length) := hm
        have HPL : Hid (∀ j (hj : j < m), (L3.getD j (0, 0, false)).2.1 ≤ R.length) := fun j hj => by have := hpl j hj; rw [List.length_drop] at this; omega
        clear hm e1 e2 T1' T2 T3 hR2 g1 g2 g3 hG0 hpl hR0 HP H1 hgt hgd
        obtain ⟨fa, fx, rfl, _⟩ := own_form A1.r
        obtain ⟨fb, fy, rfl, _⟩ := own_form A1.a
        obtain ⟨fc, fz, rfl, _⟩ := own_form A1.q
        obtain ⟨pa, px, rfl, _⟩ := own_form A2.r
        obtain ⟨pb, py, rfl, _⟩ := own_form A2.a
        obtain ⟨pc, pz, rfl, _⟩ := own_form A2.q
        obtain ⟨qa, qx, rfl, _⟩ := own_form A3.r
        obtain ⟨qb, qy, rfl, _⟩ := own_form A3.a
        obtain ⟨qc, qz, rfl, _⟩ := own_form A3.q
        have nk : ((k : Int) != (k : Int)) = false := by simp
        have nm : ((m : Int) != (m : Int)) = false := by simp
        have nkm : ((k : Int) + (m : Int) != (k : Int) + (m : Int)) = false := by simp
        go_wp2_with fail
        go_loopw [16] (fun i wr => ∃ j : Nat, j ≤ k ∧ i = .int .i64 j ∧ ∃ q, wr = w3.drewN q) (fun i _ => k - (intOf i).toNat)
        case atStart => exact ⟨0, Nat.zero_le _, rfl, 0, rfl⟩
        case round => as_aux_lemma =>
          obtain ⟨j2, hj2, rfl, z2, rfl⟩ := hrel
          by_cases hlt2 : j2 < k
          · as_aux_lemma =>
            obtain ⟨ga, rfl⟩ := own_addr A2.r (by omega)
            obtain ⟨gb, rfl⟩ := own_addr A2.a (by omega)
            obtain ⟨gc, rfl⟩ := own_addr A2.q (by omega)
            have hlt2' : (j2 : Int) < (k : Int) := by omega
            have hlt2n : (j2 : Int) < (n : Int) := by omega
            obtain ⟨t0, t1, t2⟩ := plain_cells R k j2 hlt2
            have c0 : w3.cell? ⟨ga, j2, none⟩ = _ := (A2.r.cellAt j2 (by omega)).trans t0
            have c1 : w3.cell? ⟨gb, j2, none⟩ = _ := (A2.a.cellAt j2 (by omega)).trans t1
            have c2 : w3.cell? ⟨gc, j2, none⟩ = _ := (A2.q.cellAt j2 (by omega)).trans t2
            have c3 := hR3 j2 (by rw [← HN.out]; omega)
            generalize R.getD j2 0 = x at *
            have n0 : (x != x) = false := by simp
            have n1 : ((j2 : Int) + 1 != (j2 : Int) + 1) = false := by simp
            clear t0 t1 t2 A1 A2 A3 hR3
            go_wp2
            go_quiet (fail)
            go_wp2
            go_roundw
            case rel => exact ⟨j2 + 1, by omega, by go_num, _, rfl⟩
            case measure => simp [intOf]; omega
          · as_aux_lemma =>
            go_wp2_with fail
            clear hlt2 hj2
            go_loopw [17] (fun i wr => ∃ j : Nat, j ≤ k ∧ i = .int .i64 j ∧ ∃ q, wr = w3.drewN q) (fun i _ => k - (intOf i).toNat)
            case atStart => exact ⟨0, Nat.zero_le _, rfl, _, rfl⟩
            case round => as_aux_lemma =>
              obtain ⟨j3, hj3, rfl, z3, rfl⟩ := hrel
              by_cases hlt3 : j3 < k
              · as_aux_lemma =>
                obtain ⟨ga, rfl⟩ := own_addr A2.r (by omega)
                obtain ⟨gb, rfl⟩ := own_addr A2.a (by omega)
                obtain ⟨gc, rfl⟩ := own_addr A2.q (by omega)
                obtain ⟨ha, rfl⟩ := own_addr A1.r (by omega)
                obtain ⟨hb, rfl⟩ := own_addr A1.a (by omega)
                obtain ⟨hc, rfl⟩ := own_addr A1.q (by omega)
                have hlt3' : (j3 : Int) < (k : Int) := by omega
                have hlt3n : (j3 : Int) < (k : Int) + (m : Int) := by omega
                obtain ⟨t0, t1, t2⟩ := plain_cells R k j3 hlt3
                obtain ⟨s0, s1, s2⟩ := whole_cells R k (up k L3) j3 hlt3
                have c0 : w3.cell? ⟨ga, j3, none⟩ = _ := (A2.r.cellAt j3 (by omega)).trans t0
                have c1 : w3.cell? ⟨gb, j3, none⟩ = _ := (A2.a.cellAt j3 (by omega)).trans t1
                have c2 : w3.cell? ⟨gc, j3, none⟩ = _ := (A2.q.cellAt j3 (by omega)).trans t2
                have d0 : w3.cell? ⟨ha, j3, none⟩ = _ := (A1.r.cellAt j3 (by omega)).trans s0
                have d1 : w3.cell? ⟨hb, j3, none⟩ = _ := (A1.a.cellAt j3 (by omega)).trans s1
                have d2 : w3.cell? ⟨hc, j3, none⟩ = _ := (A1.q.cellAt j3 (by omega)).trans s2
                generalize R.getD j3 0 = x at *
                have n0 : (x != x) = false := by simp
                have n1 : ((j3 : Int) + 1 != (j3 : Int) + 1) = false := by simp
                clear t0 t1 t2 s0 s1 s2 A1 A2 A3 hR3
                go_wp2
                go_quiet (fail)
                go_wp2
                go_roundw
                case rel => exact ⟨j3 + 1, by omega, by go_num, _, rfl⟩
                case measure => simp [intOf]; omega
              · as_aux_lemma =>
                go_wp2_with fail
                clear hlt3 hj3
                go_loopw [18] (fun i wr => ∃ j : Nat, j ≤ m ∧ i = .int .i64 j ∧ ∃ q, wr = w3.drewN q) (fun i _ => m - (intOf i).toNat)
                case atStart => exact ⟨0, Nat.zero_le _, rfl, _, rfl⟩
                case round => as_aux_lemma =>
                  obtain ⟨j4, hj4, rfl, z4, rfl⟩ := hrel
                  by_cases hlt4 : j4 < m
                  · as_aux_lemma =>
                    obtain ⟨ga, rfl⟩ := own_addr A3.r (by omega)
                    obtain ⟨gb, rfl⟩ := own_addr A3.a (by omega)
                    obtain ⟨gc, rfl⟩ := own_addr A3.q (by omega)
                    obtain ⟨ha, rfl⟩ := own_addr A1.r (by omega)
                    obtain ⟨hb, rfl⟩ := own_addr A1.a (by omega)
                    obtain ⟨hc, rfl⟩ := own_addr A1.q (by omega)
                    have hlt4' : (j4 : Int) < (m : Int) := by omega
                    have hlt4n : (k : Int) + (j4 : Int) < (k : Int) + (m : Int) := by omega
                    have hj4' : j4 < L3.length := by rw [← HMM.out]; exact hlt4
                    have hple := HPL.out j4 hlt4
                    rw [← HN.out] at hple
                    obtain ⟨t0, t1, t2⟩ := list_cells L3 j4 hj4'
                    obtain ⟨s0, s1, s2⟩ := up_cells R k L3 j4 hj4'
                    have c0 : w3.cell? ⟨ga, j4, none⟩ = _ := (A3.r.cellAt j4 (by omega)).trans t0
                    have c1 : w3.cell? ⟨gb, j4, none⟩ = _ := (A3.a.cellAt j4 (by omega)).trans t1
                    have c2 : w3.cell? ⟨gc, j4, none⟩ = _ := (A3.q.cellAt j4 (by omega)).trans t2
                    have d0 : w3.cell? ⟨ha, k + j4, none⟩ = _ := (A1.r.cellAt (k + j4) (by omega)).trans s0
                    have d1 : w3.cell? ⟨hb, k + j4, none⟩ = _ := (A1.a.cellAt (k + j4) (by omega)).trans s1
                    have d2 : w3.cell? ⟨hc, k + j4, none⟩ = _ := (A1.q.cellAt (k + j4) (by omega)).trans s2
                    generalize (L3.getD j4 (0, 0, false)).1 = x at *
                    generalize (L3.getD j4 (0, 0, false)).2.1 = y at *
                    generalize (L3.getD j4 (0, 0, false)).2.2 = z at *
                    have n0 : (x != x) = false := by simp
                    have n1 : ((y : Int) + (k : Int) != (y : Int) + (k : Int)) = false := by simp
                    have n2 : (z != z) = false := by simp
                    clear t0 t1 t2 s0 s1 s2 A1 A2 A3 hR3
                    go_wp2
                    go_quiet (fail)
                    go_wp2
                    go_roundw
                    case rel => exact ⟨j4 + 1, by omega, by go_num, _, rfl⟩
                    case measure => simp [intOf]; omega
                  · as_aux_lemma =>
                    go_wp2
                    go_ret
                    exact ⟨rfl, grown_trans G3 (grown_drewN _ _ _)⟩
      · as_aux_lemma =>
        clear hp0
        go_wp2_with fail
        refine (HP.out _).mono ?_
        rintro e w3 ⟨q1, q2, q3, rfl, T3, g3⟩
        have A1 := T1'.grown g3
        have A2 := T2.grown g3
        have A3 : Tr3 w3 w2.heap.size q1 q2 q3 L3 := T3
        have hR3 := hR2.grown g3
        have G3 : w.grownBy w3 none := grown_trans (grown_trans (grown_trans hG0 g1) g2) g3
        unfold Tr3 at A3
        have e1 : (plainTo R k ++ up k L3).length = k + L3.length := by rw [List.length_append, plainTo_len]; simp [up]
        have e2 := plainTo_len R k
        rw [e1] at A1
        rw [e2] at A2
        have hpl := fun j (hj : j < L3.length) => place_le HL3.out hj
        obtain ⟨m, hm⟩ : ∃ m, m = L3.length := ⟨_, rfl⟩
        rw [← hm] at A1 A3 hl3 hpl
        have HMM : Hid (m = L3.length) := hm
        have HPL : Hid (∀ j (hj : j < m), (L3.getD j (0, 0, false)).2.1 ≤ R.length) := fun j hj => by have := hpl j hj; rw [List.length_drop] at this; omega
        clear hm e1 e2 T1' T2 T3 hR2 g1 g2 g3 hG0 hpl hR0 HP H1 hgt hgd
        obtain ⟨fa, fx, rfl, _⟩ := own_form A1.r
        obtain ⟨fb, fy, rfl, _⟩ := own_form A1.a
        obtain ⟨fc, fz, rfl, _⟩ := own_form A1.q
        obtain ⟨pa, px, rfl, _⟩ := own_form A2.r
        obtain ⟨pb, py, rfl, _⟩ := own_form A2.a
        obtain ⟨pc, pz, rfl, _⟩ := own_form A2.q
        obtain ⟨qa, qx, rfl, _⟩ := own_form A3.r
        obtain ⟨qb, qy, rfl, _⟩ := own_form A3.a
        obtain ⟨qc, qz, rfl, _⟩ := own_form A3.q
        have nk : ((k : Int) != (k : Int)) = false := by simp
        have nm : ((m : Int) != (m : Int)) = false := by simp
        have nkm : ((k : Int) + (m : Int) != (k : Int) + (m : Int)) = false := by simp
        go_wp2_with fail
        go_loopw [16] (fun i wr => ∃ j : Nat, j ≤ k ∧ i = .int .i64 j ∧ ∃ q, wr = w3.drewN q) (fun i _ => k - (intOf i).toNat)
        case atStart => exact ⟨0, Nat.zero_le _, rfl, 0, rfl⟩
        case round => as_aux_lemma =>
          obtain ⟨j2, hj2, rfl, z2, rfl⟩ := hrel
          by_cases hlt2 : j2 < k
          · as_aux_lemma =>
            obtain ⟨ga, rfl⟩ := own_addr A2.r (by omega)
            obtain ⟨gb, rfl⟩ := own_addr A2.a (by omega)
            obtain ⟨gc, rfl⟩ := own_addr A2.q (by omega)
            have hlt2' : (j2 : Int) < (k : Int) := by omega
            have hlt2n : (j2 : Int) < (n : Int) := by omega
            obtain ⟨t0, t1, t2⟩ := plain_cells R k j2 hlt2
            have c0 : w3.cell? ⟨ga, j2, none⟩ = _ := (A2.r.cellAt j2 (by omega)).trans t0
            have c1 : w3.cell? ⟨gb, j2, none⟩ = _ := (A2.a.cellAt j2 (by omega)).trans t1
            have c2 : w3.cell? ⟨gc, j2, none⟩ = _ := (A2.q.cellAt j2 (by omega)).trans t2
            have c3 := hR3 j2 (by rw [← HN.out]; omega)
            generalize R.getD j2 0 = x at *
            have n0 : (x != x) = false := by simp
            have n1 : ((j2 : Int) + 1 != (j2 : Int) + 1) = false := by simp
            clear t0 t1 t2 A1 A2 A3 hR3
            go_wp2
            go_quiet (fail)
            go_wp2
            go_roundw
            case rel => exact ⟨j2 + 1, by omega, by go_num, _, rfl⟩
            case measure => simp [intOf]; omega
          · as_aux_lemma =>
            go_wp2_with fail
            clear hlt2 hj2
            go_loopw [17] (fun i wr => ∃ j : Nat, j ≤ k ∧ i = .int .i64 j ∧ ∃ q, wr = w3.drewN q) (fun i _ => k - (intOf i).toNat)
            case atStart => exact ⟨0, Nat.zero_le _, rfl, _, rfl⟩
            case round => as_aux_lemma =>
              obtain ⟨j3, hj3, rfl, z3, rfl⟩ := hrel
              by_cases hlt3 : j3 < k
              · as_aux_lemma =>
                obtain ⟨ga, rfl⟩ := own_addr A2.r (by omega)
                obtain ⟨gb, rfl⟩ := own_addr A2.a (by omega)
                obtain ⟨gc, rfl⟩ := own_addr A2.q (by omega)
                obtain ⟨ha, rfl⟩ := own_addr A1.r (by omega)
                obtain ⟨hb, rfl⟩ := own_addr A1.a (by omega)
                obtain ⟨hc, rfl⟩ := own_addr A1.q (by omega)
                have hlt3' : (j3 : Int) < (k : Int) := by omega
                have hlt3n : (j3 : Int) < (k : Int) + (m : Int) := by omega
                obtain ⟨t0, t1, t2⟩ := plain_cells R k j3 hlt3
                obtain ⟨s0, s1, s2⟩ := whole_cells R k (up k L3) j3 hlt3
                have c0 : w3.cell? ⟨ga, j3, none⟩ = _ := (A2.r.cellAt j3 (by omega)).trans t0
                have c1 : w3.cell? ⟨gb, j3, none⟩ = _ := (A2.a.cellAt j3 (by omega)).trans t1
                have c2 : w3.cell? ⟨gc, j3, none⟩ = _ := (A2.q.cellAt j3 (by omega)).trans t2
                have d0 : w3.cell? ⟨ha, j3, none⟩ = _ := (A1.r.cellAt j3 (by omega)).trans s0
                have d1 : w3.cell? ⟨hb, j3, none⟩ = _ := (A1.a.cellAt j3 (by omega)).trans s1
                have d2 : w3.cell? ⟨hc, j3, none⟩ = _ := (A1.q.cellAt j3 (by omega)).trans s2
                generalize R.getD j3 0 = x at *
                have n0 : (x != x) = false := by simp
                have n1 : ((j3 : Int) + 1 != (j3 : Int) + 1) = false := by simp
                clear t0 t1 t2 s0 s1 s2 A1 A2 A3 hR3
                go_wp2
                go_quiet (fail)
                go_wp2
                go_roundw
                case rel => exact ⟨j3 + 1, by omega, by go_num, _, rfl⟩
                case measure => simp [intOf]; omega
              · as_aux_lemma =>
                go_wp2_with fail
                clear hlt3 hj3
                go_loopw [18] (fun i wr => ∃ j : Nat, j ≤ m ∧ i = .int .i64 j ∧ ∃ q, wr = w3.drewN q) (fun i _ => m - (intOf i).toNat)
                case atStart => exact ⟨0, Nat.zero_le _, rfl, _, rfl⟩
                case round => as_aux_lemma =>
                  obtain ⟨j4, hj4, rfl, z4, rfl⟩ := hrel
                  by_cases hlt4 : j4 < m
                  · as_aux_lemma =>
                    obtain ⟨ga, rfl⟩ := own_addr A3.r (by omega)
                    obtain ⟨gb, rfl⟩ := own_addr A3.a (by omega)
                    obtain ⟨gc, rfl⟩ := own_addr A3.q (by omega)
                    obtain ⟨ha, rfl⟩ := own_addr A1.r (by omega)
                    obtain ⟨hb, rfl⟩ := own_addr A1.a (by omega)
                    obtain ⟨hc, rfl⟩ := own_addr A1.q (by omega)
                    have hlt4' : (j4 : Int) < (m : Int) := by omega
                    have hlt4n : (k : Int) + (j4 : Int) < (k : Int) + (m : Int) := by omega
                    have hj4' : j4 < L3.length := by rw [← HMM.out]; exact hlt4
                    have hple := HPL.out j4 hlt4
                    rw [← HN.out] at hple
                    obtain ⟨t0, t1, t2⟩ := list_cells L3 j4 hj4'
                    obtain ⟨s0, s1, s2⟩ := up_cells R k L3 j4 hj4'
                    have c0 : w3.cell? ⟨ga, j4, none⟩ = _ := (A3.r.cellAt j4 (by omega)).trans t0
                    have c1 : w3.cell? ⟨gb, j4, none⟩ = _ := (A3.a.cellAt j4 (by omega)).trans t1
                    have c2 : w3.cell? ⟨gc, j4, none⟩ = _ := (A3.q.cellAt j4 (by omega)).trans t2
                    have d0 : w3.cell? ⟨ha, k + j4, none⟩ = _ := (A1.r.cellAt (k + j4) (by omega)).trans s0
                    have d1 : w3.cell? ⟨hb, k + j4, none⟩ = _ := (A1.a.cellAt (k + j4) (by omega)).trans s1
                    have d2 : w3.cell? ⟨hc, k + j4, none⟩ = _ := (A1.q.cellAt (k + j4) (by omega)).trans s2
                    generalize (L3.getD j4 (0, 0, false)).1 = x at *
                    generalize (L3.getD j4 (0, 0, false)).2.1 = y at *
                    generalize (L3.getD j4 (0, 0, false)).2.2 = z at *
                    have n0 : (x != x) = false := by simp
                    have n1 : ((y : Int) + (k : Int) != (y : Int) + (k : Int)) = false := by simp
                    have n2 : (z != z) = false := by simp
                    clear t0 t1 t2 s0 s1 s2 A1 A2 A3 hR3
                    go_wp2
                    go_quiet (fail)
                    go_wp2
                    go_roundw
                    case rel => exact ⟨j4 + 1, by omega, by go_num, _, rfl⟩
                    case measure => simp [intOf]; omega
                  · as_aux_lemma =>
                    go_wp2
                    go_ret
                    exact ⟨rfl, grown_trans G3 (grown_drewN _ _ _)⟩
end Go.Proofs.Qxb6619510a
