/- The place of the first closing, and the comparison of two readings. -/
import Derived.Test.Qxb6619510aCells
import Derived.Deep.QuietTactic
import Derived.BigQuiet
namespace Go.Proofs.Qxb6619510a
open Go.RowKit
set_option linter.unusedVariables false
set_option maxRecDepth 100000

/-- Where the quoted stretch from m on ends. -/
structure QEnd (R : List Int) (m e : Nat) : Prop where
  lo : m ≤ e
  hi : e ≤ R.length
  no : ∀ j, m ≤ j → j < e → j + 1 < R.length → ¬ (R.getD j 0 = 92 ∧ R.getD (j + 1) 0 = 69)
  yes : e < R.length → e + 1 < R.length ∧ R.getD e 0 = 92 ∧ R.getD (e + 1) 0 = 69

set_option maxHeartbeats 1000000 in
theorem qend_any (R : List Int) (g cap m n : Nat) (w : World) (hR : RowR w g R) (hnn : n = R.length) (hl : n ≤ 4194304) (hm : m ≤ n) :
    Calls Try.prog 11 #[.slice (some ⟨g, 0, none⟩) n cap, .int .i64 m] w fun e w' => ∃ x : Nat, e = .returned (.int .i64 x) ∧ QEnd R m x ∧ w.grownBy w' none := by
  have HN : Hid (n = R.length) := hnn
  clear hnn
  go_enter Try.func11, Try.ntmps11
  go_wp2
  go_loopw [5] (fun i wr => ∃ j : Nat, m ≤ j ∧ j ≤ n ∧ i = .int .i64 j ∧ (∀ x, m ≤ x → x < j → x + 1 < R.length → ¬ (R.getD x 0 = 92 ∧ R.getD (x + 1) 0 = 69)) ∧ ∃ q, wr = w.drewN q) (fun i _ => n - (intOf i).toNat)
  case atStart => exact ⟨m, Nat.le_refl _, hm, rfl, fun x h1 h2 => by omega, 0, rfl⟩
  case round =>
    obtain ⟨j, hj1, hj2, rfl, hno, z, rfl⟩ := hrel
    have HO : Hid (∀ x, m ≤ x → x < j → x + 1 < R.length → ¬ (R.getD x 0 = 92 ∧ R.getD (x + 1) 0 = 69)) := hno
    clear hno
    by_cases hlt : j + 1 < n
    · have c0 := hR j (by rw [← HN.out]; omega)
      have c1 := hR (j + 1) (by rw [← HN.out]; omega)
      obtain ⟨c, hc⟩ : ∃ c, c = R.getD j 0 := ⟨_, rfl⟩
      obtain ⟨d, hd⟩ : ∃ d, d = R.getD (j + 1) 0 := ⟨_, rfl⟩
      rw [← hc] at c0
      rw [← hd] at c1
      have HC : Hid (c = R.getD j 0) := hc
      have HD : Hid (d = R.getD (j + 1) 0) := hd
      clear hc hd
      by_cases h92 : c = 92
      · have b92 : (c == 92) = true := by rw [beq_iff_eq]; exact h92
        by_cases h69 : d = 69
        · have b69 : (d == 69) = true := by rw [beq_iff_eq]; exact h69
          have HQ : Hid (QEnd R m j) := ⟨hj1, by rw [← HN.out]; exact hj2, HO.out, fun _ => ⟨by rw [← HN.out]; exact hlt, by rw [← HC.out]; exact h92, by rw [← HD.out]; exact h69⟩⟩
          clear h92 h69
          go_wp2
          go_ret
          exact ⟨j, rfl, HQ.out, grown_drewN _ _ _⟩
        · have b69 : (d == 69) = false := by rw [beq_eq_false_iff_ne]; exact h69
          have HQ : Hid (∀ x, m ≤ x → x < j + 1 → x + 1 < R.length → ¬ (R.getD x 0 = 92 ∧ R.getD (x + 1) 0 = 69)) := fun x h1 h2 h3 => by
            by_cases e : x = j
            · subst e; rw [← HD.out]; exact fun h => h69 h.2
            · exact HO.out x h1 (by omega) h3
          clear h92 h69
          go_wp2
          go_roundw
          case rel => exact ⟨j + 1, by omega, by omega, by go_num, HQ.out, _, rfl⟩
          case measure => simp [intOf]; omega
      · have b92 : (c == 92) = false := by rw [beq_eq_false_iff_ne]; exact h92
        have HQ : Hid (∀ x, m ≤ x → x < j + 1 → x + 1 < R.length → ¬ (R.getD x 0 = 92 ∧ R.getD (x + 1) 0 = 69)) := fun x h1 h2 h3 => by
          by_cases e : x = j
          · subst e; rw [← HC.out]; exact fun h => h92 h.1
          · exact HO.out x h1 (by omega) h3
        clear h92
        go_wp2
        go_roundw
        case rel => exact ⟨j + 1, by omega, by omega, by go_num, HQ.out, _, rfl⟩
        case measure => simp [intOf]; omega
    · have HQ : Hid (QEnd R m n) := ⟨hm, by rw [← HN.out]; exact Nat.le_refl _, fun x h1 h2 h3 => HO.out x h1 (by rw [← HN.out] at h3; omega) h3, fun h => absurd h (by rw [← HN.out]; omega)⟩
      go_wp2
      go_ret
      exact ⟨n, rfl, HQ.out, grown_drewN _ _ _⟩

set_option maxHeartbeats 2000000 in
theorem same_any (L : List (Int × Nat × Bool)) (B1 B2 : Nat) (v1 v2 v3 v4 v5 v6 : Value) (w : World) (T1 : Tr3 w B1 v1 v2 v3 L) (T2 : Tr3 w B2 v4 v5 v6 L) (hL : L.length ≤ 4194304) :
    Calls Try.prog 8 #[v1, v2, v3, v4, v5, v6] w (Yes w) := by
  unfold Tr3 at T1 T2
  obtain ⟨m, hm⟩ : ∃ m, m = L.length := ⟨_, rfl⟩
  rw [← hm] at T1 T2 hL
  have HM : Hid (m = L.length) := hm
  clear hm
  obtain ⟨fa, fx, rfl, _⟩ := own_form T1.r
  obtain ⟨fb, fy, rfl, _⟩ := own_form T1.a
  obtain ⟨fc, fz, rfl, _⟩ := own_form T1.q
  obtain ⟨pa, px, rfl, _⟩ := own_form T2.r
  obtain ⟨pb, py, rfl, _⟩ := own_form T2.a
  obtain ⟨pc, pz, rfl, _⟩ := own_form T2.q
  have nm : ((m : Int) != (m : Int)) = false := by simp
  go_enter Try.func8, Try.ntmps8
  go_wp2_with fail
  go_loopw [13] (fun i wr => ∃ j : Nat, j ≤ m ∧ i = .int .i64 j ∧ ∃ q, wr = w.drewN q) (fun i _ => m - (intOf i).toNat)
  case atStart => exact ⟨0, Nat.zero_le _, rfl, 0, rfl⟩
  case round =>
    obtain ⟨j, hj, rfl, z, rfl⟩ := hrel
    by_cases hlt : j < m
    · obtain ⟨ga, rfl⟩ := own_addr T1.r (by omega)
      obtain ⟨gb, rfl⟩ := own_addr T1.a (by omega)
      obtain ⟨gc, rfl⟩ := own_addr T1.q (by omega)
      obtain ⟨ha, rfl⟩ := own_addr T2.r (by omega)
      obtain ⟨hb, rfl⟩ := own_addr T2.a (by omega)
      obtain ⟨hc, rfl⟩ := own_addr T2.q (by omega)
      have hlt' : (j : Int) < (m : Int) := by omega
      obtain ⟨t0, t1, t2⟩ := list_cells L j (by rw [← HM.out]; exact hlt)
      have c0 : w.cell? ⟨ga, j, none⟩ = _ := (T1.r.cellAt j (by omega)).trans t0
      have c1 : w.cell? ⟨gb, j, none⟩ = _ := (T1.a.cellAt j (by omega)).trans t1
      have c2 : w.cell? ⟨gc, j, none⟩ = _ := (T1.q.cellAt j (by omega)).trans t2
      have d0 : w.cell? ⟨ha, j, none⟩ = _ := (T2.r.cellAt j (by omega)).trans t0
      have d1 : w.cell? ⟨hb, j, none⟩ = _ := (T2.a.cellAt j (by omega)).trans t1
      have d2 : w.cell? ⟨hc, j, none⟩ = _ := (T2.q.cellAt j (by omega)).trans t2
      generalize (L.getD j (0, 0, false)).1 = x at *
      generalize (L.getD j (0, 0, false)).2.1 = y at *
      generalize (L.getD j (0, 0, false)).2.2 = q at *
      have n0 : (x != x) = false := by simp
      have n1 : ((y : Int) != (y : Int)) = false := by simp
      have n2 : (q != q) = false := by simp
      clear t0 t1 t2 T1 T2
      go_wp2
      go_quiet (fail)
      go_wp2
      go_roundw
      case rel => exact ⟨j + 1, by omega, by go_num, _, rfl⟩
      case measure => simp [intOf]; omega
    · go_wp2
      go_ret
      exact ⟨rfl, grown_drewN _ _ _⟩

set_option maxHeartbeats 400000 in
theorem bytesM_any (s : ByteArray) (w : World) (h1 : s.size ≤ maxLen) :
    Calls Try.prog 5 #[.string s] w fun e w' => ∃ r, e = .returned (.bool r) ∧ w' = w := by
  unfold maxLen at h1
  go_enter Try.func5, Try.ntmps5
  go_wp2
  all_goals (go_ret; exact ⟨_, rfl, rfl⟩)
end Go.Proofs.Qxb6619510a
