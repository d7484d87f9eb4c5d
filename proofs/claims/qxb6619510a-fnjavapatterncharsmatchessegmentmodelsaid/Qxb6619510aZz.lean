import Derived.Test.Qxb6619510aTri
namespace Go.Proofs.Qxb6619510a
open Go.RowKit
set_option linter.unusedVariables false

theorem own_addr {w : World} {base : Nat} {e : TypeId} {size : Nat} {d : Option Addr} {n cap : Nat} {xs : List Value} (h : w.ownsRow base e size (.slice d n cap) n xs) (hn : 0 < n) : ∃ g, d = some ⟨g, 0, none⟩ := by
  rcases h.2 with ⟨h, h0⟩ | ⟨g, cap', cur, hv, _⟩
  · omega
  · exact ⟨g, by cases hv; rfl⟩

theorem flat3_at (l : List (Int × Nat × Bool)) (i : Nat) (h : i < l.length) : (flat3 l)[i * 3]? = some (.int .i32 l[i].1) ∧ (flat3 l)[i * 3 + 1]? = some (.int .i64 (l[i].2.1 : Nat)) ∧ (flat3 l)[i * 3 + 2]? = some (.bool l[i].2.2) := by
  induction l generalizing i with
  | nil => simp at h
  | cons a l ih =>
    have e : flat3 (a :: l) = .int .i32 a.1 :: .int .i64 a.2.1 :: .bool a.2.2 :: flat3 l := by simp [flat3]
    cases i with
    | zero => rw [e]; simp
    | succ i =>
      have := ih i (by simpa using h)
      rw [e, show (i + 1) * 3 = i * 3 + 1 + 1 + 1 from by omega]
      simp only [List.getElem?_cons_succ, List.getElem_cons_succ]
      exact this

theorem take_snoc (l : List (Int × Nat × Bool)) (k : Nat) (h : k < l.length) : l.take (k + 1) = l.take k ++ [l[k]] := by
  rw [List.take_succ_eq_append_getElem h]

/-- One more character in each row. -/
theorem tr3_snoc {w : World} {B : Nat} {v1 v2 v3 : Value} {l : List (Int × Nat × Bool)} {N : Nat} {r : Int} {at' : Nat} {q : Bool} (hN : N = l.length)
    (h : Tri w B v1 v2 v3 (N + 1) (N + 1) (N + 1) (fR l ++ [.int .i32 r]) (fA l ++ [.int .i64 (at' : Int)]) (fQ l ++ [.bool q])) : Tr3 w B v1 v2 v3 (l ++ [(r, at', q)]) := by
  subst hN
  unfold Tr3
  simpa [fR, fA, fQ] using h

theorem size_alloc (w : World) (o : Obj) : (w.alloc o).heap.size = w.heap.size + 1 := by simp

theorem cells_new2 (w : World) (o : Obj) (cs : List Value) (t : TypeId) : ∀ j u, cs[j]? = some u → ((w.alloc o).alloc (.cells cs.toArray t)).cell? ((⟨w.heap.size + 1, 0, none⟩ : Addr).add j) = some u := by
  have := cells_new (w.alloc o) cs t
  rw [size_alloc] at this
  exact this

/-- A block laid before an append to an older row reads as it was laid. -/
theorem c_cells {wr wa : World} {B e size n : Nat} {v : Value} {xs cs : List Value} {t : TypeId} {o : Obj} (hr : wr.ownsRow B e size v n xs) (hga : ((wr.alloc (.cells cs.toArray t)).alloc o).grownBy wa v.ownBlock) :
    ∀ j u, cs[j]? = some u → wa.cell? ⟨wr.heap.size, j, none⟩ = some u := by
  intro j u hu
  have h0 := (Blk.new wr cs t).alloc o
  refine hga.cell (by rw [h0.at]; exact hu) ?_
  intro e
  have := (hr.lt wr.heap.size e.symm).2
  omega

theorem c_keep {wr wa wb : World} {B e size n j : Nat} {v u : Value} {xs : List Value} {o : Obj} (hr : wr.ownsRow B e size v n xs) (hgb : (wa.alloc o).grownBy wb v.ownBlock) (hc : wa.cell? ⟨wr.heap.size, j, none⟩ = some u) : wb.cell? ⟨wr.heap.size, j, none⟩ = some u := by
  refine hgb.cell ((World.grownBy_alloc wa o none).cell hc (by simp)) ?_
  intro e
  have := (hr.lt wr.heap.size e.symm).2
  omega

set_option maxHeartbeats 2000000 in
set_option maxRecDepth 100000 in
theorem zz_any (s : ByteArray) (w : World) (hs : s.size ≤ 4194304) :
    Calls Try.prog 6 #[.string s] w fun e w' => ∃ v1 v2 v3, e = .returned (.tuple #[v1, v2, v3]) ∧ Tr3 w' w.heap.size v1 v2 v3 (jp false 0 (rn s)) ∧ w.grownBy w' none := by
  obtain ⟨i1, hi1, hz10, hz11, hz12⟩ := info_parts Try.info21
  obtain ⟨i2, hi2, hz20, hz21, hz22⟩ := info_parts Try.info3
  obtain ⟨i3, hi3, hz30, hz31, hz32⟩ := info_parts Try.info4
  have hl := rn_len s
  have hjl := jp_len (rn s) (rn s).length false 0 (by omega)
  rw [List.drop_zero] at hjl
  obtain ⟨L, hLL⟩ : ∃ L, L = jp false 0 (rn s) := ⟨_, rfl⟩
  have HJ : Hid (∀ w : World, Calls Try.prog 10 #[.string s] w fun e w' => ∃ v, e = .returned v ∧ w'.ownsRow w.heap.size 33 3 v L.length (flat3 L) ∧ w.grownBy w' none) := fun w => by rw [hLL]; exact jpc_any s w hs
  rw [← hLL] at hjl ⊢
  clear hLL
  obtain ⟨n, hn⟩ : ∃ n, n = L.length := ⟨_, rfl⟩
  have hnl : n ≤ 4194304 := by omega
  have HN : Hid (n = L.length) := hn
  clear hn hjl hl
  go_enter Try.func6, Try.ntmps6
  go_wp2_with fail
  refine (HJ.out _).mono ?_
  rintro e w1 ⟨v, rfl, hown, hg1⟩
  rw [← HN.out] at hown
  obtain ⟨a, cap, hv, _⟩ := own_form hown
  rw [hv] at hown ⊢
  clear hv v
  by_cases h0 : n = 0
  · subst h0
    have hL : L = [] := List.eq_nil_of_length_eq_zero HN.out.symm
    have HL : Hid (L = []) := hL
    clear hL
    go_wp2
    refine wp_loop_rounds 1 ?_
    rw [rounds_succ]
    go_wp2
    go_ret3
    exact ⟨.slice none 0 0, .slice none 0 0, .slice none 0 0, rfl, by rw [HL.out]; exact Tr3.nil _ _, hg1⟩
  · obtain ⟨g, rfl⟩ := own_addr hown (by omega)
    go_wp2
    obtain ⟨W1, rfl⟩ : ∃ x, x = w1 := ⟨_, rfl⟩
    go_loopw [2, 3, 4, 10] (fun v1 v2 v3 i wr => ∃ k : Nat, k ≤ n ∧ i = .int .i64 k ∧ Tr3 wr W1.heap.size v1 v2 v3 (L.take k) ∧ W1.grownBy wr none) (fun _ _ _ i _ => n - (intOf i).toNat)
    case atStart => exact ⟨0, Nat.zero_le _, rfl, Tr3.nil _ _, World.grownBy.refl _ _⟩
    case round =>
      obtain ⟨k, hk, rfl, hT, hg⟩ := hrel
      by_cases hlt : k < n
      · have hk' : k < L.length := by rw [← HN.out]; exact hlt
        obtain ⟨f0, f1, f2⟩ := flat3_at L k hk'
        have c0 := hg.cell (show W1.cell? ⟨g, k * 3, none⟩ = some _ by rw [hown.cellAt (k * 3) (by omega)]; exact f0) (by simp)
        have c1 := hg.cell (show W1.cell? ⟨g, k * 3 + 1, none⟩ = some _ by rw [hown.cellAt (k * 3 + 1) (by omega)]; exact f1) (by simp)
        have c2 := hg.cell (show W1.cell? ⟨g, k * 3 + 2, none⟩ = some _ by rw [hown.cellAt (k * 3 + 2) (by omega)]; exact f2) (by simp)
        have hts := take_snoc L k hk'
        have hlen : (L.take k).length = k := by simp; omega
        obtain ⟨r, hr⟩ : ∃ r, r = L[k].1 := ⟨_, rfl⟩
        obtain ⟨p, hp⟩ : ∃ p, p = L[k].2.1 := ⟨_, rfl⟩
        obtain ⟨q, hq⟩ : ∃ q, q = L[k].2.2 := ⟨_, rfl⟩
        have hek : L[k] = (r, p, q) := by rw [hr, hp, hq]
        rw [← hr] at c0
        rw [← hp] at c1
        rw [← hq] at c2
        have HTS : Hid (L.take (k + 1) = L.take k ++ [(r, p, q)]) := by rw [hts, hek]; exact rfl
        unfold Tr3 at hT
        rw [hlen] at hT
        generalize hFR : fR (L.take k) = FR at hT
        generalize hFA : fA (L.take k) = FA at hT
        generalize hFQ : fQ (L.take k) = FQ at hT
        have HF : Hid (fR (L.take k) = FR ∧ fA (L.take k) = FA ∧ fQ (L.take k) = FQ ∧ (L.take k).length = k) := ⟨hFR, hFA, hFQ, hlen⟩
        clear f0 f1 f2 hts hlen hr hp hq hek hFR hFA hFQ
        have m1 : k + 1 ≤ maxLen := by unfold maxLen; omega
        have hsz := hg.size
        go_wp2_with (first | (at_builtin; refine wpList_append_own _ rfl _ _ 23 rfl W1.heap.size 21 i1 (.int .i32 0) 1 4 Try.underlying23 hi1 hz10 hz11 hz12 rfl (by decide) _ k FR rfl ((hT.r.alloc _).alloc _) ⟨wr.heap.size + 1, 0, none⟩ 1 1 [.int .i32 r] rfl rfl (cells_new2 wr _ _ _) (one1 _ rfl) m1 (by omega) (Nat.le_trans hsz (Nat.le_trans (World.grownBy_alloc wr _ none).size (World.grownBy_alloc _ _ none).size)) ?_; intro v1' wa hoa hga _; have hTa := ((hT.alloc _).alloc _).onR hoa hga; have hGa := grown_app rfl (grown_trans (grown_trans hg (World.grownBy_alloc wr _ none)) (World.grownBy_alloc _ _ none)) ((hT.r.alloc _).alloc _) hga; have d1 := c_cells (cs := [.int .i32 r, .int .i64 (p : Int), .bool q]) hT.r hga 1 _ rfl; have d2 := c_cells (cs := [.int .i32 r, .int .i64 (p : Int), .bool q]) hT.r hga 2 _ rfl; have sza := hGa.size) | (at_builtin; refine wpList_append_own _ rfl _ _ 24 rfl W1.heap.size 3 i2 (.int .i64 0) 1 8 Try.underlying24 hi2 hz20 hz21 hz22 rfl (by decide) _ k FA rfl (hTa.a.alloc _) ⟨wa.heap.size, 0, none⟩ 1 1 [.int .i64 (p : Int)] rfl rfl (cells_new wa _ _) (one1 _ rfl) m1 (by omega) (Nat.le_trans sza (World.grownBy_alloc wa _ none).size) ?_; intro v2' wb hob hgb _; have hTb := (hTa.alloc _).onA hob hgb; have hGb := grown_app rfl (grown_trans hGa (World.grownBy_alloc wa _ none)) (hTa.a.alloc _) hgb; have d2' := c_keep hT.a hgb d2; have szb := hGb.size) | (at_builtin; refine wpList_append_own _ rfl _ _ 25 rfl W1.heap.size 4 i3 (.bool false) 1 1 Try.underlying25 hi3 hz30 hz31 hz32 rfl (by decide) _ k FQ rfl (hTb.q.alloc _) ⟨wb.heap.size, 0, none⟩ 1 1 [.bool q] rfl rfl (cells_new wb _ _) (one1 _ rfl) m1 (by omega) (Nat.le_trans szb (World.grownBy_alloc wb _ none).size) ?_; intro v3' wd hod hgd _; have hTd := (hTb.alloc _).onQ hod hgd; have hGd := grown_app rfl (grown_trans hGb (World.grownBy_alloc wb _ none)) (hTb.q.alloc _) hgd))
        go_roundw
        case rel =>
          obtain ⟨e1, e2, e3, e4⟩ := HF.out
          refine ⟨k + 1, by omega, by go_num, ?_, hGd⟩
          rw [HTS.out]
          refine tr3_snoc e4.symm ?_
          rw [e1, e2, e3]
          exact hTd
        case measure => simp [intOf]; omega
      · have hfin : L.take k = L := List.take_of_length_le (by rw [← HN.out]; omega)
        rw [hfin] at hT
        go_wp2
        go_ret3
        exact ⟨_, _, _, rfl, hT.weaken hg1.size, grown_trans hg1 hg⟩
end Go.Proofs.Qxb6619510a
