import Derived.Test.Qxb6618474aGlue
import Derived.Deep.DeepCutAuto
namespace Go.Proofs.Qxb6618474a
open Go.ChangeShapes Go.WideShapes Go.ChangeAt Go.RowKit
set_option linter.unusedVariables false
attribute [local go_sem ↓] Go.wp_at_zero Go.wp_at_succ

/-- The first k rows of kids are short. -/
def ShTo (Dss : List (List Itm)) (k : Nat) : Prop := ∀ i (h : i < Dss.length), i < k → Dss[i].length ≤ 65536
theorem ShTo.zero (Dss : List (List Itm)) : ShTo Dss 0 := fun i h hi => absurd hi (Nat.not_lt_zero _)
theorem ShTo.succ {Dss : List (List Itm)} {k : Nat} (hk : k < Dss.length) (h : ShTo Dss k) (hb : Dss[k].length ≤ 65536) : ShTo Dss (k + 1) := by
  intro i hi hik
  by_cases e : i = k
  · subst e; exact hb
  · exact h i hi (by omega)

/-- The tree's owner: none, or a block of its own. -/
def TOw (w : World) (f1 : Bool) (t : Value) (wx : World) : Prop :=
  ∃ tO, t = .pointer tO ∧ w.grownBy wx none ∧ (f1 = false → tO = none) ∧ (f1 = true → ∃ g, tO = some ⟨g, 0, none⟩ ∧ Blk wx g [.int .u8 0] 55)

/-- The node's owner: the tree's; none; or another block of its own. -/
def NOw (w : World) (tO : Option Addr) (f2 f3 : Bool) (t : Value) (wx : World) : Prop :=
  ∃ nO, t = .pointer nO ∧ w.grownBy wx none ∧ (f2 = true → nO = tO) ∧ (f2 = false → f3 = false → nO = none) ∧ (f2 = false → f3 = true → ∃ g, nO = some ⟨g, 0, none⟩ ∧ w.heap.size ≤ g ∧ Blk wx g [.int .u8 0] 55)

/-- Where the two owners are to be one they are. -/
theorem own_one {f1 f2 f3 : Bool} {tO nO : Option Addr} (t0 : f1 = false → tO = none) (n1 : f2 = true → nO = tO) (n2 : f2 = false → f3 = false → nO = none) (h : (f2 || (!f1 && !f3)) = true) : nO = tO := by
  cases f2
  · cases f1
    · cases f3
      · rw [n2 rfl rfl, t0 rfl]
      · cases h
    · cases h
  · exact n1 rfl

/-- Else they are two: one is nil, or each leads to a block of its own. -/
theorem own_two {w0 w : World} {f1 f2 f3 : Bool} {tO nO : Option Addr} (hg : w0.grownBy w none) (t0 : f1 = false → tO = none) (t1 : f1 = true → ∃ g, tO = some ⟨g, 0, none⟩ ∧ Blk w0 g [.int .u8 0] 55)
    (n1 : f2 = true → nO = tO) (n2 : f2 = false → f3 = false → nO = none) (n3 : f2 = false → f3 = true → ∃ g, nO = some ⟨g, 0, none⟩ ∧ w0.heap.size ≤ g ∧ Blk w g [.int .u8 0] 55)
    (h : (f2 || (!f1 && !f3)) = false) : Apart w nO tO := by
  cases f2
  · cases f1
    · cases f3
      · cases h
      · obtain ⟨g, rfl, _, _⟩ := n3 rfl rfl
        rw [t0 rfl]
        exact ⟨by simp, fun a b _ hb => by cases hb⟩
    · obtain ⟨g, rfl, hB⟩ := t1 rfl
      have hB' := hB.grown hg (by simp)
      have hlt := hB.lt
      cases f3
      · rw [n2 rfl rfl]
        exact ⟨by simp, fun a b ha _ => by cases ha⟩
      · obtain ⟨g', rfl, hle, hB2⟩ := n3 rfl rfl
        refine ⟨fun e => ?_, fun a b ha hb => ?_⟩
        · simp only [Option.some.injEq, Addr.mk.injEq, and_true] at e
          omega
        · cases ha; cases hb
          exact ⟨_, _, _, _, hB2, hB'⟩
  · cases h

theorem made_ptrs (n : Nat) : (madeCells (Value.pointer none).cells (n * 1)).toList = ptrs (List.replicate n none) := by
  have : (Value.pointer none).cells = #[.pointer none] := rfl
  rw [this, toList_madeCells_one]
  simp [ptrs]

theorem ptrs_set (ps : List (Option Addr)) (k : Nat) (p : Option Addr) : (ptrs ps).set k (.pointer p) = ptrs (ps.set k p) := by
  unfold ptrs; rw [List.map_set]

theorem ptrs_cell {w : World} {g : Nat} {ps : List (Option Addr)} (hB : Blk w g (ptrs ps) 34) {k : Nat} (hk : k < ps.length) : w.cell? ⟨g, k, none⟩ = some (.pointer (ps.getD k none)) := by
  rw [hB.at]; exact ptrs_at ps k hk

/-- One round of a copy of pointers. -/
theorem ptrs_copy {ps qs : List (Option Addr)} {k m : Nat} (hp : ps.length = m) (hq : qs.length = m) (hk : k < m) (h : ∀ i, i < k → qs.getD i none = ps.getD i none) :
    ∀ i, i < k + 1 → (qs.set k (ps.getD k none)).getD i none = ps.getD i none := by
  intro i hi
  rw [List.getD_eq_getElem?_getD, List.getElem?_set]
  by_cases e : k = i
  · subst e
    rw [if_pos rfl, if_pos (by omega)]; rfl
  · rw [if_neg e, ← List.getD_eq_getElem?_getD]
    exact h i (by omega)

theorem ptrs_eq {ps qs : List (Option Addr)} {m : Nat} (hp : ps.length = m) (hq : qs.length = m) (h : ∀ i, i < m → qs.getD i none = ps.getD i none) : qs = ps := by
  apply List.ext_getElem (by omega)
  intro i h1 h2
  have := h i (by omega)
  rw [List.getD_eq_getElem?_getD, List.getD_eq_getElem?_getD, List.getElem?_eq_getElem h1, List.getElem?_eq_getElem h2] at this
  exact this

theorem own_addr {w : World} {base : Nat} {e : TypeId} {size : Nat} {d : Option Addr} {n cap : Nat} {xs : List Value} (h : w.ownsRow base e size (.slice d n cap) n xs) (hn : 0 < n) : ∃ g, d = some ⟨g, 0, none⟩ := by
  rcases h.2 with ⟨h, h0⟩ | ⟨g, cap', cur, hv, _⟩
  · omega
  · exact ⟨g, by cases hv; rfl⟩

/-- A block that holds a row of records is no node's block. -/
theorem own_ne {w : World} {base n c g gq : Nat} {xs cs : List Value} (h : w.ownsRow base 51 4 (.slice (some ⟨g, 0, none⟩) n c) n xs) (hB : Blk w gq cs 57) : g ≠ gq := by
  intro e
  subst e
  rcases h.2 with ⟨h, _⟩ | ⟨g', cap', cur, hv, _, hg, _⟩
  · cases h
  · simp only [Value.slice.injEq, Option.some.injEq, Addr.mk.injEq] at hv
    obtain ⟨⟨rfl, _⟩, _⟩ := hv
    unfold Blk at hB
    rw [hg] at hB
    simp at hB

/-- Nor a row of pointers' block. -/
theorem own_apart {w : World} {base n c g base' m d : Nat} {b : Option Addr} {xs ys : List Value} (h : w.ownsRow base 51 4 (.slice (some ⟨g, 0, none⟩) n c) n xs) (k : w.ownsRow base' 34 1 (.slice b m d) m ys) :
    (Value.slice b m d).ownBlock ≠ some g := by
  intro e
  rcases h.2 with ⟨h, _⟩ | ⟨g', cap', cur, hv, _, hg, _⟩
  · cases h
  · simp only [Value.slice.injEq, Option.some.injEq, Addr.mk.injEq] at hv
    obtain ⟨⟨rfl, _⟩, _⟩ := hv
    rcases k.2 with ⟨h, _⟩ | ⟨g2, cap2, cur2, hv2, _, hg2, _⟩
    · cases h; simp [Value.ownBlock] at e
    · simp only [Value.slice.injEq] at hv2
      obtain ⟨rfl, _⟩ := hv2
      simp [Value.ownBlock] at e
      subst e
      rw [hg] at hg2
      simp at hg2

/-- What is known behind the first write into the copy. -/
def Rest (w11 : World) (gq : Nat) (bq : Option Addr) (m dq : Nat) (qs : List (Option Addr)) (wx : World) : Prop :=
  w11.grownBy wx none ∧ wx.cell? ⟨gq, 2, none⟩ = some (.slice bq m dq) ∧ wx.ownsRow w11.heap.size 34 1 (.slice bq m dq) m (ptrs qs)

theorem first_itm {w : World} {a : Option Addr} {n : Nat} {Ds : List Itm} (h : ItmsAt w 0 a n Ds) (hs : Small Ds) (hn : 0 < n) : ∃ b o x0 x1 x2, a = some ⟨b, o, none⟩ ∧ w.cell? ⟨b, o, none⟩ = some (.string x0) ∧
    w.cell? ⟨b, o + 1, none⟩ = some (.string x1) ∧ w.cell? ⟨b, o + 2, none⟩ = some (.int .u64 x2) ∧ x0.size ≤ 1048576 := by
  obtain ⟨b, o, ha, _, hc⟩ := h.2 hn
  have hd : 0 < Ds.length := by rw [h.1]; exact hn
  obtain ⟨s0, s1, s2, _⟩ := hc 0 hd
  simp only [Nat.zero_mul, Nat.add_zero] at s0 s1 s2
  exact ⟨b, o, _, _, _, ha, s0, s1, s2, (hs 0 hd).2.1⟩

theorem own_four {w : World} {base n c g : Nat} {xs : List Value} (h : w.ownsRow base 51 4 (.slice (some ⟨g, 0, none⟩) n c) n xs) (hn : 0 < n) : ∃ y0 y1 y2 y3, w.cell? ⟨g, 0, none⟩ = some y0 ∧ w.cell? ⟨g, 1, none⟩ = some y1 ∧ w.cell? ⟨g, 2, none⟩ = some y2 ∧ w.cell? ⟨g, 3, none⟩ = some y3 := by
  have hl := h.1
  refine ⟨xs[0]'(by omega), xs[1]'(by omega), xs[2]'(by omega), xs[3]'(by omega), ?_, ?_, ?_, ?_⟩
  · rw [h.cellAt 0 (by omega), List.getElem?_eq_getElem]
  · rw [h.cellAt 1 (by omega), List.getElem?_eq_getElem]
  · rw [h.cellAt 2 (by omega), List.getElem?_eq_getElem]
  · rw [h.cellAt 3 (by omega), List.getElem?_eq_getElem]

theorem own_kept {w w' : World} {base e size n : Nat} {v : Value} {xs : List Value} {g : Nat} (h : w.ownsRow base e size v n xs) (hg : w.grownBy w' (some g)) (hne : v.ownBlock ≠ some g) : w'.ownsRow base e size v n xs :=
  h.kept hg (.inr hne)

/-- What the law answers. -/
def Yes (w : World) (e : Ending) (w' : World) : Prop := e = .returned (.bool true) ∧ w.grownBy w' none

set_option maxHeartbeats 4000000 in
set_option maxRecDepth 100000 in
theorem law_any (w : World) (f1 f2 f3 : Bool) (a : Option Addr) (n c : Nat) (b : Option Addr) (m d : Nat) (Ds : List Itm) (Dss : List (List Itm))
    (hI : ItmsAt w 0 a n Ds) (hK : KidsAt w 0 b m Dss) (hn : n ≤ maxLen) (hm : m ≤ maxLen) :
    Calls Try.prog 3 #[.bool f1, .bool f2, .bool f3, .slice a n c, .slice b m d] w (Yes w) := by
  by_cases hn1 : 65536 < n
  · as_aux_lemma =>
    go_enter Try.func3, Try.ntmps3
    go_wp2_with fail
    refine (zz_any _ f1 f2 f3 a n c b m d Ds Dss hI hK hn hm).mono ?_
    rintro e w' ⟨r, rfl, rfl, _⟩
    unfold maxLen at hn hm
    clear hI hK
    go_wp2_with fail
    all_goals (go_ret; exact ⟨rfl, World.grownBy.refl _ _⟩)
  by_cases hm1 : 65536 < m
  · as_aux_lemma =>
    go_enter Try.func3, Try.ntmps3
    go_wp2_with fail
    refine (zz_any _ f1 f2 f3 a n c b m d Ds Dss hI hK hn hm).mono ?_
    rintro e w' ⟨r, rfl, rfl, _⟩
    unfold maxLen at hn hm
    clear hI hK
    go_wp2_with fail
    all_goals (go_ret; exact ⟨rfl, World.grownBy.refl _ _⟩)
  by_cases ht : 1048576 < 8 * n + 8 * m
  · as_aux_lemma =>
    go_enter Try.func3, Try.ntmps3
    go_wp2_with fail
    refine (zz_any _ f1 f2 f3 a n c b m d Ds Dss hI hK hn hm).mono ?_
    rintro e w' ⟨r, rfl, rfl, _⟩
    unfold maxLen at hn hm
    clear hI hK
    go_wp2_with fail
    all_goals (go_ret; exact ⟨rfl, World.grownBy.refl _ _⟩)
  have hn2 : n ≤ 65536 := by omega
  have hm2 : m ≤ 65536 := by omega
  have ht2 : 8 * n + 8 * m ≤ 1048576 := by omega
  clear hn1 hm1 ht
  go_enter Try.func3, Try.ntmps3
  go_wp2_with fail
  refine (zz_any _ f1 f2 f3 a n c b m d Ds Dss hI hK hn hm).mono ?_
  rintro e w' ⟨r, rfl, hw, hsm⟩
  have hw := hw.symm
  subst hw
  clear hn hm
  cases r
  · as_aux_lemma =>
    go_wp2_with fail
    go_ret
    exact ⟨rfl, World.grownBy.refl _ _⟩
  obtain ⟨hS, hKd⟩ := hsm rfl
  clear hsm
  go_wp2_with fail
  go_loopw [11, 12] (fun z i wr => ∃ (k : Nat) (q : Int), k ≤ n ∧ i = .int .i64 k ∧ z = .int .i64 q ∧ 0 ≤ q ∧ q ≤ 1048576 ∧ ∃ s, wr = w.drewN s) (fun _ i _ => n - (intOf i).toNat)
  case atStart => exact ⟨0, _, Nat.zero_le _, rfl, rfl, by omega, by omega, 0, rfl⟩
  case round => as_aux_lemma =>
    obtain ⟨k, q, hk, rfl, rfl, hq0, hq1, s, rfl⟩ := hrel
    by_cases hlt : k < n
    · as_aux_lemma =>
      have hk' : k < Ds.length := by rw [hI.1]; exact hlt
      obtain ⟨b3, o3, rfl, _, hc⟩ := hI.2 (by omega)
      obtain ⟨s0, s1, s2, va, vn, vc, s3, sB⟩ := hc k hk'
      obtain ⟨z1, z2, z3⟩ := hS k hk'
      rw [sB.1] at z1
      generalize Ds[k].coll = x0 at *
      generalize Ds[k].id = x1 at *
      clear hc sB hI hS
      have hlt' : (k : Int) < (n : Int) := by omega
      go_wp2
      go_quiet (fail)
      go_wp2
      · go_ret
        exact ⟨rfl, grown_drewN _ _ _⟩
      · as_aux_lemma =>
        go_roundw
        case rel => exact ⟨k + 1, _, by omega, by go_num, rfl, by omega, by omega, _, rfl⟩
        case measure => simp [intOf]; omega
    · as_aux_lemma =>
      go_wp2_with fail
      clear hlt hk
      go_loopw [11, 13] (fun z i wr => ∃ (k : Nat) (q : Int), k ≤ m ∧ i = .int .i64 k ∧ z = .int .i64 q ∧ 0 ≤ q ∧ q ≤ 1048576 ∧ ShTo Dss k ∧ ∃ s, wr = w.drewN s) (fun _ i _ => m - (intOf i).toNat)
      case atStart => exact ⟨0, _, Nat.zero_le _, rfl, rfl, by omega, by omega, ShTo.zero _, _, rfl⟩
      case round => as_aux_lemma =>
        clear hq0 hq1
        obtain ⟨k2, q2, hk2, rfl, rfl, hq20, hq21, hsh, s, rfl⟩ := hrel
        by_cases hlt2 : k2 < m
        · as_aux_lemma =>
          have hk2' : k2 < Dss.length := by rw [hK.1]; exact hlt2
          obtain ⟨b4, o4, rfl, _, hc⟩ := hK.2 (by omega)
          obtain ⟨ka, kn, kc, t0, tI⟩ := hc k2 hk2'
          have hks : kn ≤ 65536 → ShTo Dss (k2 + 1) := fun h => hsh.succ hk2' (by rw [tI.1]; exact h)
          have hsE := hKd k2 hk2' hk2'
          generalize Dss[k2] = Es at *
          have HS : Hid (kn ≤ 65536 → ShTo Dss (k2 + 1)) := hks
          clear hks hc hK hsh hKd hI hS
          by_cases hkb : 65536 < kn
          · as_aux_lemma =>
            go_wp2
            go_ret
            exact ⟨rfl, grown_drewN _ _ _⟩
          by_cases hqk : 1048576 < q2 + 8 * (kn : Int)
          · as_aux_lemma =>
            go_wp2
            go_ret
            exact ⟨rfl, grown_drewN _ _ _⟩
          have hkb' : kn ≤ 65536 := by omega
          have hqk' : q2 + 8 * (kn : Int) ≤ 1048576 := by omega
          clear hkb hqk
          go_wp2_with fail
          go_loopw [11, 14] (fun z i wr => ∃ (k : Nat) (q : Int), k ≤ kn ∧ i = .int .i64 k ∧ z = .int .i64 q ∧ 0 ≤ q ∧ q ≤ 1048576 ∧ ∃ s, wr = w.drewN s) (fun _ i _ => kn - (intOf i).toNat)
          case atStart => exact ⟨0, _, Nat.zero_le _, rfl, rfl, by omega, by omega, _, rfl⟩
          case round => as_aux_lemma =>
            clear hq20 hq21 hqk'
            obtain ⟨k3, q3, hk3, rfl, rfl, hq30, hq31, s, rfl⟩ := hrel
            by_cases hlt3 : k3 < kn
            · as_aux_lemma =>
              have hk3' : k3 < Es.length := by rw [tI.1]; exact hlt3
              obtain ⟨b5, o5, rfl, _, hc5⟩ := tI.2 (by omega)
              obtain ⟨s0, s1, s2, va, vn, vc, s3, sB⟩ := hc5 k3 hk3'
              obtain ⟨z1, z2, z3⟩ := hsE k3 hk3'
              rw [sB.1] at z1
              generalize Es[k3].coll = x0 at *
              generalize Es[k3].id = x1 at *
              clear hc5 sB tI hsE
              have hlt3' : (k3 : Int) < (kn : Int) := by omega
              have hlt2' : (k2 : Int) < (m : Int) := by omega
              go_wp2
              go_quiet (fail)
              go_wp2
              · go_ret
                exact ⟨rfl, grown_drewN _ _ _⟩
              · as_aux_lemma =>
                go_roundw
                case rel => exact ⟨k3 + 1, _, by omega, by go_num, rfl, by omega, by omega, _, rfl⟩
                case measure => simp [intOf]; omega
            · as_aux_lemma =>
              go_wp2_with fail
              go_roundw
              case rel => exact ⟨k2 + 1, _, by omega, by go_num, rfl, by omega, by omega, HS.out hkb', _, rfl⟩
              case measure => simp [intOf]; omega
        · as_aux_lemma =>
          have hSK : SmallK Dss := fun i hi => ⟨hsh i hi (by rw [hK.1] at hi; omega), hKd i hi hi⟩
          go_wp2_with fail
          clear hlt2 hk2 hsh hKd
          refine (cloneI_any _ a n c Ds (hI.grown (grown_drewN _ _ _)) hS hn2).mono ?_
          rintro e w1 ⟨a1, rfl, I1, g1⟩
          go_wp2_with fail
          refine (cloneK_any _ b m d Dss (hK.grown (grown_trans (grown_drewN _ _ _) g1)) hSK hm2).mono ?_
          rintro e w2 ⟨b1, rfl, K2, g2⟩
          have I2 := (I1.grown g2).mono (Nat.zero_le _)
          have K2' : KidsAt w2 0 b1 m Dss := ⟨K2.1, fun h => by obtain ⟨x, y, e1, _, e3⟩ := K2.2 h; exact ⟨x, y, e1, Nat.zero_le _, fun i hi => (e3 i hi).mono (Nat.zero_le _)⟩⟩
          have G2 : w.grownBy w2 none := grown_trans (grown_trans (grown_drewN _ _ _) g1) g2
          clear I1 K2 g1 g2 hI hK
          go_upto_if 151 with fail
          go_cut [15] (fun t wx => TOw w2 f1 t wx)
          case first => as_aux_lemma =>
            cases f1
            · as_aux_lemma =>
              go_wp2_with fail
              go_meet
              case rel => exact ⟨none, rfl, World.grownBy.refl _ _, fun _ => rfl, (fun h => nomatch h)⟩
            · as_aux_lemma =>
              go_wp2_with fail
              refine (newOwner_any _).mono ?_
              rintro e w3 ⟨rfl, B3, g3⟩
              go_wp2_with fail
              go_meet
              case rel => exact ⟨_, rfl, g3, (fun h => nomatch h), fun _ => ⟨_, rfl, B3⟩⟩
          case rest => as_aux_lemma =>
            obtain ⟨tO, rfl, G3, t0, t1⟩ := hcut
            have T0 : Hid (f1 = false → tO = none) := t0
            have T1 : Hid (f1 = true → ∃ g, tO = some ⟨g, 0, none⟩ ∧ Blk wc g [.int .u8 0] 55) := t1
            clear t0 t1
            go_upto_if 153 with fail
            go_cut [16] (fun t wx => NOw wc tO f2 f3 t wx)
            case first => as_aux_lemma =>
              cases f2
              · as_aux_lemma =>
                cases f3
                · as_aux_lemma =>
                  go_wp2_with fail
                  go_meet
                  case rel => exact ⟨none, rfl, World.grownBy.refl _ _, (fun h => nomatch h), fun _ _ => rfl, (fun _ h => nomatch h)⟩
                · as_aux_lemma =>
                  go_wp2_with fail
                  refine (newOwner_any _).mono ?_
                  rintro e w3 ⟨rfl, B3, g3⟩
                  go_wp2_with fail
                  go_meet
                  case rel => exact ⟨_, rfl, g3, (fun h => nomatch h), (fun _ h => nomatch h), fun _ _ => ⟨_, rfl, Nat.le_refl _, B3⟩⟩
              · as_aux_lemma =>
                go_wp2_with fail
                go_meet
                case rel => exact ⟨tO, rfl, World.grownBy.refl _ _, fun _ => rfl, (fun h => nomatch h), (fun h => nomatch h)⟩
            case rest => as_aux_lemma =>
              obtain ⟨wA, rfl⟩ : ∃ x, x = wc := ⟨_, rfl⟩
              obtain ⟨nO, rfl, G4, n1, n2, n3⟩ := hcut
              have hsT : (f2 || (!f1 && !f3)) = true → nO = tO := fun h => own_one T0.out n1 n2 h
              have hsF : (f2 || (!f1 && !f3)) = false → Apart wA nO tO := fun h => own_two G4 T0.out T1.out n1 n2 n3 h
              have HT : Hid ((f2 || (!f1 && !f3)) = true → nO = tO) := hsT
              have HF : Hid ((f2 || (!f1 && !f3)) = false → Apart wA nO tO) := hsF
              clear n1 n2 n3 T0 T1 hsT hsF
              have G5 : w.grownBy wA none := grown_trans (grown_trans G2 G3) G4
              have I3 := (I2.grown G3).grown G4
              have K3 := (K2'.grown G3).grown G4
              clear I2 K2' G2 G3 G4
              go_upto_region 38 with fail
              go_cut [17] (fun t wx => t = .bool (f2 || (!f1 && !f3)) ∧ wx = wA)
              case first => as_aux_lemma =>
                clear HT HF I3 K3 G5
                cases f2
                · as_aux_lemma =>
                  cases f1
                  · as_aux_lemma =>
                    as_aux_lemma =>
                      go_wp2_with fail
                      go_meet
                      exact ⟨rfl, rfl⟩
                  · as_aux_lemma =>
                    as_aux_lemma =>
                      go_wp2_with fail
                      go_meet
                      exact ⟨rfl, rfl⟩
                · as_aux_lemma =>
                  as_aux_lemma =>
                    go_wp2_with fail
                    go_meet
                    exact ⟨rfl, rfl⟩
              case rest => as_aux_lemma =>
                obtain ⟨rfl, hwB⟩ := hcut
                have hwB := hwB.symm
                subst hwB
                generalize (f2 || (!f1 && !f3)) = sh at *
                obtain ⟨i0, hi, hz0, hz1, hz2⟩ := info_parts Try.info34
                have hb2 : i0.bytes * m ≤ 281474976710656 := by rw [hz2]; omega
                go_wp2_with (at_make; refine wpList_make_full _ rfl _ _ 33 rfl wA.heap.size 34 i0 (.pointer none) 1 Try.underlying33 hi hz0 hz1 .i64 .i64 _ _ m rfl rfl rfl rfl hb2 (by unfold maxLen; omega) (Nat.le_refl _) ?_; intro w6 hown6 g6)
                have B6 := own_blk hown6
                rw [made_ptrs] at B6
                clear hown6
                go_loopw [19] (fun i wr => ∃ k : Nat, k ≤ m ∧ i = .int .i64 k ∧ (∃ ps : List (Option Addr), ps.length = m ∧ Blk wr wA.heap.size (ptrs ps) 34) ∧ wA.grownBy wr none) (fun i _ => m - (intOf i).toNat)
                case atStart => exact ⟨0, Nat.zero_le _, rfl, ⟨_, by simp, B6⟩, g6⟩
                case round => as_aux_lemma =>
                  clear B6 g6
                  obtain ⟨k4, hk4, rfl, ⟨ps, hpl, BP⟩, gP⟩ := hrel
                  by_cases hlt4 : k4 < m
                  · as_aux_lemma =>
                    have hk4' : k4 < Dss.length := by rw [K3.1]; exact hlt4
                    obtain ⟨b4, o4, rfl, _, hc4⟩ := K3.2 (by omega)
                    obtain ⟨ka, kn, kc, t0, tI⟩ := (hc4 k4 hk4').grown gP
                    have hkn : kn ≤ 65536 := by rw [← tI.1]; exact (hSK k4 hk4').1
                    have hsE := (hSK k4 hk4').2
                    have hk4s : k4 < ps.length := by omega
                    have y0 := ptrs_cell BP hk4s
                    have z0 := BP.free k4
                    generalize Dss[k4] = Es at *
                    clear hc4 HT HF I3 K3 hSK hS hi hz0 hz1 hz2 hb2 G5
                    go_wp2_with fail
                    refine (made_any _ ka kn kc Es tI hsE hkn).mono ?_
                    rintro e w7 ⟨g7, cs7, rfl, M7⟩
                    have h7 := M7.grown
                    go_wp2_with fail
                    refine (makeNode_any _ none (some ⟨g7, 0, none⟩) none kn kn 0 0).mono ?_
                    rintro e w8 ⟨rfl, B8, h8⟩
                    have y1 := h8.cell (h7.cell y0 (by simp)) (by simp)
                    have z1 := grown_free (grown_trans h7 h8) y0 z0
                    have BQ := ((BP.grown h7 (by simp)).grown h8 (by simp)).set k4 (.pointer (some ⟨w7.heap.size, 0, none⟩))
                    rw [ptrs_set] at BQ
                    have gQ := grown_trans_new (grown_trans (grown_trans gP h7) h8) (grown_set w8 wA.heap.size k4 (.pointer (some ⟨w7.heap.size, 0, none⟩))) (by intro i hi; cases hi; exact Nat.le_refl _)
                    clear y0 z0 tI hsE M7 B8 BP t0
                    go_wp2
                    go_roundw
                    case rel => exact ⟨k4 + 1, by omega, by go_num, ⟨_, by rw [List.length_set]; exact hpl, BQ⟩, gQ⟩
                    case measure => simp [intOf]; omega
                  · as_aux_lemma =>
                    have I6 := I3.grown gP
                    obtain ⟨wP, rfl⟩ : ∃ x, x = wr := ⟨_, rfl⟩
                    go_wp2_with (at_make; refine wpList_make_full _ rfl _ _ 33 rfl wP.heap.size 34 i0 (.pointer none) 1 Try.underlying33 hi hz0 hz1 .i64 .i64 _ _ m rfl rfl rfl rfl hb2 (by unfold maxLen; omega) (Nat.le_refl _) ?_; intro w7 hown7 g7)
                    have B7 := own_blk hown7
                    rw [made_ptrs] at B7
                    have BP7 := BP.grown g7 (by simp)
                    have ltP := BP.lt
                    clear hlt4 hk4 hown7 hi hz0 hz1 hz2 hb2
                    go_loopw [21] (fun i wx => ∃ k : Nat, k ≤ m ∧ i = .int .i64 k ∧ (∃ qs : List (Option Addr), qs.length = m ∧ Blk wx wP.heap.size (ptrs qs) 34 ∧ ∀ i, i < k → qs.getD i none = ps.getD i none) ∧ wP.grownBy wx none) (fun i _ => m - (intOf i).toNat)
                    case atStart => exact ⟨0, Nat.zero_le _, rfl, ⟨_, by simp, B7, fun i hi => absurd hi (Nat.not_lt_zero _)⟩, g7⟩
                    case round => as_aux_lemma =>
                      clear B7 g7 BP7
                      obtain ⟨k5, hk5, rfl, ⟨qs, hql, BQ, hqe⟩, gQ⟩ := hrel
                      by_cases hlt5 : k5 < m
                      · as_aux_lemma =>
                        have x0 := ptrs_cell (BP.grown gQ (by simp)) (k := k5) (by omega)
                        have y0 := ptrs_cell BQ (k := k5) (by omega)
                        have z0 := BQ.free k5
                        have hqn := ptrs_copy hpl hql hlt5 hqe
                        generalize ps.getD k5 none = pk at *
                        have BQ' := BQ.set k5 (.pointer pk)
                        rw [ptrs_set] at BQ'
                        have gQ' := grown_trans_new gQ (grown_set wr wP.heap.size k5 (.pointer pk)) (by intro i hi; cases hi; exact Nat.le_refl _)
                        have HQN : Hid (∀ i, i < k5 + 1 → (qs.set k5 pk).getD i none = ps.getD i none) := hqn
                        clear hqn hqe HT HF I3 K3 I6 hSK hS BP BQ G5
                        go_wp2
                        go_roundw
                        case rel => exact ⟨k5 + 1, by omega, by go_num, ⟨_, by rw [List.length_set]; exact hql, BQ', HQN.out⟩, gQ'⟩
                        case measure => simp [intOf]; omega
                      · as_aux_lemma =>
                        have hqs : qs = ps := ptrs_eq hpl hql (fun i hi => hqe i (by omega))
                        subst hqs
                        obtain ⟨wR, rfl⟩ : ∃ x, x = wr := ⟨_, rfl⟩
                        have I7 := I6.grown gQ
                        have BPr := BP.grown gQ (by simp)
                        have GR : w.grownBy wR none := grown_trans (grown_trans G5 gP) gQ
                        have GAR : wA.grownBy wR none := grown_trans gP gQ
                        go_wp2_with fail
                        clear hlt5 hk5 hqe I6 I3 K3 BP hSK gP gQ G5
                        refine (made_any _ a1 n n Ds I7 hS hn2).mono ?_
                        rintro e w9 ⟨gI, cs, rfl, M9⟩
                        go_wp2_with fail
                        refine (makeNode_any _ nO (some ⟨gI, 0, none⟩) (some ⟨wP.heap.size, 0, none⟩) n n m m).mono ?_
                        rintro e w10 ⟨rfl, N10, h10⟩
                        go_wp2_with fail
                        refine (makeTree_any _ tO).mono ?_
                        rintro e w11 ⟨rfl, T11, h11⟩
                        have g911 := grown_trans h10 h11
                        have gR11 := grown_trans M9.grown g911
                        have N11 := N10.grown h11 (by simp)
                        have I11 := I7.grown gR11
                        have MI := (M9.its.grown g911).mono (Nat.zero_le _)
                        have BI := M9.blk.grown g911 (by simp)
                        have BN := BQ.grown gR11 (by simp)
                        have BK := BPr.grown gR11 (by simp)
                        have PK := ptrs_blk BK hpl
                        have PN := ptrs_blk BN hpl
                        have G11 := grown_trans GR gR11
                        have lcs := M9.len
                        have ocs := M9.one
                        have c0 := N11.at 0
                        have c1 := N11.at 1
                        have c2 := N11.at 2
                        have d2 := T11.at 2
                        simp only [List.getElem?_cons_zero, List.getElem?_cons_succ] at c0 c1 c2 d2
                        have ltn := N11.lt
                        have HA : Hid (sh = false → Apart w11 nO tO) := fun h => ((HF.out h).grown GAR).grown gR11
                        clear M9 N10 h10 h11 I7 BQ BPr GR GAR g911 gR11 HF hql
                        cases sh
                        · as_aux_lemma =>
                          have hap := HA.out rfl
                          clear HA HT
                          go_wp2_with fail
                          refine (zzOwn_copy _ _ _ tO nO ⟨gI, 0, none⟩ ⟨wP.heap.size, 0, none⟩ n m n m cs (ptrs qs) d2 c0 c1 c2 hap hn2 hm2 lcs (by rw [ptrs_len]; omega) ocs (ptrs_one qs) (blk_cells BI) (blk_cells BN)).mono ?_
                          rintro e w12 ⟨gq, aq, cq, bq, dq, rfl, hcp⟩
                          have h12 := hcp.grown
                          have e0 := hcp.node.at 0
                          have e1 := hcp.node.at 1
                          have e2 := hcp.node.at 2
                          simp only [List.getElem?_cons_zero, List.getElem?_cons_succ] at e0 e1 e2
                          have e3 := h12.cell d2 (by simp)
                          have hnq := hcp.new
                          have hq1 := eql_node_apart w12 (some ⟨gq, 0, none⟩) (some ⟨w9.heap.size, 0, none⟩) ⟨by intro e; simp only [Option.some.injEq, Addr.mk.injEq, and_true] at e; omega, fun x y hx hy => by cases hx; cases hy; exact ⟨_, _, _, _, hcp.node, N11.grown h12 (by simp)⟩⟩
                          have hq2 := fun w => neq_node w (some ⟨gq, 0, none⟩)
                          have hq3 := fun w => neq_owner w tO
                          have hq4 := fun w => neq_owner w nO
                          go_wp2_with fail
                          refine (nodeOwner_any _ _ tO e0).mono ?_
                          rintro e w' ⟨rfl, hw'⟩
                          subst hw'
                          go_wp2_with fail
                          refine (nodeItems_any _ _ aq n cq e1).mono ?_
                          rintro e w' ⟨rfl, hw'⟩
                          subst hw'
                          go_wp2_with fail
                          refine (matchI_any _ 0 0 aq a1 n cq n Ds hn2 hS (itms_copy BI lcs MI hcp.items h12) (I11.grown h12)).mono ?_
                          rintro e w13 ⟨rfl, h13⟩
                          have e2' := h13.cell e2 (by simp)
                          have e1' := h13.cell e1 (by simp)
                          have e0' := h13.cell e0 (by simp)
                          have e3' := h13.cell e3 (by simp)
                          go_wp2_with fail
                          refine (nodeKids_any _ _ bq m dq e2').mono ?_
                          rintro e w' ⟨rfl, hw'⟩
                          subst hw'
                          go_wp2_with fail
                          refine (matchK_any _ bq (some ⟨wA.heap.size, 0, none⟩) m dq m qs (by omega) ((ptrs_own hcp.kids hpl).grown h13) ((PK.grown h12).grown h13)).mono ?_
                          rintro e w14 ⟨rfl, h14⟩
                          have e0'' := h14.cell e0' (by simp)
                          have e1'' := h14.cell e1' (by simp)
                          have e2'' := h14.cell e2' (by simp)
                          have e3'' := h14.cell e3' (by simp)
                          go_wp2_with fail
                          refine (zzOwn_same _ _ _ tO e3'' e0'').mono ?_
                          rintro e w15 ⟨rfl, h15⟩
                          have e1f := h15.cell e1'' (by simp)
                          have e2f := h15.cell e2'' (by simp)
                          go_wp2_with fail
                          refine (nodeItems_any _ _ aq n cq e1f).mono ?_
                          rintro e w' ⟨rfl, hw'⟩
                          subst hw'
                          have G15 : w11.grownBy w15 none := grown_trans (grown_trans (grown_trans h12 h13) h14) h15
                          have O15 := own_grown (own_grown (own_grown hcp.kids h13 (by simp)) h14 (by simp)) h15 (by simp)
                          have J15 := own_grown (own_grown (own_grown hcp.items h13 (by simp)) h14 (by simp)) h15 (by simp)
                          have Z15 := ((hcp.node.grown h13 (by simp)).grown h14 (by simp)).grown h15 (by simp)
                          clear h12 h13 h14 h15 e0 e1 e2 e3 e0' e1' e2' e3' e0'' e1'' e2'' e3'' hq1 hcp
                          go_upto_if 244 with fail
                          go_cut [] (fun wx => Rest w11 gq bq m dq qs wx)
                          case first => as_aux_lemma =>
                            by_cases hn0 : n = 0
                            · as_aux_lemma =>
                              subst hn0
                              go_wp2_with fail
                              go_meet
                              case rel => exact ⟨G15, e2f, O15⟩
                            · as_aux_lemma =>
                              have hpos : (0 : Int) < (n : Int) := by omega
                              have hpos' : 0 < n := by omega
                              obtain ⟨ba, oa, x0, x1, x2, rfl, s0, s1, s2, z2⟩ := first_itm I11 hS hpos'
                              obtain ⟨gx, rfl⟩ := own_addr J15 hpos'
                              have hgx := (J15.lt gx rfl).1
                              have hne : gx ≠ gq := own_ne J15 Z15
                              have hnk := own_apart J15 O15
                              obtain ⟨y0, y1, y2, y3, t0, t1, t2, t3⟩ := own_four J15 hpos'
                              have v0 := J15.frozenAt 0
                              have v1 := J15.frozenAt 1
                              have v2 := J15.frozenAt 2
                              have v3 := J15.frozenAt 3
                              have hcat : ∀ w, (Op.stringOp .add x0 ⟨#[33]⟩).run Try.prog w = .ok (.string (x0 ++ ⟨#[33]⟩)) w := fun w => run_string_add_sum w x0 ⟨#[33]⟩ (by have : (⟨#[33]⟩ : ByteArray).size = 1 := rfl; omega)
                              have r0 := G15.cell s0 (by simp)
                              have r1 := G15.cell s1 (by simp)
                              have r2 := G15.cell s2 (by simp)
                              clear hS I11 MI BI BN BK PK PN G11 hq2 hq3 hq4 N11 T11 c0 c1 c2 d2 hap e1f
                              go_wp2_with fail
                              go_region_held3 (fun wx => w11.grownBy wx none ∧ wx.cell? ⟨ba, oa, none⟩ = some (.string x0) ∧ wx.cell? ⟨ba, oa + 1, none⟩ = some (.string x1) ∧ wx.cell? ⟨ba, oa + 2, none⟩ = some (.int .u64 x2))
                                (first | (have hG := grown_trans G15 (grown_drewN w15 1 none); exact ⟨hG, hG.cell s0 (by simp), hG.cell s1 (by simp), hG.cell s2 (by simp)⟩) | (have hG := grown_trans (grown_trans G15 (grown_drewN w15 1 none)) hg17; exact ⟨hG, hG.cell s0 (by simp), hG.cell s1 (by simp), hG.cell s2 (by simp)⟩) | (have hG := grown_set4 (grown_trans (grown_trans G15 (grown_drewN w15 1 none)) hg17) gx hgx 0 1 2 3 (.string (x0 ++ ⟨#[33]⟩)) (.string x1) (.int .u64 (IntKind.u64.wrap (x2 + 1))) (.slice none 0 0); exact ⟨hG, hG.cell s0 (by simp), hG.cell s1 (by simp), hG.cell s2 (by simp)⟩))
                                (first | (go_at_call 17; refine (mkItem_any _ _ _ _ none 0 0).mono ?_; rintro e w17 ⟨rfl, hg17⟩; have q0 := hg17.cell (show w15.drew.cell? _ = _ from t0) (by simp); have q1 := hg17.cell (show w15.drew.cell? _ = _ from t1) (by simp); have q2 := hg17.cell (show w15.drew.cell? _ = _ from t2) (by simp); have q3 := hg17.cell (show w15.drew.cell? _ = _ from t3) (by simp); have p0 := grown_free hg17 (show w15.drew.cell? _ = _ from t0) v0; have p1 := grown_free hg17 (show w15.drew.cell? _ = _ from t1) v1; have p2 := grown_free hg17 (show w15.drew.cell? _ = _ from t2) v2; have p3 := grown_free hg17 (show w15.drew.cell? _ = _ from t3) v3))
                              have hW : w11.grownBy (set4 w17 gx 0 (.string (x0 ++ ⟨#[33]⟩)) (.string x1) (.int .u64 (IntKind.u64.wrap (x2 + 1))) (.slice none 0 0)) none := grown_set4 (grown_trans (grown_trans G15 (grown_drewN w15 1 none)) hg17) gx hgx 0 1 2 3 _ _ _ _
                              have hD := set4_grown w17 gx 0 (.string (x0 ++ ⟨#[33]⟩)) (.string x1) (.int .u64 (IntKind.u64.wrap (x2 + 1))) (.slice none 0 0)
                              have hE := hD.cell (hg17.cell (show w15.drew.cell? _ = _ from e2f) (by simp)) (by intro e; exact hne (by simpa using e.symm))
                              have hK := own_kept (own_grown (own_grown O15 (grown_drewN w15 1 none) (by simp)) hg17 (by simp)) hD hnk
                              go_wp2_with fail
                              go_meet
                              case rel => exact ⟨hW, hE, hK⟩
                          case rest => as_aux_lemma =>
                            obtain ⟨wZ, rfl⟩ : ∃ x, x = wc := ⟨_, rfl⟩
                            obtain ⟨G16, e16, O16⟩ := hcut
                            clear G15 O15 J15 Z15 e1f e2f
                            go_wp2_with fail
                            refine (nodeKids_any _ _ bq m dq e16).mono ?_
                            rintro e w' ⟨rfl, hw'⟩
                            subst hw'
                            go_upto_if 266 with fail
                            go_cut [] (fun wx => w11.grownBy wx none)
                            case first => as_aux_lemma =>
                              by_cases hm0 : m = 0
                              · as_aux_lemma =>
                                subst hm0
                                go_wp2_with fail
                                go_meet
                                case rel => exact G16
                              · as_aux_lemma =>
                                have hposm : (0 : Int) < (m : Int) := by omega
                                have hposm' : 0 < m := by omega
                                obtain ⟨gy, rfl⟩ := own_addr O16 hposm'
                                have t0 := O16.cellAt 0 (by omega)
                                rw [ptrs_at qs 0 (by omega)] at t0
                                have v0 := O16.frozenAt 0
                                have hgy := (O16.lt gy rfl).1
                                have hfin := grown_trans_new G16 (grown_set wZ gy 0 (.pointer none)) (by intro i hi; cases hi; exact hgy)
                                clear I11 MI BI BN BK PK PN G11 hq2 hq3 hq4 N11 T11 c0 c1 c2 d2 hap hS
                                go_wp2_with fail
                                go_meet
                                case rel => exact hfin
                            case rest => as_aux_lemma =>
                              obtain ⟨wY, rfl⟩ : ∃ x, x = wc := ⟨_, rfl⟩
                              have k0 := hcut.cell c0 (by simp)
                              have k1 := hcut.cell c1 (by simp)
                              have k2' := hcut.cell c2 (by simp)
                              go_wp2_with fail
                              refine (nodeOwner_any _ _ nO k0).mono ?_
                              rintro e w' ⟨rfl, hw'⟩
                              subst hw'
                              go_wp2_with fail
                              refine (nodeItems_any _ _ (some ⟨gI, 0, none⟩) n n k1).mono ?_
                              rintro e w' ⟨rfl, hw'⟩
                              subst hw'
                              go_wp2_with fail
                              refine (matchI_any _ 0 0 (some ⟨gI, 0, none⟩) a1 n n n Ds hn2 hS (MI.grown hcut) (I11.grown hcut)).mono ?_
                              rintro e w18 ⟨rfl, h18⟩
                              have k3 := h18.cell k2' (by simp)
                              go_wp2_with fail
                              refine (nodeKids_any _ _ (some ⟨wP.heap.size, 0, none⟩) m m k3).mono ?_
                              rintro e w' ⟨rfl, hw'⟩
                              subst hw'
                              go_wp2_with fail
                              refine (matchK_any _ (some ⟨wP.heap.size, 0, none⟩) (some ⟨wA.heap.size, 0, none⟩) m m m qs (by omega) ((PN.grown hcut).grown h18) ((PK.grown hcut).grown h18)).mono ?_
                              rintro e w19 ⟨rfl, h19⟩
                              go_wp2
                              go_ret
                              exact ⟨rfl, grown_trans (grown_trans (grown_trans G11 hcut) h18) h19⟩
                        · as_aux_lemma =>
                          have ho := HT.out rfl
                          subst ho
                          clear HA HT
                          go_wp2_with fail
                          refine (zzOwn_same _ _ _ nO d2 c0).mono ?_
                          rintro e w12 ⟨rfl, h12⟩
                          have e0 := h12.cell c0 (by simp)
                          have e1 := h12.cell c1 (by simp)
                          have e2 := h12.cell c2 (by simp)
                          have e3 := h12.cell d2 (by simp)
                          have hq1 := fun w => eql_node w (some ⟨w9.heap.size, 0, none⟩)
                          have hq2 := fun w => neq_node w (some ⟨w9.heap.size, 0, none⟩)
                          have hq3 := fun w => neq_owner w nO
                          go_wp2_with fail
                          refine (nodeOwner_any _ _ nO e0).mono ?_
                          rintro e w' ⟨rfl, hw'⟩
                          subst hw'
                          go_wp2_with fail
                          refine (nodeItems_any _ _ (some ⟨gI, 0, none⟩) n n e1).mono ?_
                          rintro e w' ⟨rfl, hw'⟩
                          subst hw'
                          go_wp2_with fail
                          refine (matchI_any _ 0 0 (some ⟨gI, 0, none⟩) a1 n n n Ds hn2 hS (MI.grown h12) (I11.grown h12)).mono ?_
                          rintro e w13 ⟨rfl, h13⟩
                          have e2' := h13.cell e2 (by simp)
                          have e0' := h13.cell e0 (by simp)
                          have e3' := h13.cell e3 (by simp)
                          go_wp2_with fail
                          refine (nodeKids_any _ _ (some ⟨wP.heap.size, 0, none⟩) m m e2').mono ?_
                          rintro e w' ⟨rfl, hw'⟩
                          subst hw'
                          go_wp2_with fail
                          refine (matchK_any _ (some ⟨wP.heap.size, 0, none⟩) (some ⟨wA.heap.size, 0, none⟩) m m m qs (by omega) ((PN.grown h12).grown h13) ((PK.grown h12).grown h13)).mono ?_
                          rintro e w14 ⟨rfl, h14⟩
                          have e0'' := h14.cell e0' (by simp)
                          have e3'' := h14.cell e3' (by simp)
                          go_wp2_with fail
                          refine (zzOwn_same _ _ _ nO e3'' e0'').mono ?_
                          rintro e w15 ⟨rfl, h15⟩
                          go_wp2
                          go_ret
                          exact ⟨rfl, grown_trans (grown_trans (grown_trans (grown_trans G11 h12) h13) h14) h15⟩

end Go.Proofs.Qxb6618474a
