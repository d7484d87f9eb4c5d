import Derived.Test.Qxb6618474aMake
import Derived.Test.Qxb6618474aPtr
namespace Go.Proofs.Qxb6618474a
open Go.ChangeShapes Go.WideShapes Go.ChangeAt Go.RowKit
set_option linter.unusedVariables false

set_option maxHeartbeats 400000 in
theorem matchI_zero (w : World) (a b : Option Addr) (c d : Nat) : Calls Try.prog 13 #[.slice a 0 c, .slice b 0 d] w fun e w' => e = .returned (.bool true) ∧ w.grownBy w' none := by
  go_enter Try.func13, Try.ntmps13
  go_wp2
  refine wp_loop_rounds 1 ?_
  rw [rounds_succ]
  go_wp2
  go_ret
  exact ⟨rfl, World.grownBy.refl _ _⟩

set_option maxHeartbeats 1000000 in
theorem matchI_pos (w : World) (lo1 lo2 b1 o1 b2 o2 len c1 c2 : Nat) (Ds : List Itm) (hl : len ≤ 65536) (hz : Ds.length = len) (hs : Small Ds)
    (h1 : ∀ i (h : i < Ds.length), ItmAt w lo1 b1 (o1 + i * 4) Ds[i]) (h2 : ∀ i (h : i < Ds.length), ItmAt w lo2 b2 (o2 + i * 4) Ds[i]) :
    Calls Try.prog 13 #[.slice (some ⟨b1, o1, none⟩) len c1, .slice (some ⟨b2, o2, none⟩) len c2] w fun e w' => e = .returned (.bool true) ∧ w.grownBy w' none := by
  have hne : ((len : Int) != (len : Int)) = false := by simp
  have HZ : Hid (Ds.length = len) := hz
  clear hz
  go_enter Try.func13, Try.ntmps13
  go_wp2
  go_loopw [5] (fun i wr => ∃ k : Nat, k ≤ len ∧ i = .int .i64 k ∧ w.grownBy wr none) (fun i _ => len - (intOf i).toNat)
  case atStart => exact ⟨0, Nat.zero_le _, rfl, World.grownBy.refl _ _⟩
  case round =>
    obtain ⟨k, hk, rfl, hg⟩ := hrel
    by_cases hlt : k < len
    · have hk' : k < Ds.length := by rw [HZ.out]; exact hlt
      obtain ⟨s0, s1, s2, va, vn, vc, s3, sB⟩ := (h1 k hk').grown hg
      obtain ⟨t0, t1, t2, ta, tn, tc, t3, tB⟩ := (h2 k hk').grown hg
      have hvn : vn ≤ 1048576 := by rw [← sB.1]; exact (hs k hk').1
      have hvt : vn = tn := by rw [← sB.1]; exact tB.1
      subst hvt
      generalize Ds[k].coll = x0 at s0 t0
      generalize Ds[k].id = x1 at s1 t1
      generalize Ds[k].ver = x2 at s2 t2
      generalize Ds[k].val = x3 at sB tB
      have hx2 : (x2 != x2) = false := by simp
      have hlt' : (k : Int) < (len : Int) := by omega
      clear h1 h2 hs
      go_wp2_with fail
      refine (fields_any _ x0 x1 x2 va vn vc).mono ?_
      rintro e w1 ⟨rfl, hg1⟩
      have r0 := hg1.cell t0 (by simp)
      have r1 := hg1.cell t1 (by simp)
      have r2 := hg1.cell t2 (by simp)
      have r3 := hg1.cell t3 (by simp)
      have sB1 := sB.grown hg1
      have tB1 := tB.grown hg1
      go_wp2_with (go_at_call 21; refine (eqB_any _ _ _ va ta vn vc tc x3 hvn sB1 tB1).mono ?_; rintro e w2 ⟨rfl, q, rfl⟩)
      go_roundw
      case rel => exact ⟨k + 1, by omega, by go_num, grown_trans (grown_trans hg hg1) (grown_drewN _ _ _)⟩
      case measure => simp [intOf]; omega
    · go_wp2
      go_ret
      exact ⟨rfl, hg⟩

theorem matchI_any (w : World) (lo1 lo2 : Nat) (a b : Option Addr) (len c1 c2 : Nat) (Ds : List Itm) (hl : len ≤ 65536) (hs : Small Ds) (h1 : ItmsAt w lo1 a len Ds) (h2 : ItmsAt w lo2 b len Ds) :
    Calls Try.prog 13 #[.slice a len c1, .slice b len c2] w fun e w' => e = .returned (.bool true) ∧ w.grownBy w' none := by
  by_cases h0 : len = 0
  · subst h0
    exact matchI_zero w a b c1 c2
  · obtain ⟨b1, o1, rfl, _, d1⟩ := h1.2 (by omega)
    obtain ⟨b2, o2, rfl, _, d2⟩ := h2.2 (by omega)
    exact matchI_pos w lo1 lo2 b1 o1 b2 o2 len c1 c2 Ds hl h1.1 hs d1 d2

/-- A slice of pointers, whole or cut. -/
def PtrsAt (w : World) (a : Option Addr) (n : Nat) (ps : List (Option Addr)) : Prop :=
  ps.length = n ∧ (0 < n → ∃ b off, a = some ⟨b, off, none⟩ ∧ ∀ i, i < n → w.cell? ⟨b, off + i, none⟩ = some (.pointer (ps.getD i none)))

theorem PtrsAt.grown {w w' : World} {a : Option Addr} {n : Nat} {ps : List (Option Addr)} (h : PtrsAt w a n ps) (hg : w.grownBy w' none) : PtrsAt w' a n ps :=
  ⟨h.1, fun hn => by obtain ⟨b, o, ha, hc⟩ := h.2 hn; exact ⟨b, o, ha, fun i hi => hg.cell (hc i hi) (by simp)⟩⟩

set_option maxHeartbeats 400000 in
theorem matchK_zero (w : World) (a b : Option Addr) (c d : Nat) : Calls Try.prog 15 #[.slice a 0 c, .slice b 0 d] w fun e w' => e = .returned (.bool true) ∧ w.grownBy w' none := by
  go_enter Try.func15, Try.ntmps15
  go_wp2
  refine wp_loop_rounds 1 ?_
  rw [rounds_succ]
  go_wp2
  go_ret
  exact ⟨rfl, World.grownBy.refl _ _⟩

set_option maxHeartbeats 400000 in
theorem matchK_pos (w : World) (g1 o1 g2 o2 n c1 c2 : Nat) (ps : List (Option Addr)) (hn : n ≤ 1048576)
    (h1 : ∀ i, i < n → w.cell? ⟨g1, o1 + i, none⟩ = some (.pointer (ps.getD i none))) (h2 : ∀ i, i < n → w.cell? ⟨g2, o2 + i, none⟩ = some (.pointer (ps.getD i none))) :
    Calls Try.prog 15 #[.slice (some ⟨g1, o1, none⟩) n c1, .slice (some ⟨g2, o2, none⟩) n c2] w fun e w' => e = .returned (.bool true) ∧ w.grownBy w' none := by
  have hne : ((n : Int) != (n : Int)) = false := by simp
  have H1 : Hid (∀ i, i < n → w.cell? ⟨g1, o1 + i, none⟩ = some (.pointer (ps.getD i none))) := h1
  have H2 : Hid (∀ i, i < n → w.cell? ⟨g2, o2 + i, none⟩ = some (.pointer (ps.getD i none))) := h2
  clear h1 h2
  go_enter Try.func15, Try.ntmps15
  go_wp2
  go_loopw [5] (fun i wr => ∃ k : Nat, k ≤ n ∧ i = .int .i64 k ∧ ∃ q, wr = w.drewN q) (fun i _ => n - (intOf i).toNat)
  case atStart => exact ⟨0, Nat.zero_le _, rfl, 0, rfl⟩
  case round =>
    obtain ⟨k, hk, rfl, q, rfl⟩ := hrel
    by_cases hlt : k < n
    · have hlt' : (k : Int) < (n : Int) := by omega
      have d0 := H1.out k hlt
      have e0 := H2.out k hlt
      generalize ps.getD k none = x at d0 e0
      have hnn := fun w => neq_node w x
      go_wp2
      go_quiet (fail)
      go_wp2
      go_roundw
      case rel => exact ⟨k + 1, by omega, by go_num, _, rfl⟩
      case measure => simp [intOf]; omega
    · go_wp2
      go_ret
      exact ⟨rfl, grown_drewN _ _ _⟩

theorem matchK_any (w : World) (a b : Option Addr) (n c1 c2 : Nat) (ps : List (Option Addr)) (hn : n ≤ 1048576) (h1 : PtrsAt w a n ps) (h2 : PtrsAt w b n ps) :
    Calls Try.prog 15 #[.slice a n c1, .slice b n c2] w fun e w' => e = .returned (.bool true) ∧ w.grownBy w' none := by
  by_cases h0 : n = 0
  · subst h0
    exact matchK_zero w a b c1 c2
  · obtain ⟨b1, o1, rfl, d1⟩ := h1.2 (by omega)
    obtain ⟨b2, o2, rfl, d2⟩ := h2.2 (by omega)
    exact matchK_pos w b1 o1 b2 o2 n c1 c2 ps hn d1 d2
end Go.Proofs.Qxb6618474a
