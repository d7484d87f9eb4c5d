import Derived.Test.Qxb6618474aSlices
namespace Go.Proofs.Qxb6618474a
open Go.ChangeShapes Go.WideShapes Go.ChangeAt Go.RowKit
set_option linter.unusedVariables false
attribute [local go_sem ↓] Go.wp_at_zero Go.wp_at_succ

set_option maxHeartbeats 400000 in
theorem own_same (w : World) (gt gn : Nat) (p : Option Addr) (tc : w.cell? ⟨gt, 2, none⟩ = some (.pointer p)) (nc : w.cell? ⟨gn, 0, none⟩ = some (.pointer p)) :
    Calls Try.prog 19 #[.pointer (some ⟨gt, 0, none⟩), .pointer (some ⟨gn, 0, none⟩)] w fun e w' => e = .returned (.pointer (some ⟨gn, 0, none⟩)) ∧ w.grownBy w' none := by
  have he := fun w => eql_owner w p
  go_enter Try.func19, Try.ntmps19
  go_wp2
  go_quiet (fail)
  go_wp2
  go_ret
  exact ⟨rfl, grown_drewN _ _ _⟩

/-- What a copy is: a new node of the tree's own, its two rows cells for cells those of n. -/
structure Copied (w w' : World) (gq : Nat) (p : Option Addr) (ni nk : Nat) (cs ks : List Value) (a : Option Addr) (c : Nat) (b : Option Addr) (d : Nat) : Prop where
  node : Blk w' gq [.pointer p, .slice a ni c, .slice b nk d] 57
  new : w.heap.size ≤ gq
  items : w'.ownsRow w.heap.size 51 4 (.slice a ni c) ni cs
  kids : w'.ownsRow w.heap.size 34 1 (.slice b nk d) nk ks
  grown : w.grownBy w' none

set_option maxHeartbeats 2000000 in
theorem own_copy (w : World) (gt gn : Nat) (p o : Option Addr) (x y : Addr) (ni nk c0 d0 : Nat) (cs ks : List Value)
    (tc : w.cell? ⟨gt, 2, none⟩ = some (.pointer p)) (nc : w.cell? ⟨gn, 0, none⟩ = some (.pointer o)) (n1 : w.cell? ⟨gn, 1, none⟩ = some (.slice (some x) ni c0)) (n2 : w.cell? ⟨gn, 2, none⟩ = some (.slice (some y) nk d0))
    (ha : Apart w o p) (hni : ni ≤ 65536) (hnk : nk ≤ 65536) (lc : cs.length = ni * 4) (lk : ks.length = nk * 1) (oc : ∀ u ∈ cs, u.oneCell' = true) (ok : ∀ u ∈ ks, u.oneCell' = true)
    (hc : ∀ j u, cs[j]? = some u → w.cell? (x.add j) = some u) (hk : ∀ j u, ks[j]? = some u → w.cell? (y.add j) = some u) :
    Calls Try.prog 19 #[.pointer (some ⟨gt, 0, none⟩), .pointer (some ⟨gn, 0, none⟩)] w fun e w' => ∃ gq a c b d, e = .returned (.pointer (some ⟨gq, 0, none⟩)) ∧ Copied w w' gq p ni nk cs ks a c b d := by
  have he : ∀ n, (binOp .eql 31 (.pointer o) (.pointer p)).run Try.prog (w.drewN n) = .ok (.bool false) (w.drewN n) := fun n => eql_owner_apart (w.drewN n) o p ⟨ha.1, ha.2⟩
  have HC : Hid (∀ j u, cs[j]? = some u → w.cell? (x.add j) = some u) := hc
  have HK : Hid (∀ j u, ks[j]? = some u → w.cell? (y.add j) = some u) := hk
  clear hc hk
  go_enter Try.func19, Try.ntmps19
  go_wp2
  go_quiet (fail)
  go_wp2
  go_region_held3 (fun wx => w.grownBy wx none ∧ wx.cell? ⟨gt, 2, none⟩ = some (.pointer p) ∧ wx.cell? ⟨gn, 1, none⟩ = some (.slice (some x) ni c0) ∧ wx.cell? ⟨gn, 2, none⟩ = some (.slice (some y) nk d0))
    (first | (have hG := grown_drewN w (nq + 1) none; exact ⟨hG, hG.cell tc (by simp), hG.cell n1 (by simp), hG.cell n2 (by simp)⟩) | (have hG := grown_trans (grown_drewN w (nq + 1) none) hga; exact ⟨hG, hG.cell tc (by simp), hG.cell n1 (by simp), hG.cell n2 (by simp)⟩) | (have hG := grown_trans (grown_drewN w (nq + 1) none) hgb; exact ⟨hG, hG.cell tc (by simp), hG.cell n1 (by simp), hG.cell n2 (by simp)⟩) | (have hG := grown_trans (grown_trans (grown_drewN w (nq + 1) none) hga) hgb; exact ⟨hG, hG.cell tc (by simp), hG.cell n1 (by simp), hG.cell n2 (by simp)⟩) | (have hG := grown_trans (grown_trans (grown_drewN w (nq + 1) none) hgb) hga; exact ⟨hG, hG.cell tc (by simp), hG.cell n1 (by simp), hG.cell n2 (by simp)⟩) | (have hG := grown_trans (grown_trans (grown_trans (grown_drewN w (nq + 1) none) hga) hgb) (World.grownBy_alloc _ (.cells #[.pointer p, .slice a ni c, .slice b nk d] 57) none); exact ⟨hG, hG.cell tc (by simp), hG.cell n1 (by simp), hG.cell n2 (by simp)⟩) | (have hG := grown_trans (grown_trans (grown_trans (grown_drewN w (nq + 1) none) hgb) hga) (World.grownBy_alloc _ (.cells #[.pointer p, .slice a ni c, .slice b nk d] 57) none); exact ⟨hG, hG.cell tc (by simp), hG.cell n1 (by simp), hG.cell n2 (by simp)⟩))
    (first | (go_at_call 22; go_split_ands; refine (cloneS_items _ x ni c0 cs hni lc oc ?_).mono ?_; (intro j u hu; exact World.grownBy.cell (w := w) (row := none) (by assumption) (HC.out j u hu) (by simp)); rintro e wa ⟨a, c, rfl, hoa, hga⟩) | (go_at_call 23; go_split_ands; refine (cloneS_nodes _ y nk d0 ks hnk lk ok ?_).mono ?_; (intro j u hu; exact World.grownBy.cell (w := w) (row := none) (by assumption) (HK.out j u hu) (by simp)); rintro e wb ⟨b, d, rfl, hob, hgb⟩))
  go_wp2
  go_ret
  have sa : w.heap.size ≤ wa.heap.size := hga.size
  have sb := hgb.size
  refine ⟨wb.heap.size, a, c, b, d, rfl, ⟨Blk.new wb _ 57, by omega, ?_, ?_, ?_⟩⟩
  · exact own_grown (own_grown hoa hgb (by simp)) (World.grownBy_alloc _ _ none) (by simp)
  · exact own_grown (own_weaken hob sa) (World.grownBy_alloc _ _ none) (by simp)
  · exact grown_trans (grown_trans (grown_trans (grown_drewN w (nq + 1) none) hga) hgb) (World.grownBy_alloc _ _ none)

set_option maxHeartbeats 400000 in
theorem zzOwn_same (w : World) (gt gn : Nat) (p : Option Addr) (tc : w.cell? ⟨gt, 2, none⟩ = some (.pointer p)) (nc : w.cell? ⟨gn, 0, none⟩ = some (.pointer p)) :
    Calls Try.prog 11 #[.pointer (some ⟨gt, 0, none⟩), .pointer (some ⟨gn, 0, none⟩)] w fun e w' => e = .returned (.pointer (some ⟨gn, 0, none⟩)) ∧ w.grownBy w' none := by
  go_enter Try.func11, Try.ntmps11
  go_wp2_with (go_at_call 19; refine (own_same _ gt gn p tc nc).mono ?_; rintro e w' ⟨rfl, hg⟩)
  go_ret
  exact ⟨rfl, hg⟩

set_option maxHeartbeats 400000 in
theorem zzOwn_copy (w : World) (gt gn : Nat) (p o : Option Addr) (x y : Addr) (ni nk c0 d0 : Nat) (cs ks : List Value)
    (tc : w.cell? ⟨gt, 2, none⟩ = some (.pointer p)) (nc : w.cell? ⟨gn, 0, none⟩ = some (.pointer o)) (n1 : w.cell? ⟨gn, 1, none⟩ = some (.slice (some x) ni c0)) (n2 : w.cell? ⟨gn, 2, none⟩ = some (.slice (some y) nk d0))
    (ha : Apart w o p) (hni : ni ≤ 65536) (hnk : nk ≤ 65536) (lc : cs.length = ni * 4) (lk : ks.length = nk * 1) (oc : ∀ u ∈ cs, u.oneCell' = true) (ok : ∀ u ∈ ks, u.oneCell' = true)
    (hc : ∀ j u, cs[j]? = some u → w.cell? (x.add j) = some u) (hk : ∀ j u, ks[j]? = some u → w.cell? (y.add j) = some u) :
    Calls Try.prog 11 #[.pointer (some ⟨gt, 0, none⟩), .pointer (some ⟨gn, 0, none⟩)] w fun e w' => ∃ gq a c b d, e = .returned (.pointer (some ⟨gq, 0, none⟩)) ∧ Copied w w' gq p ni nk cs ks a c b d := by
  go_enter Try.func11, Try.ntmps11
  go_wp2_with fail
  refine (own_copy w gt gn p o x y ni nk c0 d0 cs ks tc nc n1 n2 ha hni hnk lc lk oc ok hc hk).mono ?_
  rintro e w' ⟨gq, a, c, b, d, rfl, hcp⟩
  clear hc hk oc ok lc lk tc nc n1 n2 ha
  go_wp2
  go_ret
  exact ⟨gq, a, c, b, d, rfl, hcp⟩

set_option maxHeartbeats 400000 in
theorem nodeOwner_any (w : World) (gn : Nat) (v : Option Addr) (h : w.cell? ⟨gn, 0, none⟩ = some (.pointer v)) : Calls Try.prog 12 #[.pointer (some ⟨gn, 0, none⟩)] w fun e w' => e = .returned (.pointer v) ∧ w = w' := by
  go_enter Try.func12, Try.ntmps12
  go_wp2
  go_ret
  exact ⟨rfl, rfl⟩

set_option maxHeartbeats 400000 in
theorem nodeItems_any (w : World) (gn : Nat) (a : Option Addr) (n c : Nat) (h : w.cell? ⟨gn, 1, none⟩ = some (.slice a n c)) : Calls Try.prog 14 #[.pointer (some ⟨gn, 0, none⟩)] w fun e w' => e = .returned (.slice a n c) ∧ w = w' := by
  go_enter Try.func14, Try.ntmps14
  go_wp2
  go_ret
  exact ⟨rfl, rfl⟩

set_option maxHeartbeats 400000 in
theorem nodeKids_any (w : World) (gn : Nat) (a : Option Addr) (n c : Nat) (h : w.cell? ⟨gn, 2, none⟩ = some (.slice a n c)) : Calls Try.prog 16 #[.pointer (some ⟨gn, 0, none⟩)] w fun e w' => e = .returned (.slice a n c) ∧ w = w' := by
  go_enter Try.func16, Try.ntmps16
  go_wp2
  go_ret
  exact ⟨rfl, rfl⟩

set_option maxHeartbeats 400000 in
theorem newOwner_any (w : World) : Calls Try.prog 7 #[] w fun e w' => e = .returned (.pointer (some ⟨w.heap.size, 0, none⟩)) ∧ Blk w' w.heap.size [.int .u8 0] 55 ∧ w.grownBy w' none := by
  go_enter Try.func7, Try.ntmps7
  go_wp2
  go_ret
  exact ⟨rfl, Blk.new w _ 55, World.grownBy_alloc _ _ _⟩

set_option maxHeartbeats 400000 in
theorem makeNode_any (w : World) (o a b : Option Addr) (n c m d : Nat) : Calls Try.prog 8 #[.pointer o, .slice a n c, .slice b m d] w fun e w' => e = .returned (.pointer (some ⟨w.heap.size, 0, none⟩)) ∧ Blk w' w.heap.size [.pointer o, .slice a n c, .slice b m d] 57 ∧ w.grownBy w' none := by
  go_enter Try.func8, Try.ntmps8
  go_wp2
  go_ret
  exact ⟨rfl, Blk.new w _ 57, World.grownBy_alloc _ _ _⟩

set_option maxHeartbeats 400000 in
theorem makeTree_any (w : World) (o : Option Addr) : Calls Try.prog 10 #[.pointer o] w fun e w' => e = .returned (.pointer (some ⟨w.heap.size, 0, none⟩)) ∧ Blk w' w.heap.size [.pointer none, .int .i64 0, .pointer o] 59 ∧ w.grownBy w' none := by
  go_enter Try.func10, Try.ntmps10
  go_wp2
  go_ret
  exact ⟨rfl, Blk.new w _ 59, World.grownBy_alloc _ _ _⟩
end Go.Proofs.Qxb6618474a
