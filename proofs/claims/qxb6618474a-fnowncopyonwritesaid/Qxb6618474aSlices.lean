import Derived.Test.Qxb6618474aMatch
namespace Go.Proofs.Qxb6618474a
open Go.ChangeShapes Go.WideShapes Go.ChangeAt Go.RowKit
set_option linter.unusedVariables false

set_option maxHeartbeats 400000 in
theorem cloneS_items (w : World) (x : Addr) (len cap : Nat) (cs : List Value) (hl : len ≤ 65536) (hcl : cs.length = len * 4) (h1 : ∀ u ∈ cs, u.oneCell' = true)
    (hc : ∀ j u, cs[j]? = some u → w.cell? (x.add j) = some u) :
    Calls Try.prog 22 #[.slice (some x) len cap] w fun e w' => ∃ a c, e = .returned (.slice a len c) ∧ w'.ownsRow w.heap.size 51 4 (.slice a len c) len cs ∧ w.grownBy w' none := by
  have he := fun w => Lib.run_eql_slice_nil (P := Try.prog) w 36 51 (some x) len cap 0 0 Try.underlying36
  obtain ⟨i0, hi, hz0, hz1, hz2⟩ := info_parts Try.info51
  go_enter Try.func22, Try.ntmps22
  have hown : (w.alloc (.cells #[] 51)).ownsRow w.heap.size 51 4 (.slice (some ⟨w.heap.size, 0, none⟩) 0 0) 0 [] := World.ownsRow_made w #[] 0 (Nat.le_refl _) (by unfold maxLen; omega) rfl
  have hga := World.grownBy_alloc w (.cells #[] 51) none
  have hc' : ∀ j u, cs[j]? = some u → (w.alloc (.cells #[] 51)).cell? (x.add j) = some u := fun j u hu => hga.cell (hc j u hu) (by simp)
  have HC : Hid (∀ j u, cs[j]? = some u → (w.alloc (.cells #[] 51)).cell? (x.add j) = some u) := hc'
  have hm : 0 + len ≤ maxLen := by unfold maxLen; omega
  clear hc hc'
  go_wp2_with (at_builtin; refine wpList_append_own _ rfl _ _ 36 rfl w.heap.size 51 i0 (.agg #[.string ⟨#[]⟩, .string ⟨#[]⟩, .int .u64 0, .slice none 0 0]) 4 64 Try.underlying36 hi hz0 hz1 hz2 rfl (by decide) _ 0 [] rfl hown x len cap cs rfl hcl HC.out h1 hm (by omega) hga.size ?_; intro v' w1 hown' hgr _)
  have hG : w.grownBy w1 none := grown_trans_new hga hgr (fun i hi => (hown.lt i hi).1)
  rw [Nat.zero_add, List.nil_append] at hown'
  obtain ⟨a, c, hv, _⟩ := own_form hown'
  rw [hv] at hown' ⊢
  go_wp2
  go_ret
  exact ⟨a, c, rfl, hown', hG⟩

theorem Try.info34 : (Try.prog.info? 34).map (fun i => (i.zero, i.size, i.bytes)) = some (some (.pointer none), 1, 8) := by kernel_rfl

set_option maxHeartbeats 400000 in
theorem cloneS_nodes (w : World) (x : Addr) (len cap : Nat) (cs : List Value) (hl : len ≤ 65536) (hcl : cs.length = len * 1) (h1 : ∀ u ∈ cs, u.oneCell' = true)
    (hc : ∀ j u, cs[j]? = some u → w.cell? (x.add j) = some u) :
    Calls Try.prog 23 #[.slice (some x) len cap] w fun e w' => ∃ a c, e = .returned (.slice a len c) ∧ w'.ownsRow w.heap.size 34 1 (.slice a len c) len cs ∧ w.grownBy w' none := by
  have he := fun w => Lib.run_eql_slice_nil (P := Try.prog) w 33 34 (some x) len cap 0 0 Try.underlying33
  obtain ⟨i0, hi, hz0, hz1, hz2⟩ := info_parts Try.info34
  go_enter Try.func23, Try.ntmps23
  have hown : (w.alloc (.cells #[] 34)).ownsRow w.heap.size 34 1 (.slice (some ⟨w.heap.size, 0, none⟩) 0 0) 0 [] := World.ownsRow_made w #[] 0 (Nat.le_refl _) (by unfold maxLen; omega) rfl
  have hga := World.grownBy_alloc w (.cells #[] 34) none
  have hc' : ∀ j u, cs[j]? = some u → (w.alloc (.cells #[] 34)).cell? (x.add j) = some u := fun j u hu => hga.cell (hc j u hu) (by simp)
  have HC : Hid (∀ j u, cs[j]? = some u → (w.alloc (.cells #[] 34)).cell? (x.add j) = some u) := hc'
  have hm : 0 + len ≤ maxLen := by unfold maxLen; omega
  clear hc hc'
  go_wp2_with (at_builtin; refine wpList_append_own _ rfl _ _ 33 rfl w.heap.size 34 i0 (.pointer none) 1 8 Try.underlying33 hi hz0 hz1 hz2 rfl (by decide) _ 0 [] rfl hown x len cap cs rfl hcl HC.out h1 hm (by omega) hga.size ?_; intro v' w1 hown' hgr _)
  have hG : w.grownBy w1 none := grown_trans_new hga hgr (fun i hi => (hown.lt i hi).1)
  rw [Nat.zero_add, List.nil_append] at hown'
  obtain ⟨a, c, hv, _⟩ := own_form hown'
  rw [hv] at hown' ⊢
  go_wp2
  go_ret
  exact ⟨a, c, rfl, hown', hG⟩
end Go.Proofs.Qxb6618474a
