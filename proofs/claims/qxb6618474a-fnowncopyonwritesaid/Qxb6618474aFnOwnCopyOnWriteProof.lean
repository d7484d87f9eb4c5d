/-
  'Rows.FnOwnCopyOnWriteSaid' PROVED: the guide's own frame (as the skeleton tool writes it for slices of integers), turned to this function's types by hand; its walk is 'law_any' (Qxb6618474aLaw.lean).
-/
import Derived.Test.Qxb6618474aLaw
import Derived.Test.Qxb6618474aOpen
import Derived.WalkKit
import Derived.ProofKit
import Derived.OpenShut
import Derived.ShutString
import Derived.ChangeOld
import Derived.Below
namespace Go.Proofs.Qxb6618474a.fnOwnCopyOnWrite
open Go.ChangeShapes Go.WideShapes Go.ChangeAt Go.RowKit
set_option linter.unusedVariables false

theorem own : ownKnob Try.prog.godebug = none := by kernel_rfl
theorem laidOut : laidOutB Try.prog = true := by kernel_rfl

theorem walk (a0 a1 a2 : Bool) (a3 : Option Addr) (len3 cap3 : Nat) (Ds : List Itm) (a4 : Option Addr) (len4 cap4 : Nat) (Dss : List (List Itm)) (w : World) (h3 : ItmsAt w 0 a3 len3 Ds) (m3 : len3 ≤ maxLen) (h4 : KidsAt w 0 a4 len4 Dss) (m4 : len4 ≤ maxLen) :
    Calls Try.prog 3 #[.bool a0, .bool a1, .bool a2, .slice a3 len3 cap3, .slice a4 len4 cap4] w fun e w' => e = .returned (.bool true) ∧ Below w.heap.size w w' := by
  refine (law_any w a0 a1 a2 a3 len3 cap3 a4 len4 cap4 Ds Dss h3 h4 m3 m4).mono ?_
  rintro e w' ⟨he, hg⟩
  exact ⟨he, hg.os, hg.tape, hg.output, hg.size, fun k hk => hg.block k hk (by simp)⟩

set_option maxRecDepth 100000 in
theorem lifted (os : Os) (started : os.Started) (H : Type) (enc : TypeId × Value → H) :
    ReturnsInHanded {} Try.checked os 3 .any (Rows.fnOwnCopyOnWriteSpec.pre6 enc Try.prog Try.f3 Rows.fnOwnCopyOnWriteRow.domain false) (Rows.fnOwnCopyOnWriteSpec.post enc Try.prog Try.f3 false true false false) := by
  refine returnsInHanded_of_change (C := Try.checked) own started (by kernel_rfl) Try.func3
    (ChangeSpec.witness6 (enc := enc) (C := Try.checked) false ⟨#[], #[.bool false, .bool false, .bool false, .slice none 0 0, .slice none 0 0], []⟩ 8 (by kernel_rfl) (by kernel_rfl) (by kernel_rfl) (by kernel_rfl)) ?_
  intro W base args ds gs before hval0 hW hcnd _
  have hval : ∀ (j : Nat) t v, Try.f3.params[j]? = some t → args[j]? = some v → Value.okWide Try.prog W .any base t v := hval0
  have hW' := hW
  obtain ⟨p, q, hA0, hV, rfl, hfz, hnd⟩ := hW
  have hA : DataW.TrodAll enc Try.prog W 0 (fun _ => true) true Try.f3.params.toList args.toList ds p := hA0
  rw [Try.params3] at hA hval
  obtain ⟨v0, vs0, d0, ds0, p0, q0, hargs, rfl, rfl, h0, r0⟩ := trodAll_cons hA
  obtain ⟨v1, vs1, d1, ds1, p1, q1, rfl, rfl, rfl, h1, r1⟩ := trodAll_cons r0
  obtain ⟨v2, vs2, d2, ds2, p2, q2, rfl, rfl, rfl, h2, r2⟩ := trodAll_cons r1
  obtain ⟨v3, vs3, d3, ds3, p3, q3, rfl, rfl, rfl, h3, r3⟩ := trodAll_cons r2
  obtain ⟨v4, vs4, d4, ds4, p4, q4, rfl, rfl, rfl, h4, r4⟩ := trodAll_cons r3
  obtain ⟨rfl, rfl, rfl⟩ := trodAll_nil r4
  obtain rfl : args = #[v0, v1, v2, v3, v4] := by cases args; simp_all
  obtain ⟨rfl, rfl⟩ := trodVars_none hV
  obtain ⟨a0, rfl, rfl, rfl⟩ := open_bool Try.underlying4 (hval 0 4 v0 rfl rfl) h0
  obtain ⟨a1, rfl, rfl, rfl⟩ := open_bool Try.underlying4 (hval 1 4 v1 rfl rfl) h1
  obtain ⟨a2, rfl, rfl, rfl⟩ := open_bool Try.underlying4 (hval 2 4 v2 rfl rfl) h2
  obtain ⟨a3, len3, cap3, rfl⟩ := okWide_slice Try.underlying22 (hval 3 22 v3 rfl rfl)
  have k3 := h3
  have lt3 : ∀ x ∈ p3, x.block < W.heap.size := by obtain ⟨m, hm⟩ := k3; exact DataW.trod_lt m _ _ _ hm
  obtain ⟨Ds, w3, m3⟩ : ∃ Ds, ItmsAt W 0 a3 len3 Ds ∧ len3 ≤ maxLen := by
    obtain ⟨fuel, hf⟩ := h3
    obtain ⟨a, n, c, Ds, hcs, hn, hI⟩ := open_itms hf
    simp [Value.cells] at hcs
    obtain ⟨rfl, rfl, rfl⟩ := hcs
    exact ⟨Ds, hI, hn⟩
  obtain ⟨a4, len4, cap4, rfl⟩ := okWide_slice Try.underlying23 (hval 4 23 v4 rfl rfl)
  have k4 := h4
  have lt4 : ∀ x ∈ p4, x.block < W.heap.size := by obtain ⟨m, hm⟩ := k4; exact DataW.trod_lt m _ _ _ hm
  obtain ⟨Dss, w4, m4⟩ : ∃ Dss, KidsAt W 0 a4 len4 Dss ∧ len4 ≤ maxLen := by
    obtain ⟨fuel, hf⟩ := h4
    obtain ⟨a, n, c, Dss, hcs, hn, hI⟩ := open_kids hf
    simp [Value.cells] at hcs
    obtain ⟨rfl, rfl, rfl⟩ := hcs
    exact ⟨Dss, hI, hn⟩
  clear hA0 hval0
  refine (walk a0 a1 a2 a3 len3 cap3 Ds a4 len4 cap4 Dss W w3 m3 w4 m4).mono fun e W' ⟨he, bel⟩ => ?_
  subst he
  exact ⟨_, rfl, _, _, _, [], _, [], hW', trodAll_mk1 (shut_bool Try.underlying4 _), (trodAll_cons_mk (shut_bool Try.underlying4 a0) (trodAll_cons_mk (shut_bool Try.underlying4 a1) (trodAll_cons_mk (shut_bool Try.underlying4 a2) (trodAll_cons_mk (Below.trod laidOut (by kernel_rfl) (of_decide_eq_true (by kernel_rfl)) k3 bel lt3) (trodAll_cons_mk (Below.trod laidOut (by kernel_rfl) (of_decide_eq_true (by kernel_rfl)) k4 bel lt4) trodAll_mk0))))), rfl, bel.frame _, fun h => by cases h⟩

theorem over : Rows.fnOwnCopyOnWriteRow.holds Try.pinned (OpenSpec.ofChange Rows.fnOwnCopyOnWriteSpec) :=
  OpenClaim.holds_of_wide 3 Try.f3 rfl rfl rfl rfl rfl rfl rfl ⟨rfl, rfl, rfl, rfl, rfl⟩ rfl rfl rfl rfl rfl (by kernel_rfl) Try.func3 (by kernel_rfl)
    (of_decide_eq_true (by kernel_rfl)) (by unfold Func.isWrapper; first | (rw [if_pos (by decide +kernel)]; kernel_rfl) | (rw [if_neg (by decide +kernel)]; exact ⟨rfl, rfl⟩))
    (fun os started H enc _ => lifted os started H enc)

/-- ████ THE STATEMENT ████ -/
theorem proved : Rows.FnOwnCopyOnWriteSaid := over
#print axioms proved
end Go.Proofs.Qxb6618474a.fnOwnCopyOnWrite
