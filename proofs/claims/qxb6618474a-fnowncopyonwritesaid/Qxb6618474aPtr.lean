/- '==' and '!=' on this program's pointers. -/
import Derived.Test.Qxb6618474aMem
import Derived.LaidEqlPtr
namespace Go.Proofs.Qxb6618474a
open Go.RowKit

section
variable {P : Program} (w : World)

theorem run_eq_same {tp te : TypeId} {j : TypeInfo} (p : Option Addr) (hp : P.underlying tp = some (.pointer te)) (hte : P.info? te = some j) (d : Nat) :
    (Op.equalIn (d + 1) tp (.pointer p) (.pointer p)).run P w = .ok true w := by
  cases p with
  | none => simp [Op.equalIn, run_underlying hp]
  | some a => simp [Op.equalIn, run_underlying hp, sizeOf, typeInfo, hte, run_sameAddr_same]

/-- Two pointers of one type that are not one: one is nil, or both lead to blocks of cells. -/
def Apart (w : World) (p q : Option Addr) : Prop :=
  p ≠ q ∧ ∀ a b, p = some a → q = some b → ∃ ca ta cb tb, w.heap[a.block]? = some (.cells ca ta (0, 0)) ∧ w.heap[b.block]? = some (.cells cb tb (0, 0))

theorem run_eq_other {tp te : TypeId} {j : TypeInfo} (p q : Option Addr) (hp : P.underlying tp = some (.pointer te)) (hte : P.info? te = some j) (hsz : j.size ≠ 0) (h : Apart w p q) (d : Nat) :
    (Op.equalIn (d + 1) tp (.pointer p) (.pointer q)).run P w = .ok false w := by
  cases p with
  | none =>
    cases q with
    | none => exact absurd rfl h.1
    | some b => simp [Op.equalIn, run_underlying hp]
  | some a =>
    cases q with
    | none => simp [Op.equalIn, run_underlying hp]
    | some b =>
      obtain ⟨ca, ta, cb, tb, h1, h2⟩ := h.2 a b rfl rfl
      simp [Op.equalIn, run_underlying hp, sizeOf, typeInfo, hte, hsz, run_sameAddr_other w (fun e => h.1 (by rw [e])) h1 h2]

theorem run_eql_same {tp te : TypeId} {j : TypeInfo} (p : Option Addr) (hp : P.underlying tp = some (.pointer te)) (hte : P.info? te = some j) :
    (binOp .eql tp (.pointer p) (.pointer p)).run P w = .ok (.bool true) w := by
  simp only [binOp]
  simp [Op.equal, Op.maxDepth, run_eq_same w p hp hte 9999]
theorem run_neq_same {tp te : TypeId} {j : TypeInfo} (p : Option Addr) (hp : P.underlying tp = some (.pointer te)) (hte : P.info? te = some j) :
    (binOp .neq tp (.pointer p) (.pointer p)).run P w = .ok (.bool false) w := by
  simp only [binOp]
  simp [Op.equal, Op.maxDepth, run_eq_same w p hp hte 9999]
theorem run_eql_apart {tp te : TypeId} {j : TypeInfo} (p q : Option Addr) (hp : P.underlying tp = some (.pointer te)) (hte : P.info? te = some j) (hsz : j.size ≠ 0) (h : Apart w p q) :
    (binOp .eql tp (.pointer p) (.pointer q)).run P w = .ok (.bool false) w := by
  simp only [binOp]
  simp [Op.equal, Op.maxDepth, run_eq_other w p q hp hte hsz h 9999]
end

theorem Try.info57 : (Try.prog.info? 57).map (fun i => i.size) = some 3 := by kernel_rfl
theorem Try.info55 : (Try.prog.info? 55).map (fun i => i.size) = some 1 := by kernel_rfl

theorem info_size {P : Program} {e : TypeId} {n : Nat} (h : (P.info? e).map (fun i => i.size) = some n) : ∃ j, P.info? e = some j ∧ j.size = n := by
  cases hh : P.info? e with
  | none => rw [hh] at h; cases h
  | some j => rw [hh] at h; simp at h; exact ⟨j, rfl, h⟩

theorem neq_node (w : World) (p : Option Addr) : (binOp .neq 34 (.pointer p) (.pointer p)).run Try.prog w = .ok (.bool false) w := by
  obtain ⟨j, hj, _⟩ := info_size Try.info57
  exact run_neq_same w p Try.underlying34 hj
theorem eql_node (w : World) (p : Option Addr) : (binOp .eql 34 (.pointer p) (.pointer p)).run Try.prog w = .ok (.bool true) w := by
  obtain ⟨j, hj, _⟩ := info_size Try.info57
  exact run_eql_same w p Try.underlying34 hj
theorem eql_node_apart (w : World) (p q : Option Addr) (h : Apart w p q) : (binOp .eql 34 (.pointer p) (.pointer q)).run Try.prog w = .ok (.bool false) w := by
  obtain ⟨j, hj, hs⟩ := info_size Try.info57
  exact run_eql_apart w p q Try.underlying34 hj (by omega) h
theorem neq_owner (w : World) (p : Option Addr) : (binOp .neq 31 (.pointer p) (.pointer p)).run Try.prog w = .ok (.bool false) w := by
  obtain ⟨j, hj, _⟩ := info_size Try.info55
  exact run_neq_same w p Try.underlying31 hj
theorem eql_owner (w : World) (p : Option Addr) : (binOp .eql 31 (.pointer p) (.pointer p)).run Try.prog w = .ok (.bool true) w := by
  obtain ⟨j, hj, _⟩ := info_size Try.info55
  exact run_eql_same w p Try.underlying31 hj
theorem eql_owner_apart (w : World) (p q : Option Addr) (h : Apart w p q) : (binOp .eql 31 (.pointer p) (.pointer q)).run Try.prog w = .ok (.bool false) w := by
  obtain ⟨j, hj, hs⟩ := info_size Try.info55
  exact run_eql_apart w p q Try.underlying31 hj (by omega) h

end Go.Proofs.Qxb6618474a
