import Derived.Test.Qxb6618472aPlain
import Derived.Deep.QuietTactic
import Derived.BigQuiet
import Derived.BigRegion
import Derived.RegionTactic
namespace Go.Proofs.Qxb6618472a
open Go.ChangeShapes Go.WideShapes Go.ChangeAt Go.RowKit
set_option linter.unusedVariables false

set_option maxHeartbeats 400000 in
theorem isKnown_any (w : World) (gt gk nk ck : Nat) (wd j k m : Nat) (x : Int)
    (hwd : wd ≤ 65536) (hj : j < 4194304) (hk : k ≤ 4096) (hnk : nk ≤ 65536)
    (hm : (k : Int) * (wd : Int) = (m : Int)) (hin : m + j / 64 < nk)
    (h3 : w.cell? ⟨gt, 3, none⟩ = some (.int .i64 wd)) (h4 : w.cell? ⟨gt, 4, none⟩ = some (.slice (some ⟨gk, 0, none⟩) nk ck))
    (hx : w.cell? ⟨gk, m + j / 64, none⟩ = some (.int .u64 x)) :
    Calls Try.prog 16 #[.pointer (some ⟨gt, 0, none⟩), .int .i64 j, .int .i64 k] w fun e w' => e = .returned (.bool (knw x j)) ∧ ∃ n, w' = w.drewN n := by
  have hin' : (m : Int) + (j : Int) / 64 < (nk : Int) := by omega
  go_enter Try.func16, Try.ntmps16
  go_wp2
  go_quiet (fail)
  go_wp2
  go_ret
  exact ⟨rfl, _, rfl⟩

set_option maxHeartbeats 400000 in
theorem setKnown_any (w : World) (gt gk nk ck : Nat) (wd j k m : Nat) (x : Int)
    (hwd : wd ≤ 65536) (hj : j < 4194304) (hk : k ≤ 4096) (hnk : nk ≤ 65536)
    (hm : (k : Int) * (wd : Int) = (m : Int)) (hin : m + j / 64 < nk)
    (h3 : w.cell? ⟨gt, 3, none⟩ = some (.int .i64 wd)) (h4 : w.cell? ⟨gt, 4, none⟩ = some (.slice (some ⟨gk, 0, none⟩) nk ck))
    (hx : w.cell? ⟨gk, m + j / 64, none⟩ = some (.int .u64 x)) (hf : w.frozen? ⟨gk, m + j / 64, none⟩ = false) :
    Calls Try.prog 15 #[.pointer (some ⟨gt, 0, none⟩), .int .i64 j, .int .i64 k] w fun e w' => e = .returned (.tuple #[]) ∧ w' = (w.setCell ⟨gk, m + j / 64, none⟩ (.int .u64 (orb x j))).drew := by
  have hin' : (m : Int) + (j : Int) / 64 < (nk : Int) := by omega
  go_enter Try.func15, Try.ntmps15
  go_wp2
  go_region
  all_goals (go_end0; exact ⟨rfl, rfl⟩)

end Go.Proofs.Qxb6618472a
