import Derived.Test.Qxb6618472aFifo
namespace Go.Proofs.Qxb6618472a
open Go.ChangeShapes Go.WideShapes Go.ChangeAt Go.RowKit
set_option linter.unusedVariables false

theorem zzSend_plain (w : World) (gt gc gk : Nat) (p : Int) (a : Option Addr) (nc cc : Nat) (wd : Nat) (b : Option Addr) (nk ckk j : Nat) (C K : List Int)
    (hT : Trk w gt gc gk p a nc cc false wd b nk ckk C K) (hK : Fits K) (hnc : nc ≤ 4096) (hnk : nk ≤ 65536) (hwd : wd ≤ 65536) (hj : j < 64 * wd) (hn : nc * wd ≤ nk) :
    Calls Try.prog 8 #[.pointer (some ⟨gt, 0, none⟩), .int .i64 j] w fun e w' => ∃ d cap, e = .returned (.slice d (ent C K wd j (-1) nc).length cap) ∧ w'.ownsRow w.heap.size 43 2 (.slice d (ent C K wd j (-1) nc).length cap) (ent C K wd j (-1) nc).length (flat (ent C K wd j (-1) nc)) ∧
      Trk w' gt gc gk p a nc cc false wd b nk ckk C K ∧ w.grownBy w' (rowOf b gk) :=
  (zzSend_any w gt gc gk p a nc cc false wd b nk ckk j C K hT hK hnc hnk hwd hj hn).mono fun _ _ h => h

/-- send behind 'setKnown(to, d)': its list, said by the matrix as it was. -/
theorem zzSend_dropped (w : World) (gt gc gk : Nat) (p : Int) (a : Option Addr) (nc cc : Nat) (wd : Nat) (b : Option Addr) (nk ckk j d : Nat) (C K : List Int)
    (hT : Trk w gt gc gk p a nc cc false wd b nk ckk C (K.set (d * wd + j / 64) (orb (K.getD (d * wd + j / 64) 0) j))) (hK : Fits K) (hd : d * wd + j / 64 < K.length) (hnc : nc ≤ 4096) (hnk : nk ≤ 65536) (hwd : wd ≤ 65536) (hj : j < 64 * wd) (hn : nc * wd ≤ nk) :
    Calls Try.prog 8 #[.pointer (some ⟨gt, 0, none⟩), .int .i64 j] w fun e w' => ∃ v cap, e = .returned (.slice v (ent C K wd j d nc).length cap) ∧ w'.ownsRow w.heap.size 43 2 (.slice v (ent C K wd j d nc).length cap) (ent C K wd j d nc).length (flat (ent C K wd j d nc)) ∧
      Trk w' gt gc gk p a nc cc false wd b nk ckk C (K.set (d * wd + j / 64) (orb (K.getD (d * wd + j / 64) 0) j)) ∧ w.grownBy w' (rowOf b gk) := by
  have hf : Fits (K.set (d * wd + j / 64) (orb (K.getD (d * wd + j / 64) 0) j)) := by
    intro i
    rw [List.getD_eq_getElem?_getD, List.getElem?_set]
    by_cases e : d * wd + j / 64 = i
    · rw [if_pos e, if_pos hd]
      exact orb_fits _ _ (hK _).1 (hK _).2
    · rw [if_neg e, ← List.getD_eq_getElem?_getD]
      exact hK i
  have h := zzSend_plain w gt gc gk p a nc cc wd b nk ckk j C _ hT hf hnc hnk hwd hj hn
  rw [ent_drop C K wd j d (by omega) hK hd nc] at h
  exact h

set_option maxHeartbeats 400000 in
theorem zzSet_any (w : World) (gt gc gk : Nat) (p : Int) (a : Option Addr) (nc cc : Nat) (wd : Nat) (nk ckk j d : Nat) (C K : List Int)
    (hT : Trk w gt gc gk p a nc cc false wd (some ⟨gk, 0, none⟩) nk ckk C K) (hd : d * wd + j / 64 < nk) (hdl : d ≤ 4096) (hnk : nk ≤ 65536) (hwd : wd ≤ 65536) (hj : j < 64 * wd) :
    Calls Try.prog 13 #[.pointer (some ⟨gt, 0, none⟩), .int .i64 j, .int .i64 d] w fun e w' => e = .returned (.tuple #[]) ∧
      Trk w' gt gc gk p a nc cc false wd (some ⟨gk, 0, none⟩) nk ckk C (K.set (d * wd + j / 64) (orb (K.getD (d * wd + j / 64) 0) j)) ∧ w.grownBy w' (rowOf (some ⟨gk, 0, none⟩) gk) := by
  have B := (hT.k.pos (by rw [hT.lk]; omega)).2
  have c3 := hT.t.cell (j := 3) (by simp)
  have c4 := hT.t.cell (j := 4) (by simp)
  simp only [List.getElem_cons_succ, List.getElem_cons_zero] at c3 c4
  have cx := B.word (j := d * wd + j / 64) (by rw [hT.lk]; exact hd)
  have cf := B.free (d * wd + j / 64)
  obtain ⟨m, hm⟩ : ∃ m, m = d * wd := ⟨_, rfl⟩
  have hm' : (d : Int) * (wd : Int) = (m : Int) := by rw [hm]; simp
  rw [← hm] at cx hd cf ⊢
  have HM' : Hid ((d : Int) * (wd : Int) = (m : Int)) := hm'
  clear hm hm'
  have hset := (B.set (m + j / 64) (.int .u64 (orb (K.getD (m + j / 64) 0) j)))
  rw [wds_set] at hset
  go_enter Try.func13, Try.ntmps13
  go_wp2_with (go_at_call 15; refine (setKnown_any _ gt gk nk ckk wd j d m _ hwd (by omega) (by omega) hnk HM'.out hd c3 c4 cx cf).mono ?_; rintro e w' ⟨rfl, rfl⟩)
  go_end0
  have hg : w.grownBy (w.setCell ⟨gk, m + j / 64, none⟩ (.int .u64 (orb (K.getD (m + j / 64) 0) j))).drew (rowOf (some ⟨gk, 0, none⟩) gk) := by
    have := grown_set_drew w gk (m + j / 64) (.int .u64 (orb (K.getD (m + j / 64) 0) j))
    simpa [rowOf] using this
  exact ⟨rfl, hT.blkT hg (.inr ⟨rfl, hset⟩) (by rw [List.length_set, hT.lk]), hg⟩

set_option maxHeartbeats 400000 in
theorem bytes_plain (w : World) (p : Int) (a b : Option Addr) (nc cc : Nat) (wd : Int) (nk ckk : Nat) (j d : Int) (h1 : nc ≤ maxLen) (h2 : nk ≤ maxLen) :
    Calls Try.prog 12 #[.int .i64 p, .slice a nc cc, .int .i64 wd, .slice b nk ckk, .int .i64 j, .int .i64 d] w fun e w' => ∃ r, e = .returned (.bool r) ∧ w' = w := by
  unfold maxLen at h1 h2
  go_enter Try.func12, Try.ntmps12
  go_wp2
  all_goals (go_ret; exact ⟨_, rfl, rfl⟩)

end Go.Proofs.Qxb6618472a
