import Derived.Test.Qxb6618472aSame
import Derived.Test.Qxb6618472aClone
namespace Go.Proofs.Qxb6618472a
open Go.ChangeShapes Go.WideShapes Go.ChangeAt Go.RowKit
set_option linter.unusedVariables false

/-- The address is nil and the row empty; or the row is the whole of block g. -/
def Own (w : World) (g : Nat) (a : Option Addr) (zs : List Int) : Prop := (a = none ∧ zs = []) ∨ (a = some ⟨g, 0, none⟩ ∧ Blk w g (wds zs) 32)

theorem Own.grown {w w' : World} {g : Nat} {a : Option Addr} {zs : List Int} {row : Option Nat} (h : Own w g a zs) (hg : w.grownBy w' row) (hne : a ≠ none → some g ≠ row) : Own w' g a zs := by
  rcases h with h | ⟨rfl, h⟩
  · exact .inl h
  · exact .inr ⟨rfl, h.grown hg (hne (by simp))⟩

theorem Own.lt {w : World} {g : Nat} {a : Option Addr} {zs : List Int} (h : Own w g a zs) (ha : a ≠ none) : g < w.heap.size := by
  rcases h with ⟨h, _⟩ | ⟨_, h⟩
  · exact absurd h ha
  · exact h.lt

theorem Own.pos {w : World} {g : Nat} {a : Option Addr} {zs : List Int} (h : Own w g a zs) (hz : 0 < zs.length) : a = some ⟨g, 0, none⟩ ∧ Blk w g (wds zs) 32 := by
  rcases h with ⟨_, h⟩ | h
  · subst h; simp at hz
  · exact h

set_option maxHeartbeats 400000 in
theorem clone_zero (w : World) (x : Addr) (cap : Nat) :
    Calls Try.prog 6 #[.slice (some x) 0 cap] w fun e w' => e = .returned (.slice (some ⟨w.heap.size, 0, none⟩) 0 0) ∧ Blk w' w.heap.size (wds []) 32 ∧ w.grownBy w' none := by
  have he := fun w => Lib.run_eql_slice_nil (P := Try.prog) w 22 32 (some x) 0 cap 0 0 Try.underlying22
  obtain ⟨i0, hi, hz0, hz1, hz2⟩ := info_parts Try.info32
  go_enter Try.func6, Try.ntmps6
  go_wp2_with (at_make; refine wpList_make_full _ rfl _ _ 22 rfl w.heap.size 32 i0 (.int .u64 0) 1 Try.underlying22 hi hz0 hz1 .i64 .i64 _ _ 0 rfl rfl rfl rfl (by omega) (by unfold maxLen; omega) (Nat.le_refl _) ?_; intro w1 hown hgr)
  have hB := own_blk hown
  rw [made_words] at hB
  clear hown he hi hz0 hz1 hz2
  refine wp_loop_rounds 1 ?_
  rw [rounds_succ]
  go_wp2
  go_ret
  exact ⟨rfl, hB, hgr⟩

theorem clone_any (w : World) (a : Option Addr) (len cap : Nat) (zs : List Int)
    (h : (a = none ∧ len = 0 ∧ cap = 0 ∧ zs = []) ∨ ∃ x, a = some x ∧ len ≤ cap ∧ cap ≤ maxLen ∧ zs.length = cap ∧ (∀ i, i < zs.length → w.cell? (x.add i) = some (.int .u64 (zs.getD i 0))) ∧ ∀ n ∈ zs, (Lit.int .u64 n).wf = true) (hl : len ≤ 1048576) :
    Calls Try.prog 6 #[.slice a len cap] w fun e w' => ∃ a', e = .returned (.slice a' len len) ∧ Own w' w.heap.size a' (zs.take len) ∧ w.grownBy w' none := by
  rcases h with ⟨rfl, rfl, rfl, rfl⟩ | ⟨x, rfl, hlc, hcm, hz, hc, _⟩
  · refine (clone_nil w).mono ?_
    rintro e w' ⟨rfl, rfl⟩
    exact ⟨none, rfl, .inl ⟨rfl, rfl⟩, World.grownBy.refl _ _⟩
  · by_cases h0 : len = 0
    · subst h0
      refine (clone_zero w x cap).mono ?_
      rintro e w' ⟨rfl, hB, hg⟩
      exact ⟨_, rfl, .inr ⟨rfl, by simpa using hB⟩, hg⟩
    · obtain ⟨b, off, spot⟩ := x
      have hspot : spot = none := by simpa [Addr.add] using World.cell?_spot (hc 0 (by omega))
      subst hspot
      have hc' : ∀ i, i < len → w.cell? ⟨b, off + i, none⟩ = some (.int .u64 ((zs.take len).getD i 0)) := by
        intro i hi
        rw [← add_plain, hc i (by omega)]
        simp [hi]
      have hb := World.block_lt_of_cell? w _ (hc' 0 (by omega))
      refine (clone_pos w b off len cap (zs.take len) hl (by simp; omega) hc' hb).mono ?_
      rintro e w' ⟨rfl, hB, hg⟩
      exact ⟨_, rfl, .inr ⟨rfl, hB⟩, hg⟩

theorem clone_own (w : World) (g : Nat) (a : Option Addr) (n : Nat) (zs : List Int) (h : Own w g a zs) (hn : zs.length = n) (hl : n ≤ 1048576) :
    Calls Try.prog 6 #[.slice a n n] w fun e w' => ∃ a', e = .returned (.slice a' n n) ∧ Own w' w.heap.size a' zs ∧ w.grownBy w' none ∧ (a' = none ↔ a = none) := by
  rcases h with ⟨rfl, rfl⟩ | ⟨rfl, hB⟩
  · simp at hn; subst hn
    refine (clone_nil w).mono ?_
    rintro e w' ⟨rfl, rfl⟩
    exact ⟨none, rfl, .inl ⟨rfl, rfl⟩, World.grownBy.refl _ _, by simp⟩
  · by_cases h0 : n = 0
    · subst h0
      have : zs = [] := List.eq_nil_of_length_eq_zero hn
      subst this
      refine (clone_zero w _ 0).mono ?_
      rintro e w' ⟨rfl, hB, hg⟩
      exact ⟨_, rfl, .inr ⟨rfl, hB⟩, hg, by simp⟩
    · have hc' : ∀ i, i < n → w.cell? ⟨g, 0 + i, none⟩ = some (.int .u64 (zs.getD i 0)) := by
        intro i hi
        rw [Nat.zero_add]
        exact hB.word (by omega)
      refine (clone_pos w g 0 n n zs hl hn hc' hB.lt).mono ?_
      rintro e w' ⟨rfl, hB, hg⟩
      exact ⟨_, rfl, .inr ⟨rfl, hB⟩, hg, by simp⟩

set_option maxHeartbeats 400000 in
theorem send_zero (w : World) (gt : Nat) (p : Int) (a b : Option Addr) (cc : Nat) (fifo : Bool) (wd nk ckk j : Nat)
    (h : Blk w gt [.int .i64 p, .slice a 0 cc, .bool fifo, .int .i64 wd, .slice b nk ckk] 40) :
    Calls Try.prog 14 #[.pointer (some ⟨gt, 0, none⟩), .int .i64 j] w fun e w' => e = .returned (.slice none 0 0) ∧ w' = w := by
  have c1 := h.cell (j := 1) (by simp)
  simp only [List.getElem_cons_succ, List.getElem_cons_zero] at c1
  go_enter Try.func14, Try.ntmps14
  go_wp2
  refine wp_loop_rounds 1 ?_
  rw [rounds_succ]
  go_wp2
  go_ret
  exact ⟨rfl, rfl⟩

/-- The tracker's cells, its clock and its matrix, each nil or a block of its own. -/
structure Trk (w : World) (gt gc gk : Nat) (p : Int) (a : Option Addr) (nc cc : Nat) (fifo : Bool) (wd : Nat) (b : Option Addr) (nk ck : Nat) (C K : List Int) : Prop where
  t : Blk w gt [.int .i64 p, .slice a nc cc, .bool fifo, .int .i64 wd, .slice b nk ck] 40
  c : Own w gc a C
  k : Own w gk b K
  tk : b ≠ none → gt ≠ gk
  ck : a ≠ none → b ≠ none → gc ≠ gk
  lc : C.length = nc
  lk : K.length = nk

/-- The row that may be written: none where the matrix is nil. -/
def rowOf (b : Option Addr) (gk : Nat) : Option Nat := if b = none then none else some gk

theorem Trk.blkT {w w' : World} {gt gc gk : Nat} {p : Int} {a : Option Addr} {nc cc : Nat} {fifo : Bool} {wd : Nat} {b : Option Addr} {nk ck : Nat} {C K K' : List Int} (h : Trk w gt gc gk p a nc cc fifo wd b nk ck C K)
    (hg : w.grownBy w' (rowOf b gk)) (hK : Own w' gk b K') (hl : K'.length = nk) : Trk w' gt gc gk p a nc cc fifo wd b nk ck C K' := by
  unfold rowOf at hg
  refine ⟨h.t.grown hg ?_, h.c.grown hg ?_, hK, h.tk, h.ck, h.lc, hl⟩
  · intro e
    split at e
    · cases e
    · next hb => exact h.tk hb (by cases e; rfl)
  · intro ha e
    split at e
    · cases e
    · next hb => exact h.ck ha hb (by cases e; rfl)

theorem send_any (w : World) (gt gc gk : Nat) (p : Int) (a : Option Addr) (nc cc : Nat) (fifo : Bool) (wd : Nat) (b : Option Addr) (nk ckk j : Nat) (C K : List Int)
    (hT : Trk w gt gc gk p a nc cc fifo wd b nk ckk C K) (hK : Fits K) (hnc : nc ≤ 4096) (hnk : nk ≤ 65536) (hwd : wd ≤ 65536) (hj : j < 64 * wd) (hn : nc * wd ≤ nk) :
    Calls Try.prog 14 #[.pointer (some ⟨gt, 0, none⟩), .int .i64 j] w fun e w' => ∃ d cap, e = .returned (.slice d (ent C K wd j (-1) nc).length cap) ∧ w'.ownsRow w.heap.size 43 2 (.slice d (ent C K wd j (-1) nc).length cap) (ent C K wd j (-1) nc).length (flat (ent C K wd j (-1) nc)) ∧
      Trk w' gt gc gk p a nc cc fifo wd b nk ckk C (sent fifo K wd j nc) ∧ w.grownBy w' (rowOf b gk) := by
  by_cases h0 : nc = 0
  · subst h0
    refine (send_zero w gt p a b cc fifo wd nk ckk j hT.t).mono ?_
    rintro e w' ⟨rfl, rfl⟩
    have hs : sent fifo K wd j 0 = K := by unfold sent; split; exact upd_zero _ _ _; rfl
    refine ⟨none, 0, rfl, World.ownsRow_nil _ _ _ _, ?_, World.grownBy.refl _ _⟩
    rw [hs]; exact hT
  · have hnk0 : 0 < nk := by
      have : 1 * 1 ≤ nc * wd := Nat.mul_le_mul (by omega) (by omega)
      omega
    obtain ⟨ha, hC⟩ := hT.c.pos (by rw [hT.lc]; omega)
    obtain ⟨hb, hKb⟩ := hT.k.pos (by rw [hT.lk]; omega)
    have hT' := hT
    subst ha hb
    refine (send_pos w gt gc gk p nc cc fifo wd nk ckk j C K ⟨hT.t, hC, hKb, hT.tk (by simp), hT.ck (by simp) (by simp), hT.lc, hT.lk⟩ hK hnc hnk hwd hj hn).mono ?_
    rintro e w' ⟨v, rfl, hown, hB, hg⟩
    obtain ⟨d, cap, rfl, _⟩ := own_form hown
    refine ⟨d, cap, rfl, hown, hT'.blkT (by simpa [rowOf] using hg) (.inr ⟨rfl, hB⟩) (by rw [sent_len, hT.lk]), by simpa [rowOf] using hg⟩

set_option maxHeartbeats 400000 in
theorem zzSend_any (w : World) (gt gc gk : Nat) (p : Int) (a : Option Addr) (nc cc : Nat) (fifo : Bool) (wd : Nat) (b : Option Addr) (nk ckk j : Nat) (C K : List Int)
    (hT : Trk w gt gc gk p a nc cc fifo wd b nk ckk C K) (hK : Fits K) (hnc : nc ≤ 4096) (hnk : nk ≤ 65536) (hwd : wd ≤ 65536) (hj : j < 64 * wd) (hn : nc * wd ≤ nk) :
    Calls Try.prog 8 #[.pointer (some ⟨gt, 0, none⟩), .int .i64 j] w fun e w' => ∃ d cap, e = .returned (.slice d (ent C K wd j (-1) nc).length cap) ∧ w'.ownsRow w.heap.size 43 2 (.slice d (ent C K wd j (-1) nc).length cap) (ent C K wd j (-1) nc).length (flat (ent C K wd j (-1) nc)) ∧
      Trk w' gt gc gk p a nc cc fifo wd b nk ckk C (sent fifo K wd j nc) ∧ w.grownBy w' (rowOf b gk) := by
  go_enter Try.func8, Try.ntmps8
  go_wp2_with (go_at_call 14; refine (send_any _ gt gc gk p a nc cc fifo wd b nk ckk j C K hT hK hnc hnk hwd hj hn).mono ?_; rintro e w' ⟨d, cap, rfl, hown, hT', hg⟩)
  go_ret
  exact ⟨d, cap, rfl, hown, hT', hg⟩

set_option maxHeartbeats 400000 in
theorem zzKnown_any (w : World) (gt : Nat) (p : Int) (a b : Option Addr) (nc cc : Nat) (fifo : Bool) (wd nk ckk : Nat)
    (h : Blk w gt [.int .i64 p, .slice a nc cc, .bool fifo, .int .i64 wd, .slice b nk ckk] 40) :
    Calls Try.prog 9 #[.pointer (some ⟨gt, 0, none⟩)] w fun e w' => e = .returned (.slice b nk ckk) ∧ w' = w := by
  have c4 := h.cell (j := 4) (by simp)
  simp only [List.getElem_cons_succ, List.getElem_cons_zero] at c4
  go_enter Try.func9, Try.ntmps9
  go_wp2
  go_ret
  exact ⟨rfl, rfl⟩

set_option maxHeartbeats 400000 in
theorem zzNew_any (w : World) (p : Int) (a b : Option Addr) (nc cc : Nat) (fifo : Bool) (wd nk ckk : Nat) :
    Calls Try.prog 7 #[.int .i64 p, .slice a nc cc, .bool fifo, .int .i64 wd, .slice b nk ckk] w fun e w' => e = .returned (.pointer (some ⟨w.heap.size, 0, none⟩)) ∧
      Blk w' w.heap.size [.int .i64 p, .slice a nc cc, .bool fifo, .int .i64 wd, .slice b nk ckk] 40 ∧ w.grownBy w' none := by
  go_enter Try.func7, Try.ntmps7
  go_wp2
  go_ret
  exact ⟨rfl, Blk.new w _ 40, World.grownBy_alloc _ _ _⟩

theorem unk_zero (w : World) (a b : Option Addr) (cc : Nat) (wd nk ckk j : Nat) (skip : Int) :
    Calls Try.prog 10 #[.slice a 0 cc, .int .i64 wd, .slice b nk ckk, .int .i64 j, .int .i64 skip] w fun e w' => e = .returned (.slice none 0 0) ∧ w' = w := by
  go_enter Try.func10, Try.ntmps10
  go_wp2
  refine wp_loop_rounds 1 ?_
  rw [rounds_succ]
  go_wp2
  go_ret
  exact ⟨rfl, rfl⟩

theorem unk_any (w : World) (gc gk : Nat) (a b : Option Addr) (nc cc : Nat) (wd nk ckk j : Nat) (skip : Int) (C K : List Int)
    (hC : Own w gc a C) (hKb : Own w gk b K) (lc : C.length = nc) (lk : K.length = nk)
    (hK : Fits K) (hnc : nc ≤ 4096) (hnk : nk ≤ 65536) (hwd : wd ≤ 65536) (hj : j < 64 * wd) (hn : nc * wd ≤ nk) :
    Calls Try.prog 10 #[.slice a nc cc, .int .i64 wd, .slice b nk ckk, .int .i64 j, .int .i64 skip] w fun e w' => ∃ d cap, e = .returned (.slice d (ent C K wd j skip nc).length cap) ∧ w'.ownsRow w.heap.size 43 2 (.slice d (ent C K wd j skip nc).length cap) (ent C K wd j skip nc).length (flat (ent C K wd j skip nc)) ∧ w.grownBy w' none := by
  by_cases h0 : nc = 0
  · subst h0
    refine (unk_zero w a b cc wd nk ckk j skip).mono ?_
    rintro e w' ⟨rfl, rfl⟩
    exact ⟨none, 0, rfl, World.ownsRow_nil _ _ _ _, World.grownBy.refl _ _⟩
  · have hnk0 : 0 < nk := by
      have : 1 * 1 ≤ nc * wd := Nat.mul_le_mul (by omega) (by omega)
      omega
    obtain ⟨ha, hC'⟩ := hC.pos (by omega)
    obtain ⟨hb, hKb'⟩ := hKb.pos (by omega)
    subst ha hb
    refine (unk_pos w gc gk nc cc wd nk ckk j skip C K hC' hKb' lc lk hK hnc hnk hwd hj hn).mono ?_
    rintro e w' ⟨v, rfl, hown, hg⟩
    obtain ⟨d, cap, rfl, _⟩ := own_form hown
    exact ⟨d, cap, rfl, hown, hg⟩

theorem own_addr {w : World} {base : Nat} {e : TypeId} {size : Nat} {d : Option Addr} {n cap : Nat} {xs : List Value} (h : w.ownsRow base e size (.slice d n cap) n xs) (hn : 0 < n) : ∃ g, d = some ⟨g, 0, none⟩ := by
  rcases h.2 with ⟨h, h0⟩ | ⟨g, cap', cur, hv, _⟩
  · omega
  · exact ⟨g, by cases hv; rfl⟩

theorem same_any (w : World) (n : Nat) (d1 d2 : Option Addr) (c1 c2 b1 b2 : Nat) (l : List (Nat × Int)) (hl : l.length = n) (hn : n ≤ 65536)
    (h1 : w.ownsRow b1 43 2 (.slice d1 n c1) n (flat l)) (h2 : w.ownsRow b2 43 2 (.slice d2 n c2) n (flat l)) :
    Calls Try.prog 11 #[.slice d1 n c1, .slice d2 n c2] w fun e w' => e = .returned (.bool true) ∧ ∃ q, w' = w.drewN q := by
  by_cases h0 : n = 0
  · subst h0
    exact same_zero w d1 d2 c1 c2
  · obtain ⟨g1, rfl⟩ := own_addr h1 (by omega)
    obtain ⟨g2, rfl⟩ := own_addr h2 (by omega)
    exact same_pos w g1 g2 n c1 c2 b1 b2 l hl hn h1 h2

set_option maxHeartbeats 400000 in
theorem bytes_fifo (w : World) (p : Int) (a b : Option Addr) (nc cc : Nat) (wd : Int) (nk ckk : Nat) (j : Int) (h1 : nc ≤ maxLen) (h2 : nk ≤ maxLen) :
    Calls Try.prog 5 #[.int .i64 p, .slice a nc cc, .int .i64 wd, .slice b nk ckk, .int .i64 j] w fun e w' => ∃ r, e = .returned (.bool r) ∧ w' = w := by
  unfold maxLen at h1 h2
  go_enter Try.func5, Try.ntmps5
  go_wp2
  all_goals (go_ret; exact ⟨_, rfl, rfl⟩)

end Go.Proofs.Qxb6618472a
