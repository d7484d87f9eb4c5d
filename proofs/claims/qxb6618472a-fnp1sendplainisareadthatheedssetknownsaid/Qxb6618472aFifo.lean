import Derived.Test.Qxb6618472aWrap
import Derived.OpenShut
namespace Go.Proofs.Qxb6618472a
open Go.ChangeShapes Go.WideShapes Go.ChangeAt Go.RowKit
set_option linter.unusedVariables false

/-- What is known of a row that came in (spelt out as the shell's own word has it). -/
def Row (w : World) (a : Option Addr) (len cap : Nat) (zs : List Int) : Prop :=
  (a = none ∧ len = 0 ∧ cap = 0 ∧ zs = []) ∨ ∃ x, a = some x ∧ len ≤ cap ∧ cap ≤ maxLen ∧ zs.length = cap ∧ (∀ i, i < zs.length → w.cell? (x.add i) = some (.int .u64 (zs.getD i 0))) ∧ ∀ n ∈ zs, (Lit.int .u64 n).wf = true

theorem Row.grown {w w' : World} {a : Option Addr} {len cap : Nat} {zs : List Int} (h : Row w a len cap zs) (hg : w.grownBy w' none) : Row w' a len cap zs := by
  rcases h with h | ⟨x, h1, h2, h3, h4, h5, h6⟩
  · exact .inl h
  · exact .inr ⟨x, h1, h2, h3, h4, fun i hi => hg.cell (h5 i hi) (by simp), h6⟩

theorem Row.len {w : World} {a : Option Addr} {len cap : Nat} {zs : List Int} (h : Row w a len cap zs) : (zs.take len).length = len := by
  rcases h with ⟨_, rfl, _, rfl⟩ | ⟨x, h1, h2, h3, h4, h5, h6⟩
  · rfl
  · simp; omega

theorem Row.le {w : World} {a : Option Addr} {len cap : Nat} {zs : List Int} (h : Row w a len cap zs) : len ≤ maxLen := by
  rcases h with ⟨_, rfl, _, rfl⟩ | ⟨x, h1, h2, h3, h4, h5, h6⟩
  · unfold maxLen; omega
  · omega

theorem Row.fits {w : World} {a : Option Addr} {len cap : Nat} {zs : List Int} (h : Row w a len cap zs) : Fits (zs.take len) := by
  intro i
  rcases h with ⟨_, rfl, _, rfl⟩ | ⟨x, h1, h2, h3, h4, h5, h6⟩
  · simp
  · by_cases hi : i < (zs.take len).length
    · have hm : (zs.take len)[i] ∈ zs := List.mem_of_mem_take (List.getElem_mem hi)
      have hw := h6 _ hm
      have hb := bounds_u64 hw
      rw [List.getD_eq_getElem?_getD, List.getElem?_eq_getElem hi]
      simp only [Option.getD_some]
      omega
    · rw [List.getD_eq_getElem?_getD, List.getElem?_eq_none (by omega)]
      simp

theorem upd_twice (K : List Int) (wd j n : Nat) (hK : Fits K) : upd (upd K wd j n) wd j n = upd K wd j n := by
  apply List.ext_getElem?
  intro i
  by_cases hi : i < K.length
  · have g : ∀ L : List Int, L.length = K.length → (upd L wd j n)[i]? = some (if i < n * wd ∧ i % wd = j / 64 then orb (L.getD i 0) j else L.getD i 0) := by
      intro L hL; simp [upd, show i < L.length by omega]
    rw [g _ (upd_len _ _ _ _), g _ rfl, upd_at _ _ _ _ _ hi]
    by_cases c : i < n * wd ∧ i % wd = j / 64
    · rw [if_pos c, if_pos c]
      have hf := orb_fits (K.getD i 0) j (hK i).1 (hK i).2
      rw [orb_of_knw _ _ hf.1 hf.2 (knw_orb _ _ (hK i).1 (hK i).2)]
    · rw [if_neg c, if_neg c]
  · rw [List.getElem?_eq_none (by rw [upd_len, upd_len]; omega), List.getElem?_eq_none (by rw [upd_len]; omega)]

theorem upd_fits (K : List Int) (wd j n : Nat) (hK : Fits K) : Fits (upd K wd j n) := by
  intro i
  by_cases hi : i < K.length
  · rw [upd_at _ _ _ _ _ hi]
    split
    · exact orb_fits _ _ (hK i).1 (hK i).2
    · exact hK i
  · rw [List.getD_eq_getElem?_getD, List.getElem?_eq_none (by rw [upd_len]; omega)]
    simp

/-- A second send tells nothing. -/
theorem zzSend_none (w : World) (gt gc gk : Nat) (p : Int) (a : Option Addr) (nc cc : Nat) (wd : Nat) (b : Option Addr) (nk ckk j : Nat) (C K : List Int)
    (hT : Trk w gt gc gk p a nc cc true wd b nk ckk C (sent true K wd j nc)) (hK : Fits K) (hl : K.length = nk) (hnc : nc ≤ 4096) (hnk : nk ≤ 65536) (hwd : wd ≤ 65536) (hj : j < 64 * wd) (hn : nc * wd ≤ nk) :
    Calls Try.prog 8 #[.pointer (some ⟨gt, 0, none⟩), .int .i64 j] w fun e w' => ∃ d cap, e = .returned (.slice d 0 cap) ∧
      Trk w' gt gc gk p a nc cc true wd b nk ckk C (sent true K wd j nc) ∧ w.grownBy w' (rowOf b gk) := by
  refine (zzSend_any w gt gc gk p a nc cc true wd b nk ckk j C _ hT (upd_fits K wd j nc hK) hnc hnk hwd hj hn).mono ?_
  rintro e w' ⟨d, cap, rfl, hown, hT', hg⟩
  have he : ent C (sent true K wd j nc) wd j (-1) nc = [] := ent_upd C K wd j nc (by omega) hK (by omega) nc (Nat.le_refl _)
  refine ⟨d, cap, by rw [he]; rfl, ?_, hg⟩
  have hs : sent true (sent true K wd j nc) wd j nc = sent true K wd j nc := upd_twice K wd j nc hK
  rw [hs] at hT'
  exact hT'

set_option maxHeartbeats 2000000 in
theorem fifo_main (p : Int) (a1 : Option Addr) (len1 cap1 : Nat) (z1 : List Int) (wd : Nat) (a3 : Option Addr) (len3 cap3 : Nat) (z3 : List Int) (j : Nat) (w : World)
    (h1 : Row w a1 len1 cap1 z1) (h3 : Row w a3 len3 cap3 z3) (hnc : len1 ≤ 4096) (hnk : len3 ≤ 65536) (hwd1 : 1 ≤ wd) (hwd : wd ≤ 65536) (hj : j < 64 * wd) (hn : len1 * wd ≤ len3) :
    Calls Try.prog 3 #[.int .i64 p, .slice a1 len1 cap1, .int .i64 wd, .slice a3 len3 cap3, .int .i64 j] w fun e w' => e = .returned (.bool true) ∧ Below w.heap.size w w' := by
  have l1 := h1.len
  have l3 := h3.len
  have f3 := h3.fits
  have m1 := h1.le
  have m3 := h3.le
  obtain ⟨C, hC⟩ : ∃ C, C = z1.take len1 := ⟨_, rfl⟩
  obtain ⟨K, hK⟩ : ∃ K, K = z3.take len3 := ⟨_, rfl⟩
  obtain ⟨M, hM⟩ : ∃ M, M = len1 * wd := ⟨_, rfl⟩
  have hM' : (len1 : Int) * (wd : Int) = (M : Int) := by rw [hM]; simp
  have hML : M ≤ len3 := by omega
  rw [← hC] at l1
  rw [← hK] at l3 f3
  have HC : Hid (C = z1.take len1) := hC
  have HK : Hid (K = z3.take len3) := hK
  have HM : Hid (M = len1 * wd) := hM
  have HL1 : Hid (C.length = len1) := l1
  have HL3 : Hid (K.length = len3) := l3
  clear hC hK hM l1 l3
  go_enter Try.func3, Try.ntmps3
  go_wp2_with fail
  refine (bytes_fifo _ _ _ _ _ _ _ _ _ _ m1 m3).mono ?_
  rintro e w' ⟨r, rfl, hw⟩
  have hw := hw.symm
  subst hw
  cases r
  · go_wp2_with fail
    go_ret
    exact ⟨rfl, Below.refl _ _⟩
  go_wp2_with fail
  refine (clone_any _ a1 len1 cap1 z1 h1 (by omega)).mono ?_
  rintro e w1 ⟨b1, rfl, O1, g1⟩
  rw [← HC.out] at O1
  go_wp2_with fail
  refine (clone_any _ a3 len3 cap3 z3 (h3.grown g1) (by omega)).mono ?_
  rintro e w2 ⟨b2, rfl, O2, g2⟩
  rw [← HK.out] at O2
  have O1a := O1.grown g2 (by simp)
  go_wp2_with fail
  refine (clone_own _ _ b1 len1 C O1a HL1.out (by omega)).mono ?_
  rintro e w3 ⟨b3, rfl, O3, g3, i3⟩
  have O1b := O1a.grown g3 (by simp)
  have O2b := O2.grown g3 (by simp)
  go_wp2_with fail
  refine (clone_own _ _ b2 len3 K O2b HL3.out (by omega)).mono ?_
  rintro e w4 ⟨b4, rfl, O4, g4, i4⟩
  have O1c := O1b.grown g4 (by simp)
  have O2c := O2b.grown g4 (by simp)
  have O3c := O3.grown g4 (by simp)
  go_wp2_with fail
  refine (zzNew_any _ p b1 b2 len1 len1 true wd len3 len3).mono ?_
  rintro e w5 ⟨rfl, T5, g5⟩
  have s1 := g1.size
  have s2 := g2.size
  have s3 := g3.size
  have s4 := g4.size
  have s5 := g5.size
  have hT : Trk w5 w4.heap.size w.heap.size w1.heap.size p b1 len1 len1 true wd b2 len3 len3 C K :=
    ⟨T5, O1c.grown g5 (by simp), O2c.grown g5 (by simp), fun hb => by have := O2.lt hb; omega, fun ha hb => by have := O1.lt ha; omega, HL1.out, HL3.out⟩
  have O3d := O3c.grown g5 (by simp)
  have O4d := O4.grown g5 (by simp)
  go_wp2_with fail
  refine (zzSend_any _ _ _ _ p b1 len1 len1 true wd b2 len3 len3 j C K hT f3 hnc hnk hwd hj hn).mono ?_
  rintro e w6 ⟨d1, q1, rfl, W6, T6, g6⟩
  have hr : ∀ i, rowOf b2 w1.heap.size = some i → i = w1.heap.size ∧ i < w2.heap.size := by
    intro i hi
    unfold rowOf at hi
    split at hi
    · cases hi
    · next hb => cases hi; exact ⟨rfl, O2.lt hb⟩
  have O3e := O3d.grown g6 (fun _ e => by have := hr _ e.symm; omega)
  have O4e := O4d.grown g6 (fun _ e => by have := hr _ e.symm; omega)
  go_wp2_with fail
  refine (zzSend_none _ _ _ _ p b1 len1 len1 wd b2 len3 len3 j C K T6 f3 HL3.out hnc hnk hwd hj hn).mono ?_
  rintro e w7 ⟨d2, q2, rfl, T7, g7⟩
  have O3f := O3e.grown g7 (fun _ e => by have := hr _ e.symm; omega)
  have O4f := O4e.grown g7 (fun _ e => by have := hr _ e.symm; omega)
  have W7 := own_grown W6 g7 (fun i hi => by have := hr i hi; omega)
  go_wp2_with fail
  refine (zzKnown_any _ _ p b1 b2 len1 len1 true wd len3 len3 T7.t).mono ?_
  rintro e w' ⟨rfl, hw⟩
  have hw := hw.symm
  subst hw
  go_wp2_with fail
  refine (unk_any _ _ _ b3 b4 len1 len1 wd len3 len3 j (-1) C K O3f O4f HL1.out HL3.out f3 hnc hnk hwd hj hn).mono ?_
  rintro e w8 ⟨d3, q3, rfl, W8, g8⟩
  have W8' := own_grown W7 g8 (by simp)
  have hN := ent_len C K wd j (-1) len1
  go_wp2_with fail
  refine (same_any _ _ d1 d3 q1 q3 _ _ _ rfl (by omega) W8' W8).mono ?_
  rintro e w' ⟨rfl, q, hw⟩
  have hw := hw.symm
  subst hw
  have O4g := (O4f.grown g8 (by simp))
  have K8 := T7.k.grown g8 (by simp)
  have hbel : Below w.heap.size w w8 := by
    have hz : w.heap.size ≤ w1.heap.size := s1
    have b7 : w.grownBy w7 none := by
      have a5 : w.grownBy w5 none := grown_trans (grown_trans (grown_trans (grown_trans g1 g2) g3) g4) g5
      exact grown_trans_new (grown_trans_new a5 g6 (fun i hi => by have := hr i hi; omega)) g7 (fun i hi => by have := hr i hi; omega)
    have b8 := grown_trans b7 g8
    exact ⟨b8.os, b8.tape, b8.output, b8.size, fun k hk => b8.block k hk (by simp)⟩
  clear W6 W7 W8 W8' O1 O1a O1b O1c O2 O2b O2c O3 O3c O3d O3e O3f O4 O4d O4e O4f T5 T6 T7 hT g1 g2 g3 g4 g5 g6 g7 g8 hr s1 s2 s3 s4 s5 i3 i4 h1 h3 m1 m3 hN
  by_cases hk0 : len3 = 0
  · subst hk0
    go_wp2
    refine wp_loop_rounds 1 ?_
    rw [rounds_succ]
    go_wp2
    go_ret
    exact ⟨rfl, below_drewN hbel q⟩
  · obtain ⟨hb4, B4⟩ := O4g.pos (by rw [HL3.out]; omega)
    obtain ⟨hb2, B2⟩ := K8.pos (by rw [sent_len, HL3.out]; omega)
    subst hb4 hb2
    clear O4g K8
    have hc2 : ∀ k, k < len3 → w8.cell? ⟨w1.heap.size, k, none⟩ = some (.int .u64 ((upd K wd j len1).getD k 0)) := fun k hk => B2.word (by rw [sent_len, HL3.out]; exact hk)
    have hc4 : ∀ k, k < len3 → w8.cell? ⟨w3.heap.size, k, none⟩ = some (.int .u64 (K.getD k 0)) := fun k hk => B4.word (by rw [HL3.out]; exact hk)
    have HC2 : Hid (∀ k, k < len3 → w8.cell? ⟨w1.heap.size, k, none⟩ = some (.int .u64 ((upd K wd j len1).getD k 0))) := hc2
    have HC4 : Hid (∀ k, k < len3 → w8.cell? ⟨w3.heap.size, k, none⟩ = some (.int .u64 (K.getD k 0))) := hc4
    clear hc2 hc4 B2 B4
    go_wp2
    go_loop [21] (fun i => ∃ k : Nat, k ≤ len3 ∧ i = .int .i64 k) (fun i => len3 - (intOf i).toNat)
    case atStart => exact ⟨0, Nat.zero_le _, rfl⟩
    case round =>
      obtain ⟨k, hk, rfl⟩ := hrel
      by_cases hlt : k < len3
      · have c4 := HC4.out k hlt
        have c2 := HC2.out k hlt
        rw [upd_at K wd j len1 k (by rw [HL3.out]; exact hlt), ← HM.out] at c2
        obtain ⟨x, hx⟩ : ∃ x, x = K.getD k 0 := ⟨_, rfl⟩
        rw [← hx] at c4 c2
        clear hx
        by_cases hc : k < M
        · by_cases hd : k % wd = j / 64
          · rw [if_pos ⟨hc, hd⟩] at c2
            have hd' : ((k : Int) % (wd : Int) == (j : Int) / 64) = true := by rw [beq_iff_eq]; omega
            have hy : (orb x j != orb x j) = false := by simp
            unfold orb at c2 hy
            clear hd
            go_wp2
            go_round
            case rel => exact ⟨k + 1, by omega, by go_num⟩
            case measure => simp [intOf]; omega
          · rw [if_neg (fun c => hd c.2)] at c2
            have hd' : ((k : Int) % (wd : Int) == (j : Int) / 64) = false := by rw [beq_eq_false_iff_ne]; omega
            have hy : (x != x) = false := by simp
            clear hd
            go_wp2
            go_round
            case rel => exact ⟨k + 1, by omega, by go_num⟩
            case measure => simp [intOf]; omega
        · rw [if_neg (fun c => hc c.1)] at c2
          have hy : (x != x) = false := by simp
          go_wp2
          go_round
          case rel => exact ⟨k + 1, by omega, by go_num⟩
          case measure => simp [intOf]; omega
      · go_wp2
        go_ret
        exact ⟨rfl, below_drewN hbel q⟩

end Go.Proofs.Qxb6618472a
