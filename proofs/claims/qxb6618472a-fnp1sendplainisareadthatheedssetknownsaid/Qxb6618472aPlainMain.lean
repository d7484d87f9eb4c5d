import Derived.Test.Qxb6618472aPlainLaw
namespace Go.Proofs.Qxb6618472a
open Go.ChangeShapes Go.WideShapes Go.ChangeAt Go.RowKit
set_option linter.unusedVariables false

theorem Trk.drewN {w : World} {gt gc gk : Nat} {p : Int} {a : Option Addr} {nc cc : Nat} {fifo : Bool} {wd : Nat} {b : Option Addr} {nk ck : Nat} {C K : List Int} (h : Trk w gt gc gk p a nc cc fifo wd b nk ck C K) (n : Nat) :
    Trk (w.drewN n) gt gc gk p a nc cc fifo wd b nk ck C K := h.blkT (grown_drewN _ _ _) (h.k.grown (grown_drewN _ _ none) (by simp)) h.lk

theorem Trk.grownNone {w w' : World} {gt gc gk : Nat} {p : Int} {a : Option Addr} {nc cc : Nat} {fifo : Bool} {wd : Nat} {b : Option Addr} {nk ck : Nat} {C K : List Int} (h : Trk w gt gc gk p a nc cc fifo wd b nk ck C K) (hg : w.grownBy w' none) :
    Trk w' gt gc gk p a nc cc fifo wd b nk ck C K := h.blkT (grown_none hg _) (h.k.grown hg (by simp)) h.lk

set_option maxHeartbeats 4000000 in
set_option maxRecDepth 100000 in
theorem plain_main (p : Int) (a1 : Option Addr) (len1 cap1 : Nat) (z1 : List Int) (wd : Nat) (a3 : Option Addr) (len3 cap3 : Nat) (z3 : List Int) (j d : Nat) (w : World)
    (h1 : Row w a1 len1 cap1 z1) (h3 : Row w a3 len3 cap3 z3) (hnc : len1 ≤ 4096) (hnk : len3 ≤ 65536) (hwd1 : 1 ≤ wd) (hwd : wd ≤ 65536) (hj : j < 64 * wd) (hn : len1 * wd ≤ len3) (hd : d < len1) :
    Calls Try.prog 4 #[.int .i64 p, .slice a1 len1 cap1, .int .i64 wd, .slice a3 len3 cap3, .int .i64 j, .int .i64 d] w fun e w' => e = .returned (.bool true) ∧ Below w.heap.size w w' := by
  have l1 := h1.len
  have l3 := h3.len
  have f3 := h3.fits
  have m1 := h1.le
  have m3 := h3.le
  obtain ⟨C, hC⟩ : ∃ C, C = z1.take len1 := ⟨_, rfl⟩
  obtain ⟨K, hK⟩ : ∃ K, K = z3.take len3 := ⟨_, rfl⟩
  obtain ⟨M, hM⟩ : ∃ M, M = len1 * wd := ⟨_, rfl⟩
  obtain ⟨m, hm⟩ : ∃ m, m = d * wd := ⟨_, rfl⟩
  have hM' : (len1 : Int) * (wd : Int) = (M : Int) := by rw [hM]; simp
  have hm' : (d : Int) * (wd : Int) = (m : Int) := by rw [hm]; simp
  have hML : M ≤ len3 := by omega
  have hin : d * wd + j / 64 < len3 := by
    have : (d + 1) * wd ≤ len1 * wd := Nat.mul_le_mul_right _ hd
    rw [Nat.add_mul] at this; omega
  have hin' : m + j / 64 < len3 := by omega
  have hpos3 : 0 < len3 := by omega
  rw [← hC] at l1
  rw [← hK] at l3 f3
  have HC : Hid (C = z1.take len1) := hC
  have HK : Hid (K = z3.take len3) := hK
  have HMm : Hid (m = d * wd) := hm
  have HL1 : Hid (C.length = len1) := l1
  have HL3 : Hid (K.length = len3) := l3
  clear hC hK hM hm l1 l3
  go_enter Try.func4, Try.ntmps4
  go_wp2_with fail
  refine (bytes_plain _ _ _ _ _ _ _ _ _ _ _ m1 m3).mono ?_
  rintro e w' ⟨r, rfl, hw⟩
  have hw := hw.symm
  subst hw
  cases r
  · go_wp2_with fail
    go_ret
    exact ⟨rfl, Below.refl _ _⟩
  go_wp2_with fail
  refine (clone_any _ a1 len1 cap1 z1 h1 (by omega)).mono ?_
  rintro e w1 ⟨b1, rfl, O1, g1⟩
  rw [← HC.out] at O1
  go_wp2_with fail
  refine (clone_any _ a3 len3 cap3 z3 (h3.grown g1) (by omega)).mono ?_
  rintro e w2 ⟨b2, rfl, O2, g2⟩
  rw [← HK.out] at O2
  have O1a := O1.grown g2 (by simp)
  have hb1 := (O1.pos (by rw [HL1.out]; omega)).1
  have hb2 := (O2.pos (by rw [HL3.out]; omega)).1
  subst hb1 hb2
  go_wp2_with fail
  refine (clone_own _ _ _ len1 C O1a HL1.out (by omega)).mono ?_
  rintro e w3 ⟨b3, rfl, O3, g3, i3⟩
  have O1b := O1a.grown g3 (by simp)
  have O2b := O2.grown g3 (by simp)
  go_wp2_with fail
  refine (clone_own _ _ _ len3 K O2b HL3.out (by omega)).mono ?_
  rintro e w4 ⟨b4, rfl, O4, g4, i4⟩
  have hb3 := (O3.pos (by rw [HL1.out]; omega)).1
  have hb4 := (O4.pos (by rw [HL3.out]; omega)).1
  subst hb3 hb4
  have O1c := O1b.grown g4 (by simp)
  have O2c := O2b.grown g4 (by simp)
  have O3c := O3.grown g4 (by simp)
  go_wp2_with fail
  refine (zzNew_any _ p _ _ len1 len1 false wd len3 len3).mono ?_
  rintro e w5 ⟨rfl, T5, g5⟩
  have s1 := g1.size
  have s2 := g2.size
  have s3 := g3.size
  have s4 := g4.size
  have s5 := g5.size
  have t1 := O1.lt (by simp)
  have t2 := O2.lt (by simp)
  have t3 := O3.lt (by simp)
  have t4 := O4.lt (by simp)
  have hT : Trk w5 w4.heap.size w.heap.size w1.heap.size p (some ⟨w.heap.size, 0, none⟩) len1 len1 false wd (some ⟨w1.heap.size, 0, none⟩) len3 len3 C K :=
    ⟨T5, O1c.grown g5 (by simp), O2c.grown g5 (by simp), fun hb => by omega, fun ha hb => by omega, HL1.out, HL3.out⟩
  have O3d := O3c.grown g5 (by simp)
  have O4d := O4.grown g5 (by simp)
  clear O1 O1a O1b O1c O2 O2b O2c O3 O3c O4 T5 i3 i4 h1 h3 m1 m3
  obtain ⟨G, hG⟩ : ∃ G, G = w1.heap.size := ⟨_, rfl⟩
  have hrow : rowOf (some ⟨w1.heap.size, 0, none⟩) w1.heap.size = some w1.heap.size := by simp [rowOf]
  have a5 : w.grownBy w5 none := grown_trans (grown_trans (grown_trans (grown_trans g1 g2) g3) g4) g5
  clear g1 g2 g3 g4 g5 hG
  have HR : Hid (rowOf (some ⟨w1.heap.size, 0, none⟩) w1.heap.size = some w1.heap.size) := hrow
  clear hrow
  go_wp2_with fail
  refine (zzSend_plain _ _ _ _ p _ len1 len1 wd _ len3 len3 j C K hT f3 hnc hnk hwd hj hn).mono ?_
  rintro e w6 ⟨d1, q1, rfl, W6, T6, g6⟩
  rw [HR.out] at g6
  have O3e := O3d.grown g6 (fun _ e => by simp only [Option.some.injEq] at e; omega)
  have O4e := O4d.grown g6 (fun _ e => by simp only [Option.some.injEq] at e; omega)
  have a6 : w.grownBy w6 none := grown_trans_new a5 g6 (fun i hi => by cases hi; omega)
  have s6 := g6.size
  go_wp2_with fail
  refine (zzSend_plain _ _ _ _ p _ len1 len1 wd _ len3 len3 j C K T6 f3 hnc hnk hwd hj hn).mono ?_
  rintro e w7 ⟨d2, q2, rfl, W7, T7, g7⟩
  rw [HR.out] at g7
  have O3f := O3e.grown g7 (fun _ e => by simp only [Option.some.injEq] at e; omega)
  have O4f := O4e.grown g7 (fun _ e => by simp only [Option.some.injEq] at e; omega)
  have V7 := own_grown W6 g7 (fun i hi => by cases hi; omega)
  have a7 : w.grownBy w7 none := grown_trans_new a6 g7 (fun i hi => by cases hi; omega)
  have s7 := g7.size
  clear O3d O4d O3e O4e W6 hT T6 g6 g7 a5 a6
  go_wp2_with fail
  refine (zzKnown_any _ _ p _ _ len1 len1 false wd len3 len3 T7.t).mono ?_
  rintro e w' ⟨rfl, hw⟩
  have hw := hw.symm
  subst hw
  have B4 := (O4f.pos (by rw [HL3.out]; omega)).2
  have B2 := (T7.k.pos (by rw [HL3.out]; omega)).2
  have hne : ((len3 : Int) != (len3 : Int)) = false := by simp
  go_wp2_with fail
  go_loopw [19] (fun i wr => ∃ k : Nat, k ≤ len3 ∧ i = .int .i64 k ∧ ∃ q, wr = w7.drewN q) (fun i _ => len3 - (intOf i).toNat)
  case atStart => exact ⟨0, Nat.zero_le _, rfl, 0, rfl⟩
  case round =>
    obtain ⟨k, hk, rfl, q, rfl⟩ := hrel
    by_cases hlt : k < len3
    · have hlt' : (k : Int) < (len3 : Int) := by omega
      have c2 := B2.word (j := k) (by rw [HL3.out]; exact hlt)
      have c4 := B4.word (j := k) (by rw [HL3.out]; exact hlt)
      generalize K.getD k 0 = x at c2 c4
      have hx : (x != x) = false := by simp
      go_wp2
      go_quiet (fail)
      go_wp2
      go_roundw
      case rel => exact ⟨k + 1, by omega, by go_num, _, rfl⟩
      case measure => simp [intOf]; omega
    · clear B2 B4
      have hN := ent_len C K wd j (-1) len1
      have hN' := ent_len C K wd j d len1
      have O3g := O3f.grown (grown_drewN w7 q none) (by simp)
      have O4g := O4f.grown (grown_drewN w7 q none) (by simp)
      have T7' := T7.drewN q
      have V7' := own_grown V7 (grown_drewN w7 q none) (by simp)
      have W7' := own_grown W7 (grown_drewN w7 q none) (by simp)
      have a7' := grown_trans a7 (grown_drewN w7 q none)
      clear O3f O4f T7 V7 W7 a7
      go_wp2_with fail
      refine (unk_any _ _ _ _ _ len1 len1 wd len3 len3 j (-1) C K O3g O4g HL1.out HL3.out f3 hnc hnk hwd hj hn).mono ?_
      rintro e w8 ⟨d3, q3, rfl, W8, g8⟩
      have V8 := own_grown V7' g8 (by simp)
      have X8 := own_grown W7' g8 (by simp)
      have O3h := O3g.grown g8 (by simp)
      have O4h := O4g.grown g8 (by simp)
      have T8 := T7'.grownNone g8
      have a8 := grown_trans a7' g8
      clear V7' W7' O3g O4g T7' a7' g8
      go_wp2_with fail
      refine (same_any _ _ d1 d3 q1 q3 _ _ _ rfl (by omega) V8 W8).mono ?_
      rintro e w9 ⟨rfl, qa, hw9⟩
      have g9 : w8.grownBy w9 none := by rw [hw9]; exact grown_drewN w8 qa none
      clear hw9
      have X9 := own_grown X8 g9 (by simp)
      have Y9 := own_grown W8 g9 (by simp)
      have O3i := O3h.grown g9 (by simp)
      have O4i := O4h.grown g9 (by simp)
      have T9 := T8.grownNone g9
      have a9 := grown_trans a8 g9
      clear V8 X8 W8 O3h O4h T8 a8 g9
      go_wp2_with fail
      refine (same_any _ _ d2 d3 q2 q3 _ _ _ rfl (by omega) X9 Y9).mono ?_
      rintro e w10 ⟨rfl, qb, hw10⟩
      have g10 : w9.grownBy w10 none := by rw [hw10]; exact grown_drewN w9 qb none
      clear hw10
      have O3j := O3i.grown g10 (by simp)
      have O4j := O4i.grown g10 (by simp)
      have T10 := T9.grownNone g10
      have a10 := grown_trans a9 g10
      clear X9 Y9 O3i O4i T9 a9 g10
      go_wp2_with fail
      refine (zzSet_any _ _ _ _ p _ len1 len1 wd len3 len3 j d C K T10 hin (by omega) hnk hwd hj).mono ?_
      rintro e w11 ⟨rfl, T11, g11⟩
      rw [HR.out] at g11
      have O3k := O3j.grown g11 (fun _ e => by simp only [Option.some.injEq] at e; omega)
      have O4k := O4j.grown g11 (fun _ e => by simp only [Option.some.injEq] at e; omega)
      have a11 := grown_trans_new a10 g11 (fun i hi => by cases hi; omega)
      clear O3j O4j T10 a10
      have s11 := g11.size
      go_wp2_with fail
      refine (zzSend_dropped _ _ _ _ p _ len1 len1 wd _ len3 len3 j d C K T11 f3 (by rw [HL3.out]; exact hin) hnc hnk hwd hj hn).mono ?_
      rintro e w12 ⟨d4, q4, rfl, W12, T12, g12⟩
      rw [HR.out] at g12
      have O3l := O3k.grown g12 (fun _ e => by simp only [Option.some.injEq] at e; omega)
      have O4l := O4k.grown g12 (fun _ e => by simp only [Option.some.injEq] at e; omega)
      have a12 := grown_trans_new a11 g12 (fun i hi => by cases hi; omega)
      clear O3k O4k T11 a11 g11 g12
      go_wp2_with fail
      refine (unk_any _ _ _ _ _ len1 len1 wd len3 len3 j d C K O3l O4l HL1.out HL3.out f3 hnc hnk hwd hj hn).mono ?_
      rintro e w13 ⟨d5, q5, rfl, W13, g13⟩
      have X13 := own_grown W12 g13 (by simp)
      have O4m := O4l.grown g13 (by simp)
      have T13 := T12.grownNone g13
      have a13 := grown_trans a12 g13
      clear W12 O3l O4l T12 a12 g13
      go_wp2_with fail
      refine (same_any _ _ d4 d5 q4 q5 _ _ _ rfl (by omega) X13 W13).mono ?_
      rintro e w14 ⟨rfl, qc, hw14⟩
      have g14 : w13.grownBy w14 none := by rw [hw14]; exact grown_drewN w13 qc none
      clear hw14
      have O4n := O4m.grown g14 (by simp)
      have T14 := T13.grownNone g14
      have a14 := grown_trans a13 g14
      clear X13 W13 O4m T13 a13 g14
      go_wp2_with fail
      refine (zzKnown_any _ _ p _ _ len1 len1 false wd len3 len3 T14.t).mono ?_
      rintro e w' ⟨rfl, hw⟩
      have hw := hw.symm
      subst hw
      have B4 := (O4n.pos (by rw [HL3.out]; omega)).2
      have B2 := (T14.k.pos (by rw [List.length_set, HL3.out]; omega)).2
      have hbel : Below w.heap.size w w14 := ⟨a14.os, a14.tape, a14.output, a14.size, fun k hk => a14.block k hk (by simp)⟩
      have hc2 : ∀ k, k < len3 → w14.cell? ⟨w1.heap.size, k, none⟩ = some (.int .u64 (if k = m + j / 64 then orb (K.getD k 0) j else K.getD k 0)) := by
        intro k hk
        rw [B2.word (by rw [List.length_set, HL3.out]; exact hk), ← HMm.out]
        congr 2
        rw [List.getD_eq_getElem?_getD, List.getElem?_set]
        by_cases e : m + j / 64 = k
        · rw [if_pos e, if_pos (by rw [HL3.out]; omega), if_pos e.symm, ← e]; rfl
        · rw [if_neg e, if_neg (fun c => e c.symm), List.getD_eq_getElem?_getD]
      have hc4 : ∀ k, k < len3 → w14.cell? ⟨w3.heap.size, k, none⟩ = some (.int .u64 (K.getD k 0)) := fun k hk => B4.word (by rw [HL3.out]; exact hk)
      have HC2 : Hid (∀ k, k < len3 → w14.cell? ⟨w1.heap.size, k, none⟩ = some (.int .u64 (if k = m + j / 64 then orb (K.getD k 0) j else K.getD k 0))) := hc2
      have HC4 : Hid (∀ k, k < len3 → w14.cell? ⟨w3.heap.size, k, none⟩ = some (.int .u64 (K.getD k 0))) := hc4
      clear hc2 hc4 B2 B4 O4n T14 a14
      clear hN hN' hin hn
      go_wp2
      go_loop [26] (fun i => ∃ k : Nat, k ≤ len3 ∧ i = .int .i64 k) (fun i => len3 - (intOf i).toNat)
      case atStart => exact ⟨0, Nat.zero_le _, rfl⟩
      case round =>
        obtain ⟨k, hk, rfl⟩ := hrel
        by_cases hlt : k < len3
        · have c4 := HC4.out k hlt
          have c2 := HC2.out k hlt
          obtain ⟨x, hx⟩ : ∃ x, x = K.getD k 0 := ⟨_, rfl⟩
          rw [← hx] at c4 c2
          clear hx
          by_cases hc : k = m + j / 64
          · rw [if_pos hc] at c2
            have hd' : ((k : Int) == (m : Int) + (j : Int) / 64) = true := by rw [beq_iff_eq]; omega
            have hy : (orb x j != orb x j) = false := by simp
            unfold orb at c2 hy
            clear hc
            go_wp2
            go_round
            case rel => exact ⟨k + 1, by omega, by go_num⟩
            case measure => simp [intOf]; omega
          · rw [if_neg hc] at c2
            have hd' : ((k : Int) == (m : Int) + (j : Int) / 64) = false := by rw [beq_eq_false_iff_ne]; omega
            have hy : (x != x) = false := by simp
            clear hc
            go_wp2
            go_round
            case rel => exact ⟨k + 1, by omega, by go_num⟩
            case measure => simp [intOf]; omega
        · go_wp2
          go_ret
          exact ⟨rfl, hbel⟩

end Go.Proofs.Qxb6618472a
