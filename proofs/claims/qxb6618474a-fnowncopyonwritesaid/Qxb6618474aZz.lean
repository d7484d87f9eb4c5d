import Derived.Test.Qxb6618474aKids
namespace Go.Proofs.Qxb6618474a
open Go.ChangeShapes Go.WideShapes Go.ChangeAt Go.RowKit
set_option linter.unusedVariables false

/-- One record is small. -/
def Bd (D : Itm) : Prop := D.coll.size ≤ 1048576 ∧ D.id.size ≤ 1048576 ∧ D.val.length ≤ 1048576
/-- The first k are. -/
def BdTo (Ds : List Itm) (k : Nat) : Prop := ∀ i (h : i < Ds.length), i < k → Bd Ds[i]
theorem BdTo.zero (Ds : List Itm) : BdTo Ds 0 := fun i h hi => absurd hi (Nat.not_lt_zero _)
theorem BdTo.succ {Ds : List Itm} {k : Nat} (hk : k < Ds.length) (h : BdTo Ds k) (hb : Bd Ds[k]) : BdTo Ds (k + 1) := by
  intro i hi hik
  by_cases e : i = k
  · subst e; exact hb
  · exact h i hi (by omega)
theorem BdTo.small {Ds : List Itm} {k : Nat} (hk : Ds.length ≤ k) (h : BdTo Ds k) : Small Ds := fun i hi => by
  have := h i hi (by omega)
  exact ⟨this.2.2, this.1, this.2.1⟩

def KdTo (Dss : List (List Itm)) (k : Nat) : Prop := ∀ i (h : i < Dss.length), i < k → Small Dss[i]
theorem KdTo.zero (Dss : List (List Itm)) : KdTo Dss 0 := fun i h hi => absurd hi (Nat.not_lt_zero _)
theorem KdTo.succ {Dss : List (List Itm)} {k : Nat} (hk : k < Dss.length) (h : KdTo Dss k) (hb : Small Dss[k]) : KdTo Dss (k + 1) := by
  intro i hi hik
  by_cases e : i = k
  · subst e; exact hb
  · exact h i hi (by omega)

/-- What the length check answers: where it says yes, all is small. -/
def ZzPost (Ds : List Itm) (Dss : List (List Itm)) (w : World) (e : Ending) (w' : World) : Prop := ∃ r, e = .returned (.bool r) ∧ w' = w ∧ (r = true → Small Ds ∧ KdTo Dss Dss.length)
theorem zz_no (Ds : List Itm) (Dss : List (List Itm)) (w : World) : ZzPost Ds Dss w (.returned (.bool false)) w := ⟨false, rfl, rfl, fun h => by cases h⟩
theorem zz_yes (Ds : List Itm) (Dss : List (List Itm)) (w : World) (h1 : Small Ds) (h2 : KdTo Dss Dss.length) : ZzPost Ds Dss w (.returned (.bool true)) w := ⟨true, rfl, rfl, fun _ => ⟨h1, h2⟩⟩

set_option maxHeartbeats 2000000 in
set_option maxRecDepth 100000 in
theorem zz_any (w : World) (f1 f2 f3 : Bool) (a : Option Addr) (n c : Nat) (b : Option Addr) (m d : Nat) (Ds : List Itm) (Dss : List (List Itm))
    (hI : ItmsAt w 0 a n Ds) (hK : KidsAt w 0 b m Dss) (hn : n ≤ maxLen) (hm : m ≤ maxLen) :
    Calls Try.prog 4 #[.bool f1, .bool f2, .bool f3, .slice a n c, .slice b m d] w (ZzPost Ds Dss w) := by
  unfold maxLen at hn hm
  by_cases hbig : 1048576 < n
  · go_enter Try.func4, Try.ntmps4
    go_wp2
    go_ret
    exact zz_no _ _ _
  have hsm : n ≤ 1048576 := by omega
  clear hbig
  go_enter Try.func4, Try.ntmps4
  go_wp2
  go_loop [11, 12] (fun z i => ∃ (k : Nat) (q : Int), k ≤ n ∧ i = .int .i64 k ∧ z = .int .i64 q ∧ 0 ≤ q ∧ q ≤ 1048576 ∧ BdTo Ds k) (fun _ i => n - (intOf i).toNat)
  case atStart => exact ⟨0, n, Nat.zero_le _, rfl, rfl, by omega, by omega, BdTo.zero _⟩
  case round =>
    obtain ⟨k, q, hk, rfl, rfl, hq0, hq1, hbd⟩ := hrel
    by_cases hlt : k < n
    · have hk' : k < Ds.length := by rw [hI.1]; exact hlt
      obtain ⟨b3, o3, rfl, _, hc⟩ := hI.2 (by omega)
      obtain ⟨s0, s1, s2, va, vn, vc, s3, sB⟩ := hc k hk'
      have hvl := sB.1
      have hbs : Ds[k].coll.size ≤ 1048576 → Ds[k].id.size ≤ 1048576 → vn ≤ 1048576 → BdTo Ds (k + 1) := fun h1 h2 h3 => hbd.succ hk' ⟨h1, h2, by rw [sB.1]; exact h3⟩
      generalize Ds[k].coll = x0 at *
      generalize Ds[k].id = x1 at *
      have HB : Hid (x0.size ≤ 1048576 → x1.size ≤ 1048576 → vn ≤ 1048576 → BdTo Ds (k + 1)) := hbs
      clear hbs hc sB hvl hI
      go_wp2
      all_goals first
        | (go_ret; exact zz_no _ _ _)
        | skip
      go_round
      case rel => exact ⟨k + 1, _, by omega, by go_num, rfl, by omega, by omega, HB.out (by omega) (by omega) (by omega)⟩
      case measure => simp [intOf]; omega
    · have hall : Small Ds := hbd.small (by rw [hI.1]; omega)
      have HA : Hid (Small Ds) := hall
      clear hall hbd hI
      by_cases hmb : 1048576 < m
      · go_wp2
        go_ret
        exact zz_no _ _ _
      by_cases hqm : 1048576 < q + (m : Int)
      · go_wp2
        go_ret
        exact zz_no _ _ _
      have hmb' : m ≤ 1048576 := by omega
      have hqm' : q + (m : Int) ≤ 1048576 := by omega
      clear hmb hqm
      go_wp2
      go_loop [11, 13] (fun z i => ∃ (k : Nat) (q : Int), k ≤ m ∧ i = .int .i64 k ∧ z = .int .i64 q ∧ 0 ≤ q ∧ q ≤ 1048576 ∧ KdTo Dss k) (fun _ i => m - (intOf i).toNat)
      case atStart => exact ⟨0, q + (m : Int), Nat.zero_le _, rfl, rfl, by omega, by omega, KdTo.zero _⟩
      case round =>
        obtain ⟨k2, q2, hk2, rfl, rfl, hq20, hq21, hkd⟩ := hrel
        by_cases hlt2 : k2 < m
        · have hk2' : k2 < Dss.length := by rw [hK.1]; exact hlt2
          obtain ⟨b4, o4, rfl, _, hc⟩ := hK.2 (by omega)
          obtain ⟨ka, kn, kc, t0, tI⟩ := hc k2 hk2'
          have hks : Small Dss[k2] → KdTo Dss (k2 + 1) := fun h => hkd.succ hk2' h
          generalize Dss[k2] = Es at *
          have HS : Hid (Small Es → KdTo Dss (k2 + 1)) := hks
          clear hks hc hK
          by_cases hkb : 1048576 < kn
          · go_wp2
            go_ret
            exact zz_no _ _ _
          by_cases hqk : 1048576 < q2 + (kn : Int)
          · go_wp2
            go_ret
            exact zz_no _ _ _
          have hkb' : kn ≤ 1048576 := by omega
          have hqk' : q2 + (kn : Int) ≤ 1048576 := by omega
          clear hkb hqk
          go_wp2
          go_loop [11, 14] (fun z i => ∃ (k : Nat) (q : Int), k ≤ kn ∧ i = .int .i64 k ∧ z = .int .i64 q ∧ 0 ≤ q ∧ q ≤ 1048576 ∧ BdTo Es k) (fun _ i => kn - (intOf i).toNat)
          case atStart => exact ⟨0, q2 + (kn : Int), Nat.zero_le _, rfl, rfl, by omega, by omega, BdTo.zero _⟩
          case round =>
            obtain ⟨k3, q3, hk3, rfl, rfl, hq30, hq31, hbd3⟩ := hrel
            by_cases hlt3 : k3 < kn
            · have hk3' : k3 < Es.length := by rw [tI.1]; exact hlt3
              obtain ⟨b5, o5, rfl, _, hc5⟩ := tI.2 (by omega)
              obtain ⟨s0, s1, s2, va, vn, vc, s3, sB⟩ := hc5 k3 hk3'
              have hbs : Es[k3].coll.size ≤ 1048576 → Es[k3].id.size ≤ 1048576 → vn ≤ 1048576 → BdTo Es (k3 + 1) := fun h1 h2 h3 => hbd3.succ hk3' ⟨h1, h2, by rw [sB.1]; exact h3⟩
              generalize Es[k3].coll = x0 at *
              generalize Es[k3].id = x1 at *
              have HB : Hid (x0.size ≤ 1048576 → x1.size ≤ 1048576 → vn ≤ 1048576 → BdTo Es (k3 + 1)) := hbs
              clear hbs hc5 sB tI
              go_wp2
              all_goals first
                | (go_ret; exact zz_no _ _ _)
                | skip
              go_round
              case rel => exact ⟨k3 + 1, _, by omega, by go_num, rfl, by omega, by omega, HB.out (by omega) (by omega) (by omega)⟩
              case measure => simp [intOf]; omega
            · have hsE : Small Es := hbd3.small (by rw [tI.1]; omega)
              have HK2 : Hid (KdTo Dss (k2 + 1)) := HS.out hsE
              clear hsE hbd3 tI
              go_wp2
              go_round
              case rel => exact ⟨k2 + 1, _, by omega, by go_num, rfl, by omega, by omega, HK2.out⟩
              case measure => simp [intOf]; omega
        · have hfin : KdTo Dss Dss.length := by rw [hK.1]; have : k2 = m := by omega
                                                rw [← this]; exact hkd
          clear hkd hK
          go_wp2
          go_ret
          exact zz_yes _ _ _ HA.out hfin

end Go.Proofs.Qxb6618474a
