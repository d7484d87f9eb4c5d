/- From what is read of the arguments to what the walks ask of memory. -/
import Derived.Test.Qxb6618474aKids
import Derived.Deep.Slices
import Derived.Lib.SmallJoins
namespace Go.Proofs.Qxb6618474a
open Go.ChangeShapes Go.WideShapes Go.ChangeAt Go.RowKit Go.Deep Go.Joins

theorem Try.cells5 : Try.prog.cellsOf 5 = 1 := by kernel_rfl
theorem Try.cells9 : Try.prog.cellsOf 9 = 1 := by kernel_rfl
theorem Try.cells22 : Try.prog.cellsOf 22 = 1 := by kernel_rfl
theorem Try.cells25 : Try.prog.cellsOf 25 = 1 := by kernel_rfl
theorem Try.cells26 : Try.prog.cellsOf 26 = 1 := by kernel_rfl
theorem Try.cells28 : Try.prog.cellsOf 28 = 4 := by kernel_rfl

section
variable {H : Type} {enc : TypeId × Value → H} {w : World} {spare : Nat → Bool} {held : Bool}

theorem plain_addr {x : Addr} {v : Value} (h : w.cell? x = some v) : ∃ b o, x = ⟨b, o, none⟩ := by
  obtain ⟨b, o, spot⟩ := x
  have : spot = none := World.cell?_spot h
  exact ⟨b, o, by rw [this]⟩

theorem open_bytes {fuel : Nat} {cs : List Value} {x : DataW H × List MemPlace} (h : DataW.trod enc Try.prog w 0 spare held fuel 26 cs = some x) : ∃ a n c zs, cs = [.slice a n c] ∧ BytesAt w 0 a n zs := by
  rcases open_ints Try.underlying26 Try.underlying5 Try.cells5 h with ⟨hcs, _⟩ | ⟨a, l, c, zs, hcs, _, hl, hm, hz, _, hcell, hwz⟩
  · exact ⟨none, 0, 0, [], hcs, rfl, fun hn => by omega⟩
  · have hlz : l ≤ zs.length := by rw [hz]; split <;> omega
    refine ⟨some a, l, c, zs.take l, hcs, by simp; omega, fun hn => ?_⟩
    obtain ⟨b, o, rfl⟩ : ∃ b o, a = ⟨b, o, none⟩ := by
      obtain ⟨b, o, spot⟩ := a
      have : spot = none := by simpa [Addr.add] using World.cell?_spot (hcell 0 (by omega))
      exact ⟨b, o, by rw [this]⟩
    refine ⟨b, o, rfl, Nat.zero_le _, fun i hi => ?_⟩
    rw [← add_plain, hcell i (by omega)]
    simp [hi]

theorem open_itm {fuel : Nat} {a : Addr} {cs : List Value} {x : DataW H × List MemPlace} (hc : w.cells? 0 a 4 = some cs) (h : DataW.trod enc Try.prog w 0 spare held fuel 28 cs = some x) :
    ∃ D : Itm, w.cell? a = some (.string D.coll) ∧ w.cell? (a.add 1) = some (.string D.id) ∧ w.cell? (a.add 2) = some (.int .u64 D.ver) ∧ ∃ va n c, w.cell? (a.add 3) = some (.slice va n c) ∧ BytesAt w 0 va n D.val := by
  obtain ⟨_, hlen, hcell⟩ := World.cells?_some hc
  obtain ⟨y0, y1, y2, y3, n, _, _, h0, h1, h2, h3⟩ := trod_struct4 Try.underlying28 h
  match cs, hlen with
  | [c0, c1, c2, c3], _ =>
    rw [Try.cells9] at h0 h1
    rw [Try.cells25] at h2
    rw [Try.cells26] at h3
    simp only [List.drop_zero, List.drop_succ_cons, List.take_succ_cons, List.take_zero] at h0 h1 h2 h3
    obtain ⟨s0, e0, _, _⟩ := DataW.trod_string Try.underlying9 h0
    obtain ⟨s1, e1, _, _⟩ := DataW.trod_string Try.underlying9 h1
    obtain ⟨v, e2, _, _⟩ := DataW.trod_int Try.underlying25 h2
    obtain ⟨va, vn, vc, zs, e3, hB⟩ := open_bytes h3
    simp only [List.cons.injEq, and_true] at e0 e1 e2 e3
    subst e0 e1 e2 e3
    have k0 := hcell 0 (by omega)
    have k1 := hcell 1 (by omega)
    have k2 := hcell 2 (by omega)
    have k3 := hcell 3 (by omega)
    simp only [List.getElem?_cons_zero, List.getElem?_cons_succ] at k0 k1 k2 k3
    refine ⟨⟨s0, s1, v, zs⟩, ?_, k1, k2, va, vn, vc, k3, hB⟩
    have : a.add 0 = a := by unfold Addr.add; split <;> simp_all
    rw [← this]; exact k0

theorem range_at {α : Type} (f : Nat → α) (n i : Nat) (h : i < ((List.range n).map f).length) : ((List.range n).map f)[i] = f i := by simp

theorem open_itms {fuel : Nat} {cs : List Value} {x : DataW H × List MemPlace} (h : DataW.trod enc Try.prog w 0 spare held fuel 22 cs = some x) : ∃ a n c Ds, cs = [.slice a n c] ∧ n ≤ maxLen ∧ ItmsAt w 0 a n Ds := by
  rcases open_slice Try.underlying22 h with ⟨hcs, _⟩ | ⟨a, len, cap, m, n, D, Pl, hcs, _, hl, hm, hmm, _, hx⟩
  · exact ⟨none, 0, 0, [], hcs, by unfold maxLen; omega, rfl, fun hn => by omega⟩
  · have hlm : len ≤ m := by rw [hmm]; split <;> omega
    rw [Try.cells28] at hx
    obtain ⟨f, hf⟩ := @choose_lt Itm ⟨⟨⟨#[]⟩, ⟨#[]⟩, 0, []⟩⟩ len
      (fun i D => w.cell? (a.add (i * 4)) = some (.string D.coll) ∧ w.cell? ((a.add (i * 4)).add 1) = some (.string D.id) ∧ w.cell? ((a.add (i * 4)).add 2) = some (.int .u64 D.ver) ∧ ∃ va n c, w.cell? ((a.add (i * 4)).add 3) = some (.slice va n c) ∧ BytesAt w 0 va n D.val)
      (fun i hi => by
        obtain ⟨cs', h1, h2⟩ := hx i (by omega)
        exact open_itm h1 h2)
    refine ⟨some a, len, cap, (List.range len).map f, hcs, by omega, by simp, fun hn => ?_⟩
    obtain ⟨b, o, rfl⟩ : ∃ b o, a = ⟨b, o, none⟩ := by
      obtain ⟨b, o, spot⟩ := a
      have : spot = none := by simpa [Addr.add] using World.cell?_spot (hf 0 hn).1
      exact ⟨b, o, by rw [this]⟩
    refine ⟨b, o, rfl, Nat.zero_le _, fun i hi => ?_⟩
    rw [range_at]
    simp only [List.length_map, List.length_range] at hi
    have := hf i hi
    simp only [add_plain] at this
    exact this

theorem open_kids {fuel : Nat} {cs : List Value} {x : DataW H × List MemPlace} (h : DataW.trod enc Try.prog w 0 spare held fuel 23 cs = some x) : ∃ a n c Dss, cs = [.slice a n c] ∧ n ≤ maxLen ∧ KidsAt w 0 a n Dss := by
  rcases open_slice1 Try.underlying23 Try.cells22 h with ⟨hcs, _⟩ | ⟨a, len, cap, m, n, V, D, Pl, hcs, _, hl, hm, hmm, _, hx⟩
  · exact ⟨none, 0, 0, [], hcs, by unfold maxLen; omega, rfl, fun hn => by omega⟩
  · have hlm : len ≤ m := by rw [hmm]; split <;> omega
    obtain ⟨f, hf⟩ := @choose_lt (List Itm) ⟨[]⟩ len
      (fun i Ds => ∃ a' n' c', w.cell? (a.add i) = some (.slice a' n' c') ∧ ItmsAt w 0 a' n' Ds)
      (fun i hi => by
        obtain ⟨h1, h2⟩ := hx i (by omega)
        obtain ⟨a', n', c', Ds, e, _, hI⟩ := open_itms h2
        simp only [List.cons.injEq, and_true] at e
        exact ⟨Ds, a', n', c', by rw [h1, e], hI⟩)
    refine ⟨some a, len, cap, (List.range len).map f, hcs, by omega, by simp, fun hn => ?_⟩
    obtain ⟨b, o, rfl⟩ : ∃ b o, a = ⟨b, o, none⟩ := by
      obtain ⟨b, o, spot⟩ := a
      obtain ⟨_, _, _, h1, _⟩ := hf 0 hn
      have : spot = none := by simpa [Addr.add] using World.cell?_spot h1
      exact ⟨b, o, by rw [this]⟩
    refine ⟨b, o, rfl, Nat.zero_le _, fun i hi => ?_⟩
    rw [range_at]
    simp only [List.length_map, List.length_range] at hi
    have := hf i hi
    simp only [add_plain] at this
    exact this
end

end Go.Proofs.Qxb6618474a
