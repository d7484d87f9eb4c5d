import Derived.Test.Qxb6618474aZz
namespace Go.Proofs.Qxb6618474a
open Go.ChangeShapes Go.WideShapes Go.ChangeAt Go.RowKit
set_option linter.unusedVariables false

/-- Every cell of a block of records is one cell's worth. -/
theorem itm_one {w : World} {lo g n : Nat} {cs : List Value} {t : TypeId} {Ds : List Itm} (hB : Blk w g cs t) (hl : cs.length = n * 4) (hn : Ds.length = n)
    (hI : ∀ i (h : i < Ds.length), ItmAt w lo g (i * 4) Ds[i]) : ∀ u ∈ cs, u.oneCell' = true := by
  intro u hu
  obtain ⟨j, hj, rfl⟩ := List.getElem_of_mem hu
  obtain ⟨h0, h1, h2, a, k, c, h3, _⟩ := hI (j / 4) (by omega)
  have hc := hB.cell hj
  have hr : j % 4 = 0 ∨ j % 4 = 1 ∨ j % 4 = 2 ∨ j % 4 = 3 := by omega
  rcases hr with hr | hr | hr | hr
  · have e : j / 4 * 4 = j := by omega
    rw [e, hc] at h0; simp only [Option.some.injEq] at h0; rw [h0]; rfl
  · have e : j / 4 * 4 + 1 = j := by omega
    rw [e, hc] at h1; simp only [Option.some.injEq] at h1; rw [h1]; rfl
  · have e : j / 4 * 4 + 2 = j := by omega
    rw [e, hc] at h2; simp only [Option.some.injEq] at h2; rw [h2]; rfl
  · have e : j / 4 * 4 + 3 = j := by omega
    rw [e, hc] at h3; simp only [Option.some.injEq] at h3; rw [h3]; rfl

theorem blk_cells {w : World} {g : Nat} {cs : List Value} {t : TypeId} (hB : Blk w g cs t) : ∀ j u, cs[j]? = some u → w.cell? ((⟨g, 0, none⟩ : Addr).add j) = some u := by
  intro j u hu
  have : (⟨g, 0, none⟩ : Addr).add j = ⟨g, j, none⟩ := by unfold Addr.add; split <;> simp_all
  rw [this, hB.at]; exact hu

/-- What 'makeItems' hands back. -/
structure Made (w w' : World) (g n : Nat) (cs : List Value) (Ds : List Itm) : Prop where
  its : ItmsAt w' w.heap.size (some ⟨g, 0, none⟩) n Ds
  len : cs.length = n * 4
  blk : Blk w' g cs 51
  one : ∀ u ∈ cs, u.oneCell' = true
  new : w.heap.size ≤ g
  grown : w.grownBy w' none

theorem made_any (w : World) (a : Option Addr) (len cap : Nat) (Ds : List Itm) (h : ItmsAt w 0 a len Ds) (hs : Small Ds) (hl : len ≤ 65536) :
    Calls Try.prog 9 #[.slice a len cap] w fun e w' => ∃ g cs, e = .returned (.slice (some ⟨g, 0, none⟩) len len) ∧ Made w w' g len cs Ds := by
  by_cases h0 : len = 0
  · subst h0
    refine (makeI_zero w a cap).mono ?_
    rintro e w' ⟨rfl, hB, hg⟩
    exact ⟨_, [], rfl, ⟨⟨h.1, fun hn => by omega⟩, rfl, hB, by simp, Nat.le_refl _, hg⟩⟩
  · obtain ⟨b, o, rfl, _, hc⟩ := h.2 (by omega)
    refine (makeI_pos w b o len cap Ds hl h.1 hc (fun i hi => (hs i hi).1)).mono ?_
    rintro e w' ⟨rfl, hI, ⟨cs, hcl, hB⟩, hg⟩
    refine ⟨_, cs, rfl, ⟨⟨h.1, fun _ => ⟨_, 0, rfl, Nat.le_refl _, fun i hi => ?_⟩⟩, hcl, hB, itm_one hB hcl h.1 hI, Nat.le_refl _, hg⟩⟩
    rw [Nat.zero_add]
    exact (hI i hi).mono (by omega)

/-- A copy of a block of records, cell for cell, holds the same records. -/
theorem itms_copy {w w' : World} {lo g n base c : Nat} {cs : List Value} {Ds : List Itm} {a : Option Addr} (hB : Blk w g cs 51) (hl : cs.length = n * 4) (hI : ItmsAt w lo (some ⟨g, 0, none⟩) n Ds)
    (ho : w'.ownsRow base 51 4 (.slice a n c) n cs) (hg : w.grownBy w' none) : ItmsAt w' 0 a n Ds := by
  refine ⟨hI.1, fun hn => ?_⟩
  obtain ⟨b, off, hb, _, hc⟩ := hI.2 hn
  simp only [Option.some.injEq, Addr.mk.injEq, and_true] at hb
  obtain ⟨rfl, rfl⟩ := hb
  rcases ho.2 with ⟨h, h0⟩ | ⟨g', cap, cur, hv, _⟩
  · omega
  · simp only [Value.slice.injEq] at hv
    obtain ⟨rfl, _, rfl⟩ := hv
    refine ⟨g', 0, rfl, Nat.zero_le _, fun i hi => ?_⟩
    have hin := hI.1
    obtain ⟨h0, h1, h2, a, k, c, h3, h4⟩ := hc i hi
    rw [Nat.zero_add] at *
    have key : ∀ j, j < n * 4 → w'.cell? ⟨g', j, none⟩ = w.cell? ⟨g, j, none⟩ := fun j hj => by rw [ho.cellAt j hj, hB.at]
    exact ⟨by rw [key _ (by omega)]; exact h0, by rw [key _ (by omega)]; exact h1, by rw [key _ (by omega)]; exact h2, a, k, c, by rw [key _ (by omega)]; exact h3, (h4.grown hg).mono (Nat.zero_le _)⟩

/-- Pointers as cells. -/
def ptrs (ps : List (Option Addr)) : List Value := ps.map Value.pointer
theorem ptrs_len (ps : List (Option Addr)) : (ptrs ps).length = ps.length := by simp [ptrs]
theorem ptrs_one (ps : List (Option Addr)) : ∀ u ∈ ptrs ps, u.oneCell' = true := by
  intro u hu
  unfold ptrs at hu
  rw [List.mem_map] at hu
  obtain ⟨p, _, rfl⟩ := hu
  rfl
theorem ptrs_at (ps : List (Option Addr)) (i : Nat) (h : i < ps.length) : (ptrs ps)[i]? = some (.pointer (ps.getD i none)) := by
  simp [ptrs, h]

theorem ptrs_blk {w : World} {g n : Nat} {ps : List (Option Addr)} (hB : Blk w g (ptrs ps) 34) (hl : ps.length = n) : PtrsAt w (some ⟨g, 0, none⟩) n ps :=
  ⟨hl, fun hn => ⟨g, 0, rfl, fun i hi => by rw [Nat.zero_add, hB.at]; exact ptrs_at ps i (by omega)⟩⟩

theorem ptrs_own {w : World} {base n c : Nat} {a : Option Addr} {ps : List (Option Addr)} (ho : w.ownsRow base 34 1 (.slice a n c) n (ptrs ps)) (hl : ps.length = n) : PtrsAt w a n ps := by
  refine ⟨hl, fun hn => ?_⟩
  rcases ho.2 with ⟨h, h0⟩ | ⟨g', cap, cur, hv, _⟩
  · omega
  · simp only [Value.slice.injEq] at hv
    obtain ⟨rfl, _, rfl⟩ := hv
    exact ⟨g', 0, rfl, fun i hi => by rw [Nat.zero_add, ho.cellAt i (by omega)]; exact ptrs_at ps i (by omega)⟩

theorem Apart.grown {w w' : World} {p q : Option Addr} (h : Apart w p q) (hg : w.grownBy w' none) : Apart w' p q := by
  refine ⟨h.1, fun a b ha hb => ?_⟩
  obtain ⟨ca, ta, cb, tb, h1, h2⟩ := h.2 a b ha hb
  exact ⟨ca, ta, cb, tb, (hg.block _ (Array.getElem?_eq_some_iff.1 h1).1 (by simp)).trans h1, (hg.block _ (Array.getElem?_eq_some_iff.1 h2).1 (by simp)).trans h2⟩

end Go.Proofs.Qxb6618474a
