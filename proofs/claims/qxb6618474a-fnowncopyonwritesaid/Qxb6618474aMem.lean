/- Whole blocks of cells, and what keeps them: small laws on worlds. -/
import Derived.Test.Qxb6618474aRows
import Derived.WalkKit
import Derived.ProofKit
import Derived.WalkSpells
import Derived.WalkLawsBesides
namespace Go.Proofs.Qxb6618474a
open Go.RowKit

/-- Block g holds just these cells, none frozen. -/
def Blk (w : World) (g : Nat) (cs : List Value) (t : TypeId) : Prop := w.heap[g]? = some (.cells cs.toArray t (0, 0))

/-- The bytes of a row as cells. -/
def wds (zs : List Int) : List Value := zs.map (Value.int .u8)

theorem wds_len (zs : List Int) : (wds zs).length = zs.length := by simp [wds]

theorem Blk.cell {w : World} {g : Nat} {cs : List Value} {t : TypeId} (h : Blk w g cs t) {j : Nat} (hj : j < cs.length) : w.cell? ⟨g, j, none⟩ = some (cs[j]) := by
  unfold Blk at h
  rw [cell_of_row w g j _ t (0, 0) h]
  simp [hj]

theorem Blk.at {w : World} {g : Nat} {cs : List Value} {t : TypeId} (h : Blk w g cs t) (j : Nat) : w.cell? ⟨g, j, none⟩ = cs[j]? := by
  unfold Blk at h
  rw [cell_of_row w g j _ t (0, 0) h]
  simp

theorem Blk.word {w : World} {g : Nat} {zs : List Int} {t : TypeId} (h : Blk w g (wds zs) t) {j : Nat} (hj : j < zs.length) : w.cell? ⟨g, j, none⟩ = some (.int .u8 (zs.getD j 0)) := by
  rw [h.cell (by simpa [wds] using hj)]
  simp [wds, hj]

theorem Blk.free {w : World} {g : Nat} {cs : List Value} {t : TypeId} (h : Blk w g cs t) (j : Nat) : w.frozen? ⟨g, j, none⟩ = false := by
  unfold Blk at h
  simp [World.frozen?, h]

theorem Blk.lt {w : World} {g : Nat} {cs : List Value} {t : TypeId} (h : Blk w g cs t) : g < w.heap.size := by
  unfold Blk at h
  exact (Array.getElem?_eq_some_iff.1 h).1

theorem Blk.same {w w' : World} {g : Nat} {cs : List Value} {t : TypeId} (h : Blk w g cs t) (e : w'.heap[g]? = w.heap[g]?) : Blk w' g cs t := by
  unfold Blk at *
  rw [e]; exact h

theorem Blk.drewN {w : World} {g : Nat} {cs : List Value} {t : TypeId} (h : Blk w g cs t) (n : Nat) : Blk (w.drewN n) g cs t := h

theorem Blk.grown {w w' : World} {g : Nat} {cs : List Value} {t : TypeId} {row : Option Nat} (h : Blk w g cs t) (hg : w.grownBy w' row) (hne : some g ≠ row) : Blk w' g cs t :=
  h.same (hg.block g h.lt hne)

theorem Blk.alloc {w : World} {g : Nat} {cs : List Value} {t : TypeId} (h : Blk w g cs t) (o : Obj) : Blk (w.alloc o) g cs t :=
  h.grown (World.grownBy_alloc w o none) (by simp)

theorem Blk.new (w : World) (cs : List Value) (t : TypeId) : Blk (w.alloc (.cells cs.toArray t)) w.heap.size cs t := heap_alloc_new w _

theorem Blk.set {w : World} {g : Nat} {cs : List Value} {t : TypeId} (h : Blk w g cs t) (j : Nat) (u : Value) : Blk (w.setCell ⟨g, j, none⟩ u) g (cs.set j u) t := by
  unfold Blk at *
  simp [World.setCell, Array.getElem?_modify, h]

theorem Blk.other {w : World} {g : Nat} {cs : List Value} {t : TypeId} (h : Blk w g cs t) {a : Addr} (ha : g ≠ a.block) (u : Value) : Blk (w.setCell a u) g cs t :=
  h.same (Below.heap_setCell w a u g ha)

theorem grown_trans {a b c : World} {row : Option Nat} (h : a.grownBy b row) (k : b.grownBy c row) : a.grownBy c row :=
  ⟨k.os.trans h.os, k.tape.trans h.tape, k.output.trans h.output, Nat.le_trans h.size k.size, fun i hi hr => (k.block i (Nat.lt_of_lt_of_le hi h.size) hr).trans (h.block i hi hr)⟩

/-- A write to a block that is new since a is no write to what was there. -/
theorem grown_trans_new {a b c : World} {row row' : Option Nat} (h : a.grownBy b row) (k : b.grownBy c row') (hr : ∀ i, row' = some i → a.heap.size ≤ i) : a.grownBy c row :=
  ⟨k.os.trans h.os, k.tape.trans h.tape, k.output.trans h.output, Nat.le_trans h.size k.size, fun i hi hne =>
    (k.block i (Nat.lt_of_lt_of_le hi h.size) (fun e => by have := hr i e.symm; omega)).trans (h.block i hi hne)⟩

theorem grown_none {a b : World} (h : a.grownBy b none) (row : Option Nat) : a.grownBy b row :=
  ⟨h.os, h.tape, h.output, h.size, fun i hi _ => h.block i hi (by simp)⟩

theorem grown_drewN (w : World) (n : Nat) (row : Option Nat) : w.grownBy (w.drewN n) row := ⟨rfl, rfl, rfl, Nat.le_refl _, fun _ _ _ => rfl⟩

theorem grown_set (w : World) (g j : Nat) (u : Value) : w.grownBy (w.setCell ⟨g, j, none⟩ u) (some g) :=
  ⟨rfl, rfl, rfl, by simp [World.setCell], fun i hi hne => Below.heap_setCell w _ u i (by intro e; exact hne (by simp at e; rw [e]))⟩

theorem grown_set_drew (w : World) (g j : Nat) (u : Value) : w.grownBy (w.setCell ⟨g, j, none⟩ u).drew (some g) := grown_trans (grown_set w g j u) (grown_drewN _ 1 _)

theorem grown_free {w w' : World} {a : Addr} {v : Value} (hg : w.grownBy w' none) (hc : w.cell? a = some v) (hf : w.frozen? a = false) : w'.frozen? a = false := by
  rw [World.frozen?_of_block (w := w) (hg.block a.block (World.block_lt_of_cell? w a hc) (by simp))]; exact hf

theorem grown_set4 {w wx : World} (h : w.grownBy wx none) (g : Nat) (hg : w.heap.size ≤ g) (o0 o1 o2 o3 : Nat) (u0 u1 u2 u3 : Value) :
    w.grownBy ((((wx.setCell ⟨g, o0, none⟩ u0).setCell ⟨g, o1, none⟩ u1).setCell ⟨g, o2, none⟩ u2).setCell ⟨g, o3, none⟩ u3) none :=
  grown_trans_new h (grown_trans (grown_trans (grown_trans (grown_set wx g o0 u0) (grown_set _ g o1 u1)) (grown_set _ g o2 u2)) (grown_set _ g o3 u3)) (by intro i hi; cases hi; exact hg)

/-- A row that is owned behind a store into another block. -/
theorem own_grown {w w' : World} {base : Nat} {e : TypeId} {size : Nat} {v : Value} {n : Nat} {xs : List Value} {row : Option Nat} (h : w.ownsRow base e size v n xs) (hg : w.grownBy w' row)
    (hr : ∀ i, row = some i → i < base) : w'.ownsRow base e size v n xs := by
  refine h.kept hg ?_
  cases hv : v.ownBlock with
  | none => exact .inl rfl
  | some k =>
    refine .inr fun e' => ?_
    have h1 := (h.lt k hv).1
    have h2 := hr k (by rw [← e'])
    omega

theorem own_weaken {w : World} {base base' : Nat} {e : TypeId} {size : Nat} {v : Value} {n : Nat} {xs : List Value} (h : w.ownsRow base e size v n xs) (hb : base' ≤ base) : w.ownsRow base' e size v n xs := by
  refine ⟨h.1, ?_⟩
  rcases h.2 with hn | ⟨g, cap, cur, hv, hg, rest⟩
  · exact .inl hn
  · exact .inr ⟨g, cap, cur, hv, Nat.le_trans hb hg, rest⟩

/-- The value of an owned row, written out. -/
theorem own_form {w : World} {base : Nat} {e : TypeId} {size : Nat} {v : Value} {n : Nat} {xs : List Value} (h : w.ownsRow base e size v n xs) : ∃ a cap, v = .slice a n cap ∧ (a = none → n = 0) := by
  rcases h.2 with ⟨rfl, rfl⟩ | ⟨g, cap, cur, rfl, _⟩
  · exact ⟨none, 0, rfl, fun _ => rfl⟩
  · exact ⟨_, cap, rfl, fun h => by cases h⟩

end Go.Proofs.Qxb6618474a

namespace Go.Proofs.Qxb6618474a
/-- An owned row without spare room is its whole block. -/
theorem own_blk {w : World} {base g : Nat} {e : TypeId} {size n : Nat} {xs : List Value} (h : w.ownsRow base e size (.slice (some ⟨g, 0, none⟩) n n) n xs) : Blk w g xs e := by
  rcases h.2 with ⟨h, _⟩ | ⟨g', cap, cur, hv, hb, hg, hn, hm, hs, ht⟩
  · cases h
  · simp only [Value.slice.injEq, Option.some.injEq, Addr.mk.injEq] at hv
    obtain ⟨⟨rfl, _, _⟩, _, rfl⟩ := hv
    unfold Blk
    rw [hg]
    have : cur.toList = xs := by rw [← ht, List.take_of_length_le (by simp [hs])]
    rw [← this]

theorem made_words (n : Nat) : (madeCells (Value.int .u8 0).cells (n * 1)).toList = wds (List.replicate n 0) := by
  have : (Value.int .u8 0).cells = #[.int .u8 0] := rfl
  rw [this, toList_madeCells_one]
  simp [wds]

theorem wds_set (zs : List Int) (j : Nat) (x : Int) : (wds zs).set j (.int .u8 x) = wds (zs.set j x) := by
  unfold wds; rw [List.map_set]

/-- One round of a copy. -/
theorem copy_step (zs : List Int) (k : Nat) (h : k < zs.length) :
    (zs.take k ++ List.replicate (zs.length - k) 0).set k (zs.getD k 0) = zs.take (k + 1) ++ List.replicate (zs.length - (k + 1)) 0 := by
  apply List.ext_getElem?
  intro i
  rw [List.getElem?_set]
  simp only [List.getElem?_append, List.length_take, List.length_append, List.length_replicate, List.getElem?_replicate, List.getElem?_take]
  by_cases h1 : k = i
  · subst h1
    have h2 : k < min (k + 1) zs.length := by omega
    simp [h2, h]
    omega
  · by_cases h3 : i < k
    · have a1 : i < min k zs.length := by omega
      have a2 : i < min (k + 1) zs.length := by omega
      simp [h1, a1, a2, h3]
      omega
    · have a1 : ¬ i < min k zs.length := by omega
      have a2 : ¬ i < min (k + 1) zs.length := by omega
      simp only [h1, a1, a2, if_false]
      congr 1
      apply propext
      omega
end Go.Proofs.Qxb6618474a
