/- Whole blocks of cells, and what keeps them: small laws on worlds. -/
import Derived.Test.Qxb6619510aRows
import Derived.WalkKit
import Derived.ProofKit
import Derived.WalkSpells
import Derived.WalkLawsBesides
namespace Go.Proofs.Qxb6619510a
open Go.RowKit

/-- Block g holds just these cells, none frozen. -/
def Blk (w : World) (g : Nat) (cs : List Value) (t : TypeId) : Prop := w.heap[g]? = some (.cells cs.toArray t (0, 0))

theorem Blk.cell {w : World} {g : Nat} {cs : List Value} {t : TypeId} (h : Blk w g cs t) {j : Nat} (hj : j < cs.length) : w.cell? ⟨g, j, none⟩ = some (cs[j]) := by
  unfold Blk at h
  rw [cell_of_row w g j _ t (0, 0) h]
  simp [hj]

theorem Blk.at {w : World} {g : Nat} {cs : List Value} {t : TypeId} (h : Blk w g cs t) (j : Nat) : w.cell? ⟨g, j, none⟩ = cs[j]? := by
  unfold Blk at h
  rw [cell_of_row w g j _ t (0, 0) h]
  simp

theorem Blk.free {w : World} {g : Nat} {cs : List Value} {t : TypeId} (h : Blk w g cs t) (j : Nat) : w.frozen? ⟨g, j, none⟩ = false := by
  unfold Blk at h
  simp [World.frozen?, h]

theorem Blk.lt {w : World} {g : Nat} {cs : List Value} {t : TypeId} (h : Blk w g cs t) : g < w.heap.size := by
  unfold Blk at h
  exact (Array.getElem?_eq_some_iff.1 h).1

theorem Blk.same {w w' : World} {g : Nat} {cs : List Value} {t : TypeId} (h : Blk w g cs t) (e : w'.heap[g]? = w.heap[g]?) : Blk w' g cs t := by
  unfold Blk at *
  rw [e]; exact h

theorem Blk.drewN {w : World} {g : Nat} {cs : List Value} {t : TypeId} (h : Blk w g cs t) (n : Nat) : Blk (w.drewN n) g cs t := h

theorem Blk.grown {w w' : World} {g : Nat} {cs : List Value} {t : TypeId} {row : Option Nat} (h : Blk w g cs t) (hg : w.grownBy w' row) (hne : some g ≠ row) : Blk w' g cs t :=
  h.same (hg.block g h.lt hne)

theorem Blk.alloc {w : World} {g : Nat} {cs : List Value} {t : TypeId} (h : Blk w g cs t) (o : Obj) : Blk (w.alloc o) g cs t :=
  h.grown (World.grownBy_alloc w o none) (by simp)

theorem Blk.new (w : World) (cs : List Value) (t : TypeId) : Blk (w.alloc (.cells cs.toArray t)) w.heap.size cs t := heap_alloc_new w _

theorem Blk.set {w : World} {g : Nat} {cs : List Value} {t : TypeId} (h : Blk w g cs t) (j : Nat) (u : Value) : Blk (w.setCell ⟨g, j, none⟩ u) g (cs.set j u) t := by
  unfold Blk at *
  simp [World.setCell, Array.getElem?_modify, h]

theorem Blk.other {w : World} {g : Nat} {cs : List Value} {t : TypeId} (h : Blk w g cs t) {a : Addr} (ha : g ≠ a.block) (u : Value) : Blk (w.setCell a u) g cs t :=
  h.same (Below.heap_setCell w a u g ha)

theorem grown_trans {a b c : World} {row : Option Nat} (h : a.grownBy b row) (k : b.grownBy c row) : a.grownBy c row :=
  ⟨k.os.trans h.os, k.tape.trans h.tape, k.output.trans h.output, Nat.le_trans h.size k.size, fun i hi hr => (k.block i (Nat.lt_of_lt_of_le hi h.size) hr).trans (h.block i hi hr)⟩

/-- A write to a block that is new since a is no write to what was there. -/
theorem grown_trans_new {a b c : World} {row row' : Option Nat} (h : a.grownBy b row) (k : b.grownBy c row') (hr : ∀ i, row' = some i → a.heap.size ≤ i) : a.grownBy c row :=
  ⟨k.os.trans h.os, k.tape.trans h.tape, k.output.trans h.output, Nat.le_trans h.size k.size, fun i hi hne =>
    (k.block i (Nat.lt_of_lt_of_le hi h.size) (fun e => by have := hr i e.symm; omega)).trans (h.block i hi hne)⟩

theorem grown_none {a b : World} (h : a.grownBy b none) (row : Option Nat) : a.grownBy b row :=
  ⟨h.os, h.tape, h.output, h.size, fun i hi _ => h.block i hi (by simp)⟩

theorem grown_drewN (w : World) (n : Nat) (row : Option Nat) : w.grownBy (w.drewN n) row := ⟨rfl, rfl, rfl, Nat.le_refl _, fun _ _ _ => rfl⟩

theorem grown_set (w : World) (g j : Nat) (u : Value) : w.grownBy (w.setCell ⟨g, j, none⟩ u) (some g) :=
  ⟨rfl, rfl, rfl, by simp [World.setCell], fun i hi hne => Below.heap_setCell w _ u i (by intro e; exact hne (by simp at e; rw [e]))⟩

theorem grown_set_drew (w : World) (g j : Nat) (u : Value) : w.grownBy (w.setCell ⟨g, j, none⟩ u).drew (some g) := grown_trans (grown_set w g j u) (grown_drewN _ 1 _)

/-- A row that is owned behind a store into another block. -/
theorem own_grown {w w' : World} {base : Nat} {e : TypeId} {size : Nat} {v : Value} {n : Nat} {xs : List Value} {row : Option Nat} (h : w.ownsRow base e size v n xs) (hg : w.grownBy w' row)
    (hr : ∀ i, row = some i → i < base) : w'.ownsRow base e size v n xs := by
  refine h.kept hg ?_
  cases hv : v.ownBlock with
  | none => exact .inl rfl
  | some k =>
    refine .inr fun e' => ?_
    have h1 := (h.lt k hv).1
    have h2 := hr k (by rw [← e'])
    omega

theorem own_weaken {w : World} {base base' : Nat} {e : TypeId} {size : Nat} {v : Value} {n : Nat} {xs : List Value} (h : w.ownsRow base e size v n xs) (hb : base' ≤ base) : w.ownsRow base' e size v n xs := by
  refine ⟨h.1, ?_⟩
  rcases h.2 with hn | ⟨g, cap, cur, hv, hg, rest⟩
  · exact .inl hn
  · exact .inr ⟨g, cap, cur, hv, Nat.le_trans hb hg, rest⟩

/-- The value of an owned row, written out. -/
theorem own_form {w : World} {base : Nat} {e : TypeId} {size : Nat} {v : Value} {n : Nat} {xs : List Value} (h : w.ownsRow base e size v n xs) : ∃ a cap, v = .slice a n cap ∧ (a = none → n = 0) := by
  rcases h.2 with ⟨rfl, rfl⟩ | ⟨g, cap, cur, rfl, _⟩
  · exact ⟨none, 0, rfl, fun _ => rfl⟩
  · exact ⟨_, cap, rfl, fun h => by cases h⟩

end Go.Proofs.Qxb6619510a

namespace Go.Proofs.Qxb6619510a
/-- An owned row without spare room is its whole block. -/
theorem own_blk {w : World} {base g : Nat} {e : TypeId} {size n : Nat} {xs : List Value} (h : w.ownsRow base e size (.slice (some ⟨g, 0, none⟩) n n) n xs) : Blk w g xs e := by
  rcases h.2 with ⟨h, _⟩ | ⟨g', cap, cur, hv, hb, hg, hn, hm, hs, ht⟩
  · cases h
  · simp only [Value.slice.injEq, Option.some.injEq, Addr.mk.injEq] at hv
    obtain ⟨⟨rfl, _, _⟩, _, rfl⟩ := hv
    unfold Blk
    rw [hg]
    have : cur.toList = xs := by rw [← ht, List.take_of_length_le (by simp [hs])]
    rw [← this]

end Go.Proofs.Qxb6619510a
