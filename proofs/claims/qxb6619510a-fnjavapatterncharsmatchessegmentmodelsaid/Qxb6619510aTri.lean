/- Three rows that grow side by side: runes, places, marks. -/
import Derived.Test.Qxb6619510aJpc
namespace Go.Proofs.Qxb6619510a
open Go.RowKit

/-- Rows of two element types lie in two blocks. -/
theorem own_types {w : World} {b1 e1 s1 n1 b2 e2 s2 n2 : Nat} {v1 v2 : Value} {x1 x2 : List Value} (h1 : w.ownsRow b1 e1 s1 v1 n1 x1) (h2 : w.ownsRow b2 e2 s2 v2 n2 x2) (he : e1 ≠ e2) : v2.ownBlock = none ∨ v2.ownBlock ≠ v1.ownBlock := by
  rcases h2.2 with ⟨rfl, _⟩ | ⟨g2, c2, cur2, rfl, _, hg2, _⟩
  · exact .inl rfl
  · right
    intro e
    rcases h1.2 with ⟨rfl, _⟩ | ⟨g1, c1, cur1, rfl, _, hg1, _⟩
    · simp [Value.ownBlock] at e
    · simp [Value.ownBlock] at e
      subst e
      rw [hg1] at hg2
      simp at hg2
      exact he hg2.2

structure Tri (w : World) (B : Nat) (v1 v2 v3 : Value) (n1 n2 n3 : Nat) (x1 x2 x3 : List Value) : Prop where
  r : w.ownsRow B 21 1 v1 n1 x1
  a : w.ownsRow B 3 1 v2 n2 x2
  q : w.ownsRow B 4 1 v3 n3 x3

theorem Tri.alloc {w : World} {B : Nat} {v1 v2 v3 : Value} {n1 n2 n3 : Nat} {x1 x2 x3 : List Value} (h : Tri w B v1 v2 v3 n1 n2 n3 x1 x2 x3) (o : Obj) : Tri (w.alloc o) B v1 v2 v3 n1 n2 n3 x1 x2 x3 :=
  ⟨h.r.alloc o, h.a.alloc o, h.q.alloc o⟩

theorem Tri.onR {w w' : World} {B : Nat} {v1 v2 v3 v1' : Value} {n1 n2 n3 n1' : Nat} {x1 x2 x3 x1' : List Value} (h : Tri w B v1 v2 v3 n1 n2 n3 x1 x2 x3) (ho : w'.ownsRow B 21 1 v1' n1' x1') (hg : w.grownBy w' v1.ownBlock) : Tri w' B v1' v2 v3 n1' n2 n3 x1' x2 x3 :=
  ⟨ho, h.a.kept hg (own_types h.r h.a (by decide)), h.q.kept hg (own_types h.r h.q (by decide))⟩
theorem Tri.onA {w w' : World} {B : Nat} {v1 v2 v3 v2' : Value} {n1 n2 n3 n2' : Nat} {x1 x2 x3 x2' : List Value} (h : Tri w B v1 v2 v3 n1 n2 n3 x1 x2 x3) (ho : w'.ownsRow B 3 1 v2' n2' x2') (hg : w.grownBy w' v2.ownBlock) : Tri w' B v1 v2' v3 n1 n2' n3 x1 x2' x3 :=
  ⟨h.r.kept hg (own_types h.a h.r (by decide)), ho, h.q.kept hg (own_types h.a h.q (by decide))⟩
theorem Tri.onQ {w w' : World} {B : Nat} {v1 v2 v3 v3' : Value} {n1 n2 n3 n3' : Nat} {x1 x2 x3 x3' : List Value} (h : Tri w B v1 v2 v3 n1 n2 n3 x1 x2 x3) (ho : w'.ownsRow B 4 1 v3' n3' x3') (hg : w.grownBy w' v3.ownBlock) : Tri w' B v1 v2 v3' n1 n2 n3' x1 x2 x3' :=
  ⟨h.r.kept hg (own_types h.q h.r (by decide)), h.a.kept hg (own_types h.q h.a (by decide)), ho⟩

theorem Tri.grown {w w' : World} {B : Nat} {v1 v2 v3 : Value} {n1 n2 n3 : Nat} {x1 x2 x3 : List Value} (h : Tri w B v1 v2 v3 n1 n2 n3 x1 x2 x3) (hg : w.grownBy w' none) : Tri w' B v1 v2 v3 n1 n2 n3 x1 x2 x3 :=
  ⟨own_grown h.r hg (by simp), own_grown h.a hg (by simp), own_grown h.q hg (by simp)⟩
theorem Tri.weaken {w : World} {B B' : Nat} {v1 v2 v3 : Value} {n1 n2 n3 : Nat} {x1 x2 x3 : List Value} (h : Tri w B v1 v2 v3 n1 n2 n3 x1 x2 x3) (hb : B' ≤ B) : Tri w B' v1 v2 v3 n1 n2 n3 x1 x2 x3 :=
  ⟨own_weaken h.r hb, own_weaken h.a hb, own_weaken h.q hb⟩

/-- The three rows' cells. -/
def fR (l : List (Int × Nat × Bool)) : List Value := l.map fun c => .int .i32 c.1
def fA (l : List (Int × Nat × Bool)) : List Value := l.map fun c => .int .i64 c.2.1
def fQ (l : List (Int × Nat × Bool)) : List Value := l.map fun c => .bool c.2.2

/-- The rows hold the characters l. -/
def Tr3 (w : World) (B : Nat) (v1 v2 v3 : Value) (l : List (Int × Nat × Bool)) : Prop := Tri w B v1 v2 v3 l.length l.length l.length (fR l) (fA l) (fQ l)

theorem Tr3.nil (w : World) (B : Nat) : Tr3 w B (.slice none 0 0) (.slice none 0 0) (.slice none 0 0) [] := ⟨World.ownsRow_nil _ _ _ _, World.ownsRow_nil _ _ _ _, World.ownsRow_nil _ _ _ _⟩

theorem one1 (v : Value) (h : v.oneCell' = true) : ∀ u ∈ [v], u.oneCell' = true := by intro u hu; simp at hu; rw [hu]; exact h
theorem one2 (v v' : Value) (h : v.oneCell' = true) (h' : v'.oneCell' = true) : ∀ u ∈ [v, v'], u.oneCell' = true := by intro u hu; simp at hu; rcases hu with rfl | rfl <;> assumption

theorem Try.info21 : (Try.prog.info? 21).map (fun i => (i.zero, i.size, i.bytes)) = some (some (.int .i32 0), 1, 4) := by kernel_rfl
theorem Try.info3 : (Try.prog.info? 3).map (fun i => (i.zero, i.size, i.bytes)) = some (some (.int .i64 0), 1, 8) := by kernel_rfl
theorem Try.info4 : (Try.prog.info? 4).map (fun i => (i.zero, i.size, i.bytes)) = some (some (.bool false), 1, 1) := by kernel_rfl

/-- Grown from w0, whose size is B, by an append to a row from B on. -/
theorem grown_app {w0 wr w1 : World} {B e size n : Nat} {v : Value} {xs : List Value} (hB : w0.heap.size = B) (hg : w0.grownBy wr none) (hown : wr.ownsRow B e size v n xs) (hgr : wr.grownBy w1 v.ownBlock) : w0.grownBy w1 none :=
  grown_trans_new hg hgr (fun i hi => by rw [hB]; exact (hown.lt i hi).1)

end Go.Proofs.Qxb6619510a
