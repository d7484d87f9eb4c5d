/- A text's runes; that its runes, written out again, are read as they were. -/
import Derived.Test.Qxb6619510aPlain
import Derived.Laws.IdiomStrings
import Derived.Laws.Cover4
import Derived.Lib.DecodeN
namespace Go.Proofs.Qxb6619510a

/-- The runes of s from byte i on, at most 'bound' of them. -/
def rnF (s : ByteArray) : Nat → Nat → List Int
  | 0, _ => []
  | b + 1, i => if i < s.size then ((Utf8.decode s i).1 : Int) :: rnF s b (i + (Utf8.decode s i).2) else []

/-- The runes of s. -/
def rn (s : ByteArray) : List Int := rnF s s.size 0

theorem runesFrom_eq (s : ByteArray) : ∀ (b i : Nat) (acc : Array Value), Conv.runesFrom s b i acc = acc ++ ((rnF s b i).map (Value.int .i32)).toArray := by
  intro b
  induction b with
  | zero => intro i acc; simp [Conv.runesFrom, rnF]
  | succ b ih =>
    intro i acc
    unfold Conv.runesFrom rnF
    by_cases h : i < s.size
    · simp only [h, if_true]
      rw [ih]
      simp
    · simp [h]

theorem runes_eq (s : ByteArray) : Conv.runesFrom s s.size 0 #[] = ((rn s).map (Value.int .i32)).toArray := by rw [runesFrom_eq]; simp [rn]

theorem rnF_len (s : ByteArray) : ∀ (b i : Nat), (rnF s b i).length ≤ b := by
  intro b
  induction b with
  | zero => intro i; simp [rnF]
  | succ b ih => intro i; unfold rnF; split <;> simp; exact ih _

theorem rn_len (s : ByteArray) : (rn s).length ≤ s.size := rnF_len s _ _

/-- A rune that can be written. -/
def Good (r : Int) : Prop := (0 ≤ r ∧ r < 55296) ∨ (57344 ≤ r ∧ r ≤ 1114111)

theorem decode_good (s : ByteArray) (i : Nat) : Good ((Utf8.decode s i).1 : Int) := by
  rw [Lib.decode_at]
  unfold Lib.decodeN Good
  repeat' split
  all_goals (simp only []; omega)

theorem rnF_good (s : ByteArray) : ∀ (b i : Nat), ∀ r ∈ rnF s b i, Good r := by
  intro b
  induction b with
  | zero => intro i r hr; simp [rnF] at hr
  | succ b ih =>
    intro i r hr
    unfold rnF at hr
    split at hr
    · rcases List.mem_cons.1 hr with h | h
      · rw [h]; exact decode_good s i
      · exact ih _ _ h
    · simp at hr

theorem rn_good (s : ByteArray) : ∀ r ∈ rn s, Good r := rnF_good s _ _

end Go.Proofs.Qxb6619510a
