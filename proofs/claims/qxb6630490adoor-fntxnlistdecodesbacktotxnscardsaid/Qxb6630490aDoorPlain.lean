import Derived.Lib.ItoaNum
import Derived.Lib.ItoaLen
namespace Go.Proofs.Qxb6630490aDoor

/-- An int64. -/
def I64 (t : Int) : Prop := -9223372036854775808 ≤ t ∧ t ≤ 9223372036854775807
/-- One transaction's text: a blank, 'T', the number. -/
def chunk (t : Int) : List UInt8 := 32 :: 84 :: Lib.itoa t
/-- A list's text. -/
def txt (l : List Int) : List UInt8 := l.flatMap chunk

theorem txt_nil : txt [] = [] := rfl
theorem txt_append (l m : List Int) : txt (l ++ m) = txt l ++ txt m := by simp [txt]
theorem txt_one (t : Int) : txt [t] = chunk t := by simp [txt]
theorem chunk_length (t : Int) (h : I64 t) : (chunk t).length ≤ 23 := by
  have := Lib.itoa_length_le t h.1 h.2
  simp [chunk]; omega
theorem txt_length (l : List Int) (h : ∀ k : Nat, I64 (l[k]?.getD 0)) : (txt l).length ≤ 23 * l.length := by
  induction l with
  | nil => simp [txt]
  | cons t l ih =>
    have h0 := chunk_length t (by have := h 0; simpa using this)
    have h1 := ih (fun k => by have := h (k + 1); simpa using this)
    rw [show txt (t :: l) = chunk t ++ txt l from rfl, List.length_append, List.length_cons]
    omega
theorem take_snoc {l : List Int} {k : Nat} (h : k < l.length) : l.take (k + 1) = l.take k ++ [l[k]?.getD 0] := by
  rw [List.take_succ_eq_append_getElem h]; simp [h]
theorem txt_step {l : List Int} {k : Nat} (h : k < l.length) : txt (l.take (k + 1)) = txt (l.take k) ++ chunk (l[k]?.getD 0) := by
  rw [take_snoc h, txt_append, txt_one]
theorem i64_take {l : List Int} (h : ∀ k : Nat, I64 (l[k]?.getD 0)) (n k : Nat) : I64 ((l.take n)[k]?.getD 0) := by
  rw [List.getElem?_take]
  split
  · exact h k
  · simp [I64]
theorem i64_drop {l : List Int} (h : ∀ k : Nat, I64 (l[k]?.getD 0)) (n k : Nat) : I64 ((l.drop n)[k]?.getD 0) := by
  rw [List.getElem?_drop]; exact h _
theorem txt_split {l : List Int} {i : Nat} (h : i < l.length) : txt l = txt (l.take i) ++ chunk (l[i]?.getD 0) ++ txt (l.drop (i + 1)) := by
  rw [← txt_step h, ← txt_append, List.take_append_drop]
end Go.Proofs.Qxb6630490aDoor
