import Derived.Lib.ItoaNum
import Derived.Lib.ItoaLen
namespace Go.Proofs.Qxb6631232aDoor

/-- An int64. -/
def I64 (t : Int) : Prop := -9223372036854775808 ≤ t ∧ t ≤ 9223372036854775807
/-- The k-th group's name, its stamp. -/
def nm (G : List (ByteArray × Int)) (k : Nat) : ByteArray := (G[k]?.getD (ByteArray.empty, 0)).1
def st (G : List (ByteArray × Int)) (k : Nat) : Int := (G[k]?.getD (ByteArray.empty, 0)).2
/-- A group's line. -/
def line (n : ByteArray) (t : Int) : List UInt8 := n.data.toList ++ 32 :: (Lib.itoa t ++ [10])
def lines (G : List (ByteArray × Int)) : List UInt8 := G.flatMap fun g => line g.1 g.2
def root : List UInt8 := [116, 105, 100, 101, 119, 97, 114, 100, 45, 114, 111, 111, 116]
/-- A root index's first line. -/
def hdr (s : Int) : List UInt8 := root ++ 32 :: (Lib.itoa s ++ [10])
/-- What the law's own count makes of the groups. -/
def wt : List (ByteArray × Int) → Nat
  | [] => 0
  | g :: G => 24 + g.1.size + wt G

theorem lines_append (G H : List (ByteArray × Int)) : lines (G ++ H) = lines G ++ lines H := by simp [lines]
theorem wt_append (G H : List (ByteArray × Int)) : wt (G ++ H) = wt G + wt H := by
  induction G with
  | nil => simp [wt]
  | cons g G ih => simp only [List.cons_append, wt, ih]; omega
theorem take_snoc {G : List (ByteArray × Int)} {k : Nat} (h : k < G.length) : G.take (k + 1) = G.take k ++ [(nm G k, st G k)] := by
  have e : (nm G k, st G k) = G[k] := by unfold nm st; rw [List.getElem?_eq_getElem h]; rfl
  rw [List.take_succ_eq_append_getElem h, e]
theorem lines_step {G : List (ByteArray × Int)} {k : Nat} (h : k < G.length) : lines (G.take (k + 1)) = lines (G.take k) ++ line (nm G k) (st G k) := by
  rw [take_snoc h, lines_append]; simp [lines]
theorem wt_step {G : List (ByteArray × Int)} {k : Nat} (h : k < G.length) : wt (G.take (k + 1)) = wt (G.take k) + (24 + (nm G k).size) := by
  rw [take_snoc h, wt_append]; simp [wt]
theorem wt_take (G : List (ByteArray × Int)) (k : Nat) : wt (G.take k) ≤ wt G := by
  have : wt G = wt (G.take k) + wt (G.drop k) := by rw [← wt_append, List.take_append_drop]
  omega
theorem size_list (n : ByteArray) : n.data.toList.length = n.size := by simp
theorem line_length (n : ByteArray) (t : Int) (h : I64 t) : (line n t).length ≤ 24 + n.size := by
  have := Lib.itoa_length_le t h.1 h.2
  have := size_list n
  simp only [line, List.length_append, List.length_cons, List.length_nil]
  omega
theorem hdr_length (s : Int) (h : I64 s) : (hdr s).length ≤ 36 := by
  have := Lib.itoa_length_le s h.1 h.2
  simp [hdr, root]; omega
theorem st_take {G : List (ByteArray × Int)} (h : ∀ k, I64 (st G k)) (n k : Nat) : I64 (st (G.take n) k) := by
  unfold st
  rw [List.getElem?_take]
  split
  · exact h k
  · simp [I64]
theorem lines_length : ∀ (G : List (ByteArray × Int)), (∀ k, I64 (st G k)) → (lines G).length ≤ wt G
  | [], _ => by simp [lines]
  | g :: G, h => by
    have h0 := line_length g.1 g.2 (by have := h 0; simpa [st] using this)
    have h1 := lines_length G (fun k => by have := h (k + 1); simpa [st] using this)
    rw [show lines (g :: G) = line g.1 g.2 ++ lines G from rfl, List.length_append]
    simp only [wt]; omega
theorem len_wt : ∀ (G : List (ByteArray × Int)), 24 * G.length ≤ wt G
  | [] => by simp [wt]
  | g :: G => by have := len_wt G; simp only [wt, List.length_cons]; omega
theorem nm_wt : ∀ (G : List (ByteArray × Int)) (k : Nat), k < G.length → (nm G k).size ≤ wt G
  | [], k, h => by simp at h
  | g :: G, 0, _ => by simp only [nm, wt]; simp; omega
  | g :: G, k + 1, h => by
    have := nm_wt G k (by simpa using h)
    simp only [wt]
    have e : nm (g :: G) (k + 1) = nm G k := by simp [nm]
    rw [e]; omega
end Go.Proofs.Qxb6631232aDoor
