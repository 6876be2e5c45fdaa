import Derived.Test.Qxb6631232aDoorParse
import Derived.Test.Qxb6631232aDoorBundle
namespace Go.Proofs.Qxb6631232aDoor
open Go.RowKit

/-- Reading a string's byte. -/
theorem idx_at {S : ByteArray} {n : Nat} (h : n < S.size) (W : World) : (Instr.index 9 (.string S) (.int .i64 (n : Int))).run Tryd.prog W = .ok (.int .u8 ((S.data.toList.getD n 0).toNat : Int)) W := by
  rw [run_index_string W 9 S .i64 n Tryd.underlying9, dif_pos ⟨by omega, by omega⟩]
  have e : S[(n : Int).toNat]'(by omega) = S.data.toList.getD n 0 := by
    have h2 : n < S.data.toList.length := by simpa using h
    simp only [Int.toNat_natCast, List.getD, List.getElem?_eq_getElem h2, Option.getD_some]
    rfl
  rw [e]
/-- A name without a blank and without a line's end. -/
def Cn (x : ByteArray) : Prop := ∀ j, j < x.size → x.data.toList.getD j 0 ≠ 32 ∧ x.data.toList.getD j 0 ≠ 10
/-- A line's text stands in T from P on. -/
def At (T : List UInt8) (P : Nat) (x : ByteArray) (t : Int) : Prop := ∃ A B, T = A ++ (line x t ++ B) ∧ A.length = P
theorem getD_app (A B : List UInt8) (j : Nat) : (A ++ B).getD (A.length + j) 0 = B.getD j 0 := by
  simp [List.getD, List.getElem?_append_right]
theorem getD_left (A B : List UInt8) {j : Nat} (h : j < A.length) : (A ++ B).getD j 0 = A.getD j 0 := by
  simp only [List.getD, List.getElem?_append_left h]
theorem vw_of {w : World} {g : Nat} {A D B : List UInt8} (h : Rd w g (A ++ (D ++ B))) : Vw w g A.length D := fun j hj => by
  rw [h.2 _ (by simp; omega), getD_app, getD_left _ _ hj]
theorem itoa_no10 (t : Int) : ∀ c ∈ Lib.itoa t, c ≠ 10 := by
  intro c hc e
  by_cases h : t < 0
  · rw [itoa_neg_eq h] at hc
    rcases List.mem_cons.1 hc with h1 | h1
    · rw [e] at h1; exact absurd h1 (by decide)
    · have := digits_all _ c h1; rw [e] at this; unfold isDig at this; revert this; decide
  · rw [itoa_pos_eq h] at hc
    have := digits_all _ c hc; rw [e] at this; unfold isDig at this; revert this; decide
theorem At.name {T : List UInt8} {P : Nat} {x : ByteArray} {t : Int} (h : At T P x t) {j : Nat} (hj : j < x.size) : T.getD (P + j) 0 = x.data.toList.getD j 0 := by
  obtain ⟨A, B, rfl, rfl⟩ := h
  rw [getD_app, line, List.append_assoc, getD_left _ _ (by simpa using hj)]
theorem At.blank {T : List UInt8} {P : Nat} {x : ByteArray} {t : Int} (h : At T P x t) : T.getD (P + x.size) 0 = 32 := by
  obtain ⟨A, B, rfl, rfl⟩ := h
  have e := getD_app x.data.toList (32 :: (Lib.itoa t ++ [10] ++ B)) 0
  rw [size_list, Nat.add_zero] at e
  rw [getD_app, line, List.append_assoc]
  exact e
theorem At.len {T : List UInt8} {P : Nat} {x : ByteArray} {t : Int} (h : At T P x t) : P + x.size + 1 + (Lib.itoa t).length < T.length := by
  obtain ⟨A, B, rfl, rfl⟩ := h
  simp only [line, List.length_append, List.length_cons, List.length_nil, size_list]
  omega
theorem At.vwNum {T : List UInt8} {P : Nat} {x : ByteArray} {t : Int} (h : At T P x t) {w : World} {g : Nat} (hr : Rd w g T) : Vw w g (P + x.size + 1) (Lib.itoa t) := by
  obtain ⟨A, B, rfl, rfl⟩ := h
  have e : A ++ (line x t ++ B) = (A ++ (x.data.toList ++ [32])) ++ (Lib.itoa t ++ ([10] ++ B)) := by simp [line]
  rw [e] at hr
  have := vw_of hr
  rw [List.length_append, List.length_append, size_list, List.length_singleton, ← Nat.add_assoc] at this
  exact this
theorem At.vwName {T : List UInt8} {P : Nat} {x : ByteArray} {t : Int} (h : At T P x t) {w : World} {g : Nat} (hr : Rd w g T) : Vw w g P x.data.toList := by
  obtain ⟨A, B, rfl, rfl⟩ := h
  have e : A ++ (line x t ++ B) = A ++ (x.data.toList ++ (32 :: (Lib.itoa t ++ ([10] ++ B)))) := by simp [line]
  rw [e] at hr
  exact vw_of hr
theorem At.stop {T : List UInt8} {P : Nat} {x : ByteArray} {t : Int} (h : At T P x t) : T.getD (P + x.size + 1 + (Lib.itoa t).length) 0 = 10 := by
  obtain ⟨A, B, rfl, rfl⟩ := h
  have e : A ++ (line x t ++ B) = (A ++ (x.data.toList ++ [32]) ++ Lib.itoa t) ++ (10 :: B) := by simp [line]
  rw [e]
  have := getD_app (A ++ (x.data.toList ++ [32]) ++ Lib.itoa t) (10 :: B) 0
  rw [Nat.add_zero, List.length_append, List.length_append, List.length_append, size_list, List.length_singleton, ← Nat.add_assoc] at this
  exact this
theorem At.no10 {T : List UInt8} {P : Nat} {x : ByteArray} {t : Int} (h : At T P x t) (hx : Cn x) : ∀ j, P ≤ j → j < P + x.size + 1 + (Lib.itoa t).length → T.getD j 0 ≠ 10 := by
  intro j h1 h2
  rcases Nat.lt_or_ge j (P + x.size) with h3 | h3
  · have := h.name (j := j - P) (by omega)
    rw [show P + (j - P) = j by omega] at this
    rw [this]; exact (hx _ (by omega)).2
  · rcases Nat.lt_or_ge (P + x.size) j with h4 | h4
    · obtain ⟨A, B, rfl, rfl⟩ := h
      have e : A ++ (line x t ++ B) = (A ++ (x.data.toList ++ [32])) ++ (Lib.itoa t ++ (10 :: B)) := by simp [line]
      rw [e]
      have hl : (A ++ (x.data.toList ++ [32])).length = A.length + x.size + 1 := by simp only [List.length_append, size_list, List.length_singleton]; omega
      obtain ⟨i, rfl⟩ : ∃ i, j = (A ++ (x.data.toList ++ [32])).length + i := ⟨j - (A ++ (x.data.toList ++ [32])).length, by omega⟩
      have hi : i < (Lib.itoa t).length := by omega
      rw [getD_app, getD_left _ _ hi]
      have em : (Lib.itoa t).getD i 0 = (Lib.itoa t)[i] := by simp [List.getD, hi]
      rw [em]
      exact itoa_no10 t _ (List.getElem_mem hi)
    · obtain rfl : j = P + x.size := by omega
      rw [h.blank]; decide
/-- 'string(v)', v a view. -/
theorem Vw.conv {w : World} {g o : Nat} {D : List UInt8} (h : Vw w g o D) (n c : Nat) (S : ByteArray) (hn : n = D.length) (hS : S = ⟨D.toArray⟩) : (convert 27 9 (.slice (some ⟨g, o, none⟩) n c)).run Tryd.prog w = .ok (.string S) w := by
  subst hn hS
  refine run_convert_bytes_back w 27 9 5 ⟨g, o, none⟩ c D Tryd.underlying27 Tryd.underlying5 Tryd.underlying9 (fun j hj => ?_)
  rw [add_at, h j hj]
  simp [List.getD, hj]
theorem hdr_line (s : Int) : hdr s = line ⟨root.toArray⟩ s := by simp [hdr, line]
theorem at_hdr (s : Int) (G : List (ByteArray × Int)) : At (hdr s ++ lines G) 0 ⟨root.toArray⟩ s := ⟨[], lines G, by rw [hdr_line]; rfl, rfl⟩
theorem at_group (s : Int) {G : List (ByteArray × Int)} {k : Nat} (hk : k < G.length) : At (hdr s ++ lines G) (hdr s ++ lines (G.take k)).length (nm G k) (st G k) := by
  refine ⟨hdr s ++ lines (G.take k), lines (G.drop (k + 1)), ?_, rfl⟩
  have e : G = G.take (k + 1) ++ G.drop (k + 1) := (List.take_append_drop _ _).symm
  rw [List.append_assoc, ← List.append_assoc (lines (G.take k)), ← lines_step hk, ← lines_append, ← e]
theorem cn_root : Cn ⟨root.toArray⟩ := fun j hj => by
  have : j < 13 := hj
  have h : ∀ i : Fin 13, root.getD i.val 0 ≠ 32 ∧ root.getD i.val 0 ≠ 10 := by decide
  simpa using h ⟨j, this⟩
theorem next_pos (s : Int) {G : List (ByteArray × Int)} {k : Nat} (hk : k < G.length) : (hdr s ++ lines (G.take k)).length + (nm G k).size + 1 + (Lib.itoa (st G k)).length + 1 = (hdr s ++ lines (G.take (k + 1))).length := by
  rw [lines_step hk]
  simp only [List.length_append, line, List.length_cons, List.length_nil, size_list]
  omega
end Go.Proofs.Qxb6631232aDoor
