import Derived.Test.Qxb6631232aDoorItoa
import Derived.Test.Qxb6631232aDoorStamps
import Derived.Test.Qxb6631232aDoorZz
namespace Go.Proofs.Qxb6631232aDoor
open Go.RowKit

/-- The bytes T lie at the head of block g. -/
def Rd (w : World) (g : Nat) (T : List UInt8) : Prop := g < w.heap.size ∧ ∀ j, j < T.length → w.cell? ⟨g, j, none⟩ = some (.int .u8 ((T.getD j 0).toNat : Int))
theorem Rd.on {w w' : World} {g : Nat} {T : List UInt8} (h : Rd w g T) {C : Nat} (hb : Below C w w') (hC : w.heap.size ≤ C) : Rd w' g T :=
  ⟨Nat.lt_of_lt_of_le h.1 hb.size, fun k hk => (hb.cell (show g < C from Nat.lt_of_lt_of_le h.1 hC)).trans (h.2 k hk)⟩
theorem Ow.rd {B : Nat} {v : Value} {T : List UInt8} {w : World} (h : Ow B v T w) (h0 : 0 < T.length) : ∃ g cap, v = .slice (some ⟨g, 0, none⟩) T.length cap ∧ T.length ≤ cap ∧ cap ≤ maxLen ∧ B ≤ g ∧ Rd w g T := by
  obtain ⟨h1, h2⟩ := h
  rcases h2 with ⟨_, h2⟩ | ⟨g, cap, cur, rfl, hB, hg, hc, hm, hs, ht⟩
  · omega
  · refine ⟨g, cap, rfl, hc, hm, hB, (Array.getElem?_eq_some_iff.1 hg).1, fun j hj => ?_⟩
    rw [cell_of_row _ _ _ _ _ _ hg]
    have e : (cur.toList.take (T.length * 1))[j]? = cur[j]? := by rw [List.getElem?_take, if_pos (by omega)]; simp
    rw [← e, ht]
    simp [Lib.byteCells, hj]
theorem getD_drop (T : List UInt8) (i j : Nat) (hj : j < (T.drop i).length) : (T.drop i)[j] = T.getD (i + j) 0 := by
  have h : i + j < T.length := by simp at hj; omega
  simp [List.getD, h]
/-- 'string(b[o:])'. -/
theorem Rd.conv {w : World} {g : Nat} {T : List UInt8} (h : Rd w g T) (i off n cap : Nat) (hn : n = T.length - i) (ho : 0 < n → off = i) : (convert 27 9 (.slice (some ⟨g, off, none⟩) n cap)).run Tryd.prog w = .ok (.string ⟨(T.drop i).toArray⟩) w := by
  have e : n = (T.drop i).length := by simp [hn]
  rw [e]
  refine run_convert_bytes_back w 27 9 5 ⟨g, off, none⟩ cap (T.drop i) Tryd.underlying27 Tryd.underlying5 Tryd.underlying9 (fun j hj => ?_)
  have hadd : (⟨g, off, none⟩ : Addr).add j = ⟨g, off + j, none⟩ := by unfold Addr.add; split <;> simp_all
  rw [hadd, ho (by simp at hj; omega), h.2 _ (by simp at hj; omega), getD_drop]
/-- 'b[i:]'. -/
theorem cut_at (g n cap i : Nat) (hi : i ≤ n) (W : World) : (Instr.slice 27 (.slice (some ⟨g, 0, none⟩) n cap) (some (.int .i64 (i : Int))) none none).run Tryd.prog W = .ok (.slice (some ⟨g, if cap = i then 0 else i, none⟩) (n - i) (cap - i)) W := by
  have hel : Tryd.prog.elem 27 = 5 := by kernel_rfl
  have hu : Tryd.prog.underlying 27 = some (.slice (Tryd.prog.elem 27)) := by rw [hel]; exact Tryd.underlying27
  have hadd : (⟨g, 0, none⟩ : Addr).add i = ⟨g, i, none⟩ := by unfold Addr.add; split <;> simp_all
  rw [run_slice_l W 27 _ n cap hu .i64 (i : Int) (by omega) (by omega), hel, Tryd.sizeOf5]
  simp only [Result.andThen, sliced, Int.toNat_natCast, Nat.mul_one, Option.map_some, hadd]
  split <;> rfl
theorem cut_at' (g n cap i : Nat) (hi : i ≤ n) (W : World) : (Instr.sliceAt 27 (.slice (some ⟨g, 0, none⟩) n cap) (some (.int .i64 (i : Int))) none none).run Tryd.prog W = .ok (.slice (some ⟨g, if cap = i then 0 else i, none⟩) (n - i) (cap - i)) W := by
  have hel : Tryd.prog.elem 27 = 5 := by kernel_rfl
  rw [run_sliceAt_slice W 27 _ _ _ _ (by rw [hel]; exact Tryd.underlying27)]
  exact cut_at g n cap i hi W

set_option maxHeartbeats 1000000 in
/-- namingB1HasPrefix, at a prefix. -/
theorem pre_any (g n cap h m cbp : Nat) (T P R : List UInt8) (w : World) (hT : Rd w g T) (hP : Rd w h P) (e : T = P ++ R) (hn : n = T.length) (hm : m = P.length) (hl : n ≤ 1099511627776) :
    Calls Tryd.prog 10 #[.slice (some ⟨g, 0, none⟩) n cap, .slice (some ⟨h, 0, none⟩) m cbp] w fun e w' => e = .returned (.bool true) ∧ Below w.heap.size w w' := by
  have hmn : m ≤ n := by rw [hn, hm, e]; simp
  have HT := hidden hT
  have HP := hidden hP
  have HE : Hid (∀ j, j < m → (T.getD j 0) = (P.getD j 0)) := fun j hj => by
    rw [e]; simp only [List.getD]; rw [List.getElem?_append_left (by omega)]
  have HN : Hid (n = T.length ∧ m = P.length) := ⟨hn, hm⟩
  clear hT hP e hn hm
  go_enter Tryd.func10, Tryd.ntmps10
  go_wp2
  go_loopw [5] (fun iv wr => ∃ k : Nat, k ≤ m ∧ iv = .int .i64 k ∧ Hid (Below w.heap.size w wr)) (fun iv _ => m - (intOf iv).toNat)
  case atStart => exact ⟨0, Nat.zero_le _, rfl, Below.refl _ _⟩
  case round =>
    obtain ⟨k, hk, rfl, hinv⟩ := hrel
    by_cases hlt : k < m
    · obtain ⟨c, hc⟩ : ∃ c, c = P.getD k 0 := ⟨_, rfl⟩
      have e1 := (HT.out.on hinv.out (Nat.le_refl _)).2 k (by have := HN.out; omega)
      have e2 := (HP.out.on hinv.out (Nat.le_refl _)).2 k (by have := HN.out; omega)
      rw [HE.out k hlt] at e1
      rw [← hc] at e1 e2
      clear hc
      go_wp2
      go_quiet (fail)
      go_wp2
      go_roundw
      case rel => exact ⟨k + 1, by omega, by go_num, hinv.out.trans ⟨rfl, rfl, rfl, Nat.le_refl _, fun _ _ => rfl⟩⟩
      case measure => simp [intOf]; omega
    · go_wp2
      go_ret
      exact ⟨rfl, hinv.out⟩
end Go.Proofs.Qxb6631232aDoor
