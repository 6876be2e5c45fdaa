import Derived.Test.Qxb6630458aParse
import Derived.Deep.OwnRows
namespace Go.Proofs.Qxb6630458a
open Go.RowKit

/-- zzDecimal's first loop: c is left to write, the digits written lie in buf[i:]. -/
def DecInv (w : World) (u c : Int) (i : Nat) (wr : World) : Prop :=
  ∃ (ds : List Int) (cs : Array Value), i + ds.length = 20 ∧ u = c * p10 ds.length + vl 0 ds ∧ alld ds ∧ (c = 0 → ds.head? ≠ some 48) ∧
    wr.heap[w.heap.size]? = some (.cells cs 33 (0, 0)) ∧ cs.size = 20 ∧ (∀ j, j < ds.length → cs[i + j]? = some (.int .u8 (ds[j]?.getD 0))) ∧ Below w.heap.size w wr ∧ wr.heap.size = w.heap.size + 1

theorem DecInv.start (w : World) (u : Int) (hu : 1 ≤ u) (cs : Array Value) (hcs : cs.size = 20) : DecInv w u u 20 (w.alloc (.cells cs 33)) :=
  ⟨[], cs, rfl, by simp [p10, vl], alld_nil, fun h => by omega, heap_alloc_new _ _, hcs, fun j hj => by simp at hj, (Below.refl _ _).alloc (Nat.le_refl _) _, by simp⟩

theorem DecInv.room {w wr : World} {u c : Int} {i : Nat} (h : DecInv w u c i wr) (hc : 1 ≤ c) (hu : u ≤ 18446744073709551615) : ∃ m, i = m + 1 ∧ m < 20 ∧ (∃ v, wr.cell? ⟨w.heap.size, m, none⟩ = some v) ∧ wr.frozen? ⟨w.heap.size, m, none⟩ = false := by
  obtain ⟨ds, cs, h1, h2, h3, h4, h5, h6, h7, h8, h9⟩ := h
  have hr := dec_room h2 h3 hu hc
  refine ⟨i - 1, by omega, by omega, ⟨cs[i - 1]'(by omega), ?_⟩, frozen_of_row _ _ _ _ _ h5⟩
  rw [cell_of_row _ _ _ _ _ _ h5]
  exact Array.getElem?_eq_getElem _

theorem DecInv.step {w wr : World} {u c : Int} {m : Nat} (h : DecInv w u c (m + 1) wr) (hc : 1 ≤ c) : DecInv w u (c / 10) m (wr.setCell ⟨w.heap.size, m, none⟩ (.int .u8 (48 + c % 10))) := by
  obtain ⟨ds, cs, h1, h2, h3, h4, h5, h6, h7, h8, h9⟩ := h
  refine ⟨(48 + c % 10) :: ds, cs.setIfInBounds m (.int .u8 (48 + c % 10)), by simp; omega, dec_step h2, dec_alld h3, fun h => dec_head hc h, heap_setCell_same _ _ _ _ _ _ h5, by simp [h6], ?_, h8.setCell (Nat.le_refl _) _, by simpa [World.setCell] using h9⟩
  intro j hj
  rw [Array.getElem?_setIfInBounds]
  cases j with
  | zero => rw [if_pos (by simp), if_pos (by omega)]; simp
  | succ j =>
    rw [if_neg (by omega), show m + (j + 1) = m + 1 + j by omega, h7 j (by simpa using hj)]
    simp

theorem info5 : (Try.prog.info? 5).map (fun i => (i.zero, i.size, i.bytes)) = some (some (.int .u8 0), 1, 1) := by kernel_rfl

/-- zzDecimal's second loop: k digits have gone over into the new row. -/
def OutInv (w : World) (ds : List Int) (i k : Nat) (wr : World) : Prop :=
  ∃ (cs co : Array Value), i + ds.length = 20 ∧ wr.heap[w.heap.size]? = some (.cells cs 33 (0, 0)) ∧ (∀ j, j < ds.length → cs[i + j]? = some (.int .u8 (ds[j]?.getD 0))) ∧
    wr.heap[w.heap.size + 1]? = some (.cells co 5 (0, 0)) ∧ co.size = ds.length ∧ (∀ j, j < k → co[j]? = some (.int .u8 (ds[j]?.getD 0))) ∧ Below w.heap.size w wr ∧ wr.heap.size = w.heap.size + 2

theorem OutInv.start {w wr : World} {ds : List Int} {i : Nat} {cs : Array Value} (h1 : i + ds.length = 20) (h5 : wr.heap[w.heap.size]? = some (.cells cs 33 (0, 0))) (h7 : ∀ j, j < ds.length → cs[i + j]? = some (.int .u8 (ds[j]?.getD 0))) (h8 : Below w.heap.size w wr) (h9 : wr.heap.size = w.heap.size + 1) :
    OutInv w ds i 0 (wr.alloc (.cells (madeCells #[.int .u8 0] ds.length) 5)) :=
  ⟨cs, _, h1, (Below.heap_alloc _ _ _ (by omega)).trans h5, h7, by rw [← h9]; exact heap_alloc_new _ _, size_madeCells _ _, fun j hj => by omega, h8.alloc (by omega) _, by simp [h9]⟩

theorem OutInv.look {w wr : World} {ds : List Int} {i k : Nat} (h : OutInv w ds i k wr) (hk : k < ds.length) :
    wr.cell? ⟨w.heap.size, i + k, none⟩ = some (.int .u8 (ds[k]?.getD 0)) ∧ (∃ v, wr.cell? ⟨w.heap.size + 1, k, none⟩ = some v) ∧ wr.frozen? ⟨w.heap.size + 1, k, none⟩ = false := by
  obtain ⟨cs, co, h1, h2, h3, h4, h5, h6, h7, h8⟩ := h
  refine ⟨by rw [cell_of_row _ _ _ _ _ _ h2]; exact h3 k hk, ⟨co[k]'(by omega), ?_⟩, frozen_of_row _ _ _ _ _ h4⟩
  rw [cell_of_row _ _ _ _ _ _ h4]
  exact Array.getElem?_eq_getElem _

theorem OutInv.step {w wr : World} {ds : List Int} {i k : Nat} (h : OutInv w ds i k wr) (hk : k < ds.length) : OutInv w ds i (k + 1) (wr.setCell ⟨w.heap.size + 1, k, none⟩ (.int .u8 (ds[k]?.getD 0))) := by
  obtain ⟨cs, co, h1, h2, h3, h4, h5, h6, h7, h8⟩ := h
  refine ⟨cs, co.setIfInBounds k (.int .u8 (ds[k]?.getD 0)), h1, (heap_setCell_other _ _ _ _ (by simp)).trans h2, h3, heap_setCell_same _ _ _ _ _ _ h4, by simp [h5], ?_, h7.setCell (by simp) _, by simpa [World.setCell] using h8⟩
  intro j hj
  rw [Array.getElem?_setIfInBounds]
  by_cases e : k = j
  · rw [if_pos e, if_pos (by omega), e]
  · rw [if_neg e]; exact h6 j (by omega)

theorem bytes_of_alld {ds : List Int} (h : alld ds) (k : Nat) : 0 ≤ ds[k]?.getD 0 ∧ ds[k]?.getD 0 ≤ 255 := by
  rcases Nat.lt_or_ge k ds.length with h1 | h1
  · have := h _ (List.getElem_mem h1)
    rw [List.getElem?_eq_getElem h1]
    simp; omega
  · rw [List.getElem?_eq_none h1]; simp

theorem OutInv.ends {w wr : World} {ds : List Int} {i : Nat} (h : OutInv w ds i ds.length wr) (hd : alld ds) : Bs wr (some ⟨w.heap.size + 1, 0, none⟩) ds ∧ Below w.heap.size w wr := by
  obtain ⟨cs, co, h1, h2, h3, h4, h5, h6, h7, h8⟩ := h
  exact ⟨⟨bytes_of_alld hd, fun _ => ⟨_, 0, rfl, by omega, fun k hk => by rw [cell_of_row _ _ _ _ _ _ h4, Nat.zero_add]; exact h6 k hk⟩⟩, h7⟩

set_option maxHeartbeats 400000 in
theorem dec_pos (u : Int) (w : World) (h0 : 1 ≤ u) (h1 : u ≤ 18446744073709551615) :
    Calls Try.prog 9 #[.int .u64 u] w fun e w' => ∃ (g : Nat) (ds : List Int), e = .returned (.slice (some ⟨g, 0, none⟩) ds.length ds.length) ∧ Canon ds ∧ vl 0 ds = u ∧ ds.length ≤ 20 ∧ Bs w' (some ⟨g, 0, none⟩) ds ∧ Below w.heap.size w w' := by
  have hne : (u == 0) = false := by rw [beq_eq_false_iff_ne]; omega
  go_enter Try.func9, Try.ntmps9
  go_wp2
  go_loopw [0, 4] (fun uv iv wr => ∃ (c : Int) (i : Nat), uv = .int .u64 c ∧ iv = .int .i64 i ∧ 0 ≤ c ∧ c ≤ 18446744073709551615 ∧ i ≤ 20 ∧ DecInv w u c i wr) (fun uv _ _ => (intOf uv).toNat)
  case atStart => exact ⟨u, 20, rfl, rfl, by omega, by omega, Nat.le_refl _, DecInv.start w u h0 _ rfl⟩
  case round =>
    obtain ⟨c, i, rfl, rfl, c0, c1, hi, hinv⟩ := hrel
    by_cases hc : 1 ≤ c
    · obtain ⟨m, rfl, hm, ⟨v, hcell⟩, hfr⟩ := hinv.room hc h1
      have hst := hidden (hinv.step hc)
      clear hinv
      go_wp2
      go_roundw
      case rel => exact ⟨_, m, rfl, rfl, by omega, by omega, by omega, hst.out⟩
      case measure => simp [intOf]; omega
    · obtain ⟨ds, cs, e1, e2, e3, e4, e5, e6, e7, e8, e9⟩ := hinv
      obtain rfl : c = 0 := by omega
      obtain ⟨hcan, hval⟩ := dec_end e2 h0 e3 (e4 rfl)
      have S0 := hidden (OutInv.start e1 e5 e7 e8 e9)
      have HV := hidden hval
      have D := hidden e1
      have hds : (ds.length : Int) ≤ 20 := by omega
      have hmk : ∀ W : World, (Instr.makeSlice 22 (.int .i64 (20 - (i : Int))) (.int .i64 (20 - (i : Int)))).run Try.prog W = .ok (.slice (some ⟨W.heap.size, 0, none⟩) ds.length ds.length) (W.alloc (.cells (madeCells #[.int .u8 0] ds.length) 5)) := by
        intro W
        rw [show (20 - (i : Int)) = (ds.length : Int) by omega]
        exact run_make_row' 22 5 (.int .u8 0) 1 Try.underlying22 info5 rfl _ _ _ (by omega) (by omega) W
      clear e1 e2 e4 e5 e6 e7 e8 hval
      go_wp2
      go_loopw [6] (fun jv wr => ∃ k : Nat, jv = .int .i64 k ∧ k ≤ ds.length ∧ OutInv w ds i k wr) (fun jv _ => ds.length - (intOf jv).toNat)
      case atStart => exact ⟨0, rfl, Nat.zero_le _, S0.out⟩
      case round =>
        obtain ⟨k, rfl, hk, hinv⟩ := hrel
        by_cases hlt : k < ds.length
        · obtain ⟨l1, ⟨v, l2⟩, l3⟩ := hinv.look hlt
          have hst0 := hinv.step hlt
          have hD := D.out
          obtain ⟨x, hx⟩ : ∃ x : Int, x = ds[k]?.getD 0 := ⟨_, rfl⟩
          rw [← hx] at l1 hst0
          have hst := hidden hst0
          clear hinv hx hst0
          go_wp2
          go_roundw
          case rel => exact ⟨k + 1, by go_num, by omega, hst.out⟩
          case measure => simp [intOf]; omega
        · obtain rfl : k = ds.length := by omega
          obtain ⟨f1, f2⟩ := hinv.ends e3
          go_wp2
          go_ret
          exact ⟨_, ds, rfl, hcan, HV.out, by omega, f1, f2⟩

set_option maxHeartbeats 400000 in
theorem dec_any (u : Int) (w : World) (h0 : 0 ≤ u) (h1 : u ≤ 18446744073709551615) :
    Calls Try.prog 9 #[.int .u64 u] w fun e w' => ∃ (g : Nat) (ds : List Int), e = .returned (.slice (some ⟨g, 0, none⟩) ds.length ds.length) ∧ Canon ds ∧ vl 0 ds = u ∧ ds.length ≤ 20 ∧ Bs w' (some ⟨g, 0, none⟩) ds ∧ Below w.heap.size w w' := by
  rcases Int.lt_or_le 0 u with h | h
  · exact dec_pos u w h h1
  · obtain rfl : u = 0 := by omega
    go_enter Try.func9, Try.ntmps9
    go_wp2
    go_ret
    refine ⟨_, [48], rfl, canon_zero.1, canon_zero.2, by simp, ⟨bytes_of_alld canon_zero.1.2.1, fun _ => ⟨_, 0, rfl, by simp, fun k hk => ?_⟩⟩, (Below.refl _ _).alloc (Nat.le_refl _) _⟩
    obtain rfl : k = 0 := by simp at hk; omega
    exact cell_of_row _ _ 0 _ _ _ (heap_alloc_new _ _)
end Go.Proofs.Qxb6630458a
