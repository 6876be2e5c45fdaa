import Derived.Test.Qxb6630417aDefault
import Derived.Test.Qxb6630417aSteps
namespace Go.Proofs.Qxb6630417a
open Go.RowKit

theorem hidden {p : Prop} (h : p) : Hid p := h
theorem dpc_at (b1 b2 : Nat) : (dpc b1 b2)[19]? = some (Value.float .f64 4606281698874543309) ∧ (dpc b1 b2)[20]? = some (Value.slice (some ⟨b1, 0, none⟩) 2 2) ∧ (dpc b1 b2)[21]? = some (Value.slice (some ⟨b2, 0, none⟩) 1 1) ∧ (dpc b1 b2)[22]? = some (Value.int .i64 36500) ∧ (dpc b1 b2)[23]? = some (Value.bool true) := by
  simp [dpc, wts]
theorem dpc_wt (b1 b2 k : Nat) (h : k < 19) : (dpc b1 b2)[k]? = some (Value.float .f64 (wts.getD k 0)) := by
  have hl : k < (wts.map (Value.float .f64)).length := by simp [wts]; omega
  simp only [dpc, List.getElem?_toArray]
  rw [List.getElem?_append_left hl, List.getElem?_map, List.getElem?_eq_getElem (by simpa using hl)]
  simp [List.getD, List.getElem?_eq_getElem (show k < wts.length by simpa using hl)]

theorem mk2 : ∀ w, (Instr.makeSlice 28 (.int .i64 2) (.int .i64 2)).run Try.prog w = .ok (.slice (some ⟨w.heap.size, 0, none⟩) 2 2) (w.alloc (.cells #[.int .i64 0, .int .i64 0] 2)) := fun _ => by kernel_rfl
theorem mk1 : ∀ w, (Instr.makeSlice 28 (.int .i64 1) (.int .i64 1)).run Try.prog w = .ok (.slice (some ⟨w.heap.size, 0, none⟩) 1 1) (w.alloc (.cells #[.int .i64 0] 2)) := fun _ => by kernel_rfl
theorem ord1 : FloatKind.f64.format.order 4606281698874543309 0 = some .gt := by kernel_rfl
theorem ord2 : FloatKind.f64.format.order 4606281698874543309 4607182418800017408 = some .lt := by kernel_rfl

theorem wts_ord : ∀ k : Nat, k < 19 → FloatKind.f64.format.order (wts.getD k 0) 0 = some .gt ∧ FloatKind.f64.format.order (wts.getD k 0) 9218868437227405311 = some .lt := by decide +kernel
theorem wt_ok (b1 b2 : Nat) (W : World) (q : Nat) (g0 : W.heap[q]? = some (.cells (dpc b1 b2) 26 (0, 0))) (k : Nat) (hk : k < 19) :
    ∃ x, W.cell? ⟨q, k, none⟩ = some (.float .f64 x) ∧ FloatKind.f64.format.order x 0 = some .gt ∧ FloatKind.f64.format.order x 9218868437227405311 = some .lt :=
  ⟨_, (cell_of_row W q k _ _ _ g0).trans (dpc_wt b1 b2 k hk), wts_ord k hk⟩

set_option maxHeartbeats 1000000 in
theorem valid_walk (w : World) :
    Calls Try.prog 3 #[] w fun e w' => e = .returned (.bool true) ∧ Below w.heap.size w w' := by
  have m1 := mk1
  have m2 := mk2
  have o1 := ord1
  have o2 := ord2
  go_enter Try.func3, Try.ntmps3
  go_wp2_with (go_at_call 5; refine (default_any _).mono ?_; rintro e w1 ⟨rfl, hz, h1, h2, hb⟩; refine Hid.out ?_)
  refine hidden ?_
  go_wp2_with (refine wpList_store_row rfl 26 (.tmp 1) (.tmp 9) rfl w1.heap.size (dpc (w.heap.size + 1) (w.heap.size + 1 + 1)) rfl rfl 26 z26 (heap_alloc_last _ _) (by rw [dpc_size]; exact info26) (by rw [dpc_size]; exact z26_size) (dpc_one _ _) ?_; refine Hid.out ?_)
  refine hidden ?_
  rw [show (w1.alloc (.cells #[Value.float .f64 0, Value.float .f64 0, Value.float .f64 0, Value.float .f64 0, Value.float .f64 0, Value.float .f64 0, Value.float .f64 0, Value.float .f64 0, Value.float .f64 0, Value.float .f64 0, Value.float .f64 0, Value.float .f64 0, Value.float .f64 0, Value.float .f64 0, Value.float .f64 0, Value.float .f64 0, Value.float .f64 0, Value.float .f64 0, Value.float .f64 0, Value.float .f64 0, Value.slice none 0 0, Value.slice none 0 0, Value.int .i64 0, Value.bool false] 26)).setRow w1.heap.size (dpc (w.heap.size + 1) (w.heap.size + 1 + 1)) = w1.alloc (.cells (dpc (w.heap.size + 1) (w.heap.size + 1 + 1)) 26) from World.setRow_alloc_new _ _ _ _]
  have g0 : (w1.alloc (.cells (dpc (w.heap.size + 1) (w.heap.size + 1 + 1)) 26)).heap[w1.heap.size]? = some (.cells (dpc (w.heap.size + 1) (w.heap.size + 1 + 1)) 26 (0, 0)) := heap_alloc_last _ _
  have g1 : (w1.alloc (.cells (dpc (w.heap.size + 1) (w.heap.size + 1 + 1)) 26)).heap[w.heap.size + 1]? = some (.cells #[.int .i64 60000000000, .int .i64 600000000000] 29 (0, 0)) := (Below.heap_alloc _ _ _ (by omega)).trans h1
  have g2 : (w1.alloc (.cells (dpc (w.heap.size + 1) (w.heap.size + 1 + 1)) 26)).heap[w.heap.size + 1 + 1]? = some (.cells #[.int .i64 600000000000] 29 (0, 0)) := (Below.heap_alloc _ _ _ (by omega)).trans h2
  have gb : Below w.heap.size w (w1.alloc (.cells (dpc (w.heap.size + 1) (w.heap.size + 1 + 1)) 26)) := hb.alloc (by have := hb.size; omega) _
  have gz : w1.heap.size < (w1.alloc (.cells (dpc (w.heap.size + 1) (w.heap.size + 1 + 1)) 26)).heap.size := by simp
  generalize w1.alloc (.cells (dpc (w.heap.size + 1) (w.heap.size + 1 + 1)) 26) = W at g0 g1 g2 gb gz ⊢
  generalize w1.heap.size = q at hz g0 gz ⊢
  clear h1 h2 hb
  obtain ⟨d19, d20, d21, d22, d23⟩ := dpc_at (w.heap.size + 1) (w.heap.size + 1 + 1)
  have c19 := (cell_of_row W q 19 _ _ _ g0).trans d19
  have c20 := (cell_of_row W q 20 _ _ _ g0).trans d20
  have c21 := (cell_of_row W q 21 _ _ _ g0).trans d21
  have c22 := (cell_of_row W q 22 _ _ _ g0).trans d22
  have e0 : W.cell? ⟨w.heap.size + 1, 0, none⟩ = some (.int .i64 60000000000) := cell_of_row W _ 0 _ _ _ g1
  have e1 : W.cell? ⟨w.heap.size + 1, 1, none⟩ = some (.int .i64 600000000000) := cell_of_row W _ 1 _ _ _ g1
  have e2 : W.cell? ⟨w.heap.size + 1 + 1, 0, none⟩ = some (.int .i64 600000000000) := cell_of_row W _ 0 _ _ _ g2
  have G0 := hidden g0
  have GB := hidden gb
  clear d19 d20 d21 d22 d23 g0 g1 g2 gb
  have hq1 : w.heap.size + 1 < W.heap.size := by omega
  have hq2 : w.heap.size + 1 + 1 < W.heap.size := by omega
  go_wp2
  refine wp_loop_rounds 3 ?_
  rw [rounds_succ]
  go_wp2
  rw [rounds_succ]
  go_wp2
  rw [rounds_succ]
  go_wp2
  refine wp_loop_rounds 2 ?_
  rw [rounds_succ]
  go_wp2
  rw [rounds_succ]
  go_wp2_with fail
  refine (steps_two _ _ ?_ ?_).mono ?_
  · go_simp
  · go_simp
  rintro e w' ⟨rfl, n1, rfl⟩
  go_wp2_with fail
  refine (steps_one _ _ ?_).mono ?_
  · go_simp
  rintro e w' ⟨rfl, n2, rfl⟩
  go_wp2
  go_loop [7] (fun i => ∃ k : Nat, k ≤ 19 ∧ i = .int .i64 k) (fun i => 19 - (intOf i).toNat)
  case atStart => exact ⟨0, Nat.zero_le _, rfl⟩
  case round =>
    obtain ⟨k, hk, rfl⟩ := hrel
    by_cases hlt : k < 19
    · obtain ⟨x, hx, hgt, hle⟩ := wt_ok _ _ W q G0.out k hlt
      go_wp2
      go_round
      case rel => exact ⟨k + 1, by omega, by go_num⟩
      case measure => simp [intOf]; omega
    · go_wp2
      go_ret
      exact ⟨rfl, below_drewN ((GB.out.alloc (by omega) _).alloc (by simp; omega) _) _⟩
end Go.Proofs.Qxb6630417a
