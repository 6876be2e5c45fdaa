import Derived.Test.Qxb6630417aValidWalk
namespace Go.Proofs.Qxb6630417a
open Go.RowKit

theorem ord3 : FloatKind.f64.format.order 4606281698874543309 4606281698874543309 = some .eq := by kernel_rfl

set_option maxHeartbeats 400000 in
theorem doc_any (b1 b2 : Nat) (w : World) (h0 : w.cell? ⟨b1, 0, none⟩ = some (.int .i64 60000000000)) (h1 : w.cell? ⟨b1, 1, none⟩ = some (.int .i64 600000000000)) (h2 : w.cell? ⟨b2, 0, none⟩ = some (.int .i64 600000000000)) (l1 : b1 < w.heap.size) (l2 : b2 < w.heap.size) :
    Calls Try.prog 7 #[.agg (dpc b1 b2)] w fun e w' => e = .returned (.bool true) ∧ w' = w.alloc (.cells (dpc b1 b2) 26) := by
  have o3 := ord3
  obtain ⟨d19, d20, d21, d22, d23⟩ := dpc_at b1 b2
  go_enter Try.func7, Try.ntmps7
  go_wp2
  go_ret
  exact ⟨rfl, rfl⟩

/-- The world behind 'x := DefaultParameters()': the struct in block q, its two slices in b1, b1 + 1, nothing below b1 turned. -/
structure Got (w W : World) (q b1 : Nat) : Prop where
  lo : w.heap.size < b1
  lt : b1 + 1 < q
  sz : q < W.heap.size
  st : W.heap[q]? = some (.cells (dpc b1 (b1 + 1)) 26 (0, 0))
  s1 : W.heap[b1]? = some (.cells #[.int .i64 60000000000, .int .i64 600000000000] 29 (0, 0))
  s2 : W.heap[b1 + 1]? = some (.cells #[.int .i64 600000000000] 29 (0, 0))
  be : Below w.heap.size w W

theorem got {w w1 : World} (hz : w.heap.size + 2 < w1.heap.size) (h1 : w1.heap[w.heap.size + 1]? = some (.cells #[.int .i64 60000000000, .int .i64 600000000000] 29 (0, 0)))
    (h2 : w1.heap[w.heap.size + 1 + 1]? = some (.cells #[.int .i64 600000000000] 29 (0, 0))) (hb : Below w.heap.size w w1) : Got w (w1.alloc (.cells (dpc (w.heap.size + 1) (w.heap.size + 1 + 1)) 26)) w1.heap.size (w.heap.size + 1) :=
  ⟨by omega, by omega, by simp, heap_alloc_last _ _, (Below.heap_alloc _ _ _ (by omega)).trans h1, (Below.heap_alloc _ _ _ (by omega)).trans h2, hb.alloc (by have := hb.size; omega) _⟩

theorem setRow_new (w1 : World) (b1 b2 : Nat) : (w1.alloc (.cells #[Value.float .f64 0, Value.float .f64 0, Value.float .f64 0, Value.float .f64 0, Value.float .f64 0, Value.float .f64 0, Value.float .f64 0, Value.float .f64 0, Value.float .f64 0, Value.float .f64 0, Value.float .f64 0, Value.float .f64 0, Value.float .f64 0, Value.float .f64 0, Value.float .f64 0, Value.float .f64 0, Value.float .f64 0, Value.float .f64 0, Value.float .f64 0, Value.float .f64 0, Value.slice none 0 0, Value.slice none 0 0, Value.int .i64 0, Value.bool false] 26)).setRow w1.heap.size (dpc b1 b2) = w1.alloc (.cells (dpc b1 b2) 26) :=
  World.setRow_alloc_new _ _ _ _
end Go.Proofs.Qxb6630417a
