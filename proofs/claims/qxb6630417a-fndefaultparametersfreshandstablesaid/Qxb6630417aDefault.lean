import Derived.Test.Qxb6630417aProg
import Derived.WalkKit
import Derived.WalkLawsBesides
import Derived.Deep.WholeRow
namespace Go.Proofs.Qxb6630417a
open Go.RowKit

/-- The nineteen weights, as the bits of their float64's. -/
def wts : List Nat := [4600923316037897893, 4608010405591509474, 4614327379608840700, 4625022893921389878, 4619786755667129899, 4602989567546935476, 4609255876068458784, 4571953461074874440, 4609640258296654856, 4593253685872485938, 4607269113092844290, 4611413550649931989, 4592590756007337001, 4599004782596638061, 4612293554017120184, 4597508686800425583, 4613914849882973562, 4602827888320312875, 4604138886171840427]
/-- The cells of the default parameters, their two slices in the blocks b1, b2. -/
def dpc (b1 b2 : Nat) : Array Value := (wts.map (Value.float .f64) ++ [Value.float .f64 4606281698874543309, Value.slice (some ⟨b1, 0, none⟩) 2 2, Value.slice (some ⟨b2, 0, none⟩) 1 1, Value.int .i64 36500, Value.bool true]).toArray
/-- The struct's zero cells. -/
def z26 : Array Value := (List.replicate 20 (Value.float .f64 0) ++ [Value.slice none 0 0, Value.slice none 0 0, Value.int .i64 0, Value.bool false]).toArray

theorem info26 : (Try.prog.info? 26).map (·.size) = some 24 := by kernel_rfl
theorem dpc_size (b1 b2 : Nat) : (dpc b1 b2).size = 24 := by simp [dpc, wts]
theorem z26_size : z26.size = 24 := by simp [z26]
theorem dpc_one (b1 b2 : Nat) : (dpc b1 b2).all (·.oneCell') = true := by simp [dpc, wts, Value.oneCell']

theorem heap3 (w : World) (A B C : Obj) : (((w.alloc A).alloc B).alloc C).heap[w.heap.size]? = some A ∧ (((w.alloc A).alloc B).alloc C).heap[w.heap.size + 1]? = some B ∧ (((w.alloc A).alloc B).alloc C).heap[w.heap.size + 1 + 1]? = some C := by
  refine ⟨?_, ?_, ?_⟩
  all_goals
    show (((w.heap.push A).push B).push C)[_]? = _
    simp only [Array.getElem?_push, Array.size_push]
  · rw [if_neg (by omega), if_neg (by omega), if_pos trivial]
  · rw [if_neg (by omega), if_pos trivial]
  · rw [if_pos trivial]

set_option maxHeartbeats 400000 in
theorem default_any (w : World) :
    Calls Try.prog 5 #[] w fun e w' => e = .returned (.agg (dpc (w.heap.size + 1) (w.heap.size + 1 + 1))) ∧ w.heap.size + 2 < w'.heap.size ∧
      w'.heap[w.heap.size + 1]? = some (.cells #[.int .i64 60000000000, .int .i64 600000000000] 29 (0, 0)) ∧ w'.heap[w.heap.size + 1 + 1]? = some (.cells #[.int .i64 600000000000] 29 (0, 0)) ∧ Below w.heap.size w w' := by
  go_enter Try.func5, Try.ntmps5
  go_wp2_with (refine wpList_store_row rfl 26 (.tmp 0) (.tmp 4) rfl w.heap.size (dpc (w.heap.size + 1) (w.heap.size + 1 + 1)) rfl rfl 26 z26 ?hg ?hi ?ho ?h1 ?_)
  case hg => exact (heap3 w _ _ _).1
  case hi => rw [dpc_size]; exact info26
  case ho => rw [dpc_size]; exact z26_size
  case h1 => exact dpc_one _ _
  generalize hW : (((w.alloc _).alloc (Obj.cells #[Value.int IntKind.i64 60000000000, Value.int IntKind.i64 600000000000] 29)).alloc (Obj.cells #[Value.int IntKind.i64 600000000000] 29)) = W
  have hb : Below w.heap.size w W := by rw [← hW]; exact (((Below.refl _ _).alloc (Nat.le_refl _) _).alloc (by simp) _).alloc (by simp; omega) _
  have hz : W.heap.size = w.heap.size + 3 := by rw [← hW]; simp
  have h0 : ∃ c, W.heap[w.heap.size]? = some (.cells c 26 (0, 0)) := by rw [← hW]; exact ⟨_, (heap3 w _ _ _).1⟩
  have h1 : W.heap[w.heap.size + 1]? = some (.cells #[.int .i64 60000000000, .int .i64 600000000000] 29 (0, 0)) := by rw [← hW]; exact (heap3 w _ _ _).2.1
  have h2 : W.heap[w.heap.size + 1 + 1]? = some (.cells #[.int .i64 600000000000] 29 (0, 0)) := by rw [← hW]; exact (heap3 w _ _ _).2.2
  clear hW
  obtain ⟨c, h0⟩ := h0
  refine bodyPost_ret (v := .agg (dpc (w.heap.size + 1) (w.heap.size + 1 + 1))) ?_ rfl ⟨rfl, ?_, ?_, ?_, ?_⟩
  · exact results_cell_row (p := 0) (ty := 26) rfl _ _ w.heap.size 26 _ (0, 0) _ rfl (setRow_heap _ _ _ _ _ _ h0) Try.underlying26 rfl (by rw [dpc_size]; exact info26)
  · simp; omega
  · rw [setRow_other _ _ _ _ (by omega)]; exact h1
  · rw [setRow_other _ _ _ _ (by omega)]; exact h2
  · exact hb.trans ⟨rfl, rfl, rfl, by simp, fun k hk => setRow_other _ _ _ _ (by omega)⟩
end Go.Proofs.Qxb6630417a
