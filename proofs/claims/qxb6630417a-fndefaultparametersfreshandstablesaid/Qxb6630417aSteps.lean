import Derived.Test.Qxb6630417aProg
import Derived.WalkKit
import Derived.WalkLawsBesides
import Derived.Deep.QuietTactic
import Derived.BigQuiet
namespace Go.Proofs.Qxb6630417a
open Go.RowKit

set_option maxHeartbeats 400000 in
theorem steps_one (b : Nat) (w : World) (h0 : w.cell? ⟨b, 0, none⟩ = some (.int .i64 600000000000)) :
    Calls Try.prog 6 #[.slice (some ⟨b, 0, none⟩) 1 1, .int .i64 3153600000000000000] w fun e w' => e = .returned (.bool true) ∧ ∃ n, w' = w.drewN n := by
  go_enter Try.func6, Try.ntmps6
  go_wp2
  refine wp_loop_rounds 2 ?_
  rw [rounds_succ]
  go_wp2
  go_quiet (fail)
  go_wp2
  rw [rounds_succ]
  go_wp2
  go_ret
  exact ⟨rfl, _, rfl⟩

set_option maxHeartbeats 400000 in
theorem steps_two (b : Nat) (w : World) (h0 : w.cell? ⟨b, 0, none⟩ = some (.int .i64 60000000000)) (h1 : w.cell? ⟨b, 1, none⟩ = some (.int .i64 600000000000)) :
    Calls Try.prog 6 #[.slice (some ⟨b, 0, none⟩) 2 2, .int .i64 3153600000000000000] w fun e w' => e = .returned (.bool true) ∧ ∃ n, w' = w.drewN n := by
  go_enter Try.func6, Try.ntmps6
  go_wp2
  refine wp_loop_rounds 3 ?_
  rw [rounds_succ]
  go_wp2
  go_quiet (fail)
  go_wp2
  rw [rounds_succ]
  go_wp2
  go_quiet (fail)
  go_wp2
  rw [rounds_succ]
  go_wp2
  go_ret
  exact ⟨rfl, _, rfl⟩
end Go.Proofs.Qxb6630417a
