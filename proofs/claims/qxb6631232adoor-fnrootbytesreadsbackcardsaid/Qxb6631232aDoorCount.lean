import Derived.Test.Qxb6631232aDoorText
import Derived.WalkSpells
namespace Go.Proofs.Qxb6631232aDoor
open Go.RowKit

theorem eql_nil (w : World) (a : Option Addr) (n c : Nat) : (binOp .eql 22 (.slice a n c) (.slice none 0 0)).run Tryd.prog w = .ok (.bool a.isNone) w := Lib.run_eql_slice_nil w 22 36 a n c 0 0 Tryd.underlying22

set_option maxHeartbeats 400000 in
/-- namingB1AddBytes. -/
theorem add_any (a : Option Addr) (n cap : Nat) (G : List (ByteArray × Int)) (t0 : Int) (w : World) (hn : G.length = n) (hG : Gs w a G) (h0 : 0 ≤ t0) (h1 : t0 ≤ 1048576) (hlen : n ≤ 1048576) (hsz : ∀ k, k < G.length → (nm G k).size ≤ 1048576) :
    Calls Tryd.prog 6 #[.slice a n cap, .int .i64 t0] w fun e w' => ∃ r : Int, e = .returned (.int .i64 r) ∧ (r ≤ 1048576 → r = t0 + wt G) ∧ w' = w := by
  subst hn
  rcases Nat.eq_zero_or_pos G.length with hz | hp
  · obtain rfl : G = [] := List.eq_nil_of_length_eq_zero hz
    go_enter Tryd.func6, Tryd.ntmps6
    go_wp2
    refine wp_loop_rounds 1 ?_
    rw [rounds_succ]
    go_wp2
    go_ret
    exact ⟨_, rfl, fun _ => by simp [wt], rfl⟩
  · obtain ⟨g, off, rfl, hg, hc⟩ := hG hp
    have HC := hidden hc
    have HS := hidden hsz
    clear hc hsz hG
    go_enter Tryd.func6, Tryd.ntmps6
    go_wp2
    go_loop [1, 5] (fun tv iv => ∃ (k : Nat) (t : Int), k ≤ G.length ∧ iv = .int .i64 k ∧ tv = .int .i64 t ∧ 0 ≤ t ∧ t ≤ 1048576 ∧ Hid (t = t0 + wt (G.take k))) (fun _ iv => G.length - (intOf iv).toNat)
    case atStart => exact ⟨0, t0, Nat.zero_le _, rfl, rfl, h0, h1, show t0 = _ by simp [wt]⟩
    case round =>
      obtain ⟨k, t, hk, rfl, rfl, t1, t2, ht⟩ := hrel
      by_cases hlt : k < G.length
      · obtain ⟨x, hx⟩ : ∃ x, x = nm G k := ⟨_, rfl⟩
        have e1 := (HC.out k hlt).1
        have hxs := HS.out k hlt
        have hstep := wt_step hlt
        have hmono := wt_take G (k + 1)
        rw [← hx] at e1 hxs hstep
        have HST := hidden hstep
        clear hx hstep
        by_cases hov : t + (24 + (x.size : Int)) ≤ 1048576
        · go_wp2
          go_round
          case rel => exact ⟨k + 1, _, by omega, by go_num, rfl, by omega, by omega, by have h3 := ht.out; have h4 := HST.out; show _ = _; omega⟩
          case measure => simp [intOf]; omega
        · go_wp2
          go_ret
          exact ⟨_, rfl, fun h => by omega, rfl⟩
      · have e : G.take k = G := List.take_of_length_le (by omega)
        rw [e] at ht
        clear e
        go_wp2
        go_ret
        exact ⟨_, rfl, fun _ => ht.out, rfl⟩
end Go.Proofs.Qxb6631232aDoor
