import Derived.Test.Qxb6630458aDec
import Derived.Deep.QuietTactic
import Derived.BigQuiet
namespace Go.Proofs.Qxb6630458a
open Go.RowKit

set_option maxHeartbeats 400000 in
/-- zzSameBytes, at two slices with the same bytes. -/
theorem same_any (g1 o1 c1 g2 o2 c2 : Nat) (l : List Int) (w : World) (hlen : l.length ≤ 4194304)
    (h1 : ∀ k, k < l.length → w.cell? ⟨g1, o1 + k, none⟩ = some (.int .u8 (l[k]?.getD 0))) (h2 : ∀ k, k < l.length → w.cell? ⟨g2, o2 + k, none⟩ = some (.int .u8 (l[k]?.getD 0))) :
    Calls Try.prog 8 #[.slice (some ⟨g1, o1, none⟩) l.length c1, .slice (some ⟨g2, o2, none⟩) l.length c2] w fun e w' => e = .returned (.bool true) ∧ ∃ n, w' = w.drewN n := by
  have hne : ((l.length : Int) != (l.length : Int)) = false := by simp
  go_enter Try.func8, Try.ntmps8
  go_wp2
  go_loopw [5] (fun i wr => ∃ k n : Nat, k ≤ l.length ∧ i = .int .i64 k ∧ wr = w.drewN n) (fun i _ => l.length - (intOf i).toNat)
  case atStart => exact ⟨0, 0, Nat.zero_le _, rfl, rfl⟩
  case round =>
    obtain ⟨k, n, hk, rfl, rfl⟩ := hrel
    by_cases hlt : k < l.length
    · have e1 := h1 k hlt
      have e2 := h2 k hlt
      obtain ⟨x, hx⟩ : ∃ x : Int, x = l[k]?.getD 0 := ⟨_, rfl⟩
      rw [← hx] at e1 e2
      clear hx h1 h2
      have hi : (k : Int) < (l.length : Int) := by omega
      have hs : (x != x) = false := by simp
      go_wp2
      go_quiet (fail)
      go_wp2
      go_roundw
      case rel => exact ⟨k + 1, _, by omega, by go_num, rfl⟩
      case measure => simp [intOf]; omega
    · go_wp2
      go_ret
      exact ⟨rfl, _, rfl⟩

theorem join_exit {va P : Int} {i k : Nat} (h : P = va * p10 i) (hx : i = k ∨ P = 0) : P = va * p10 k := by
  rcases hx with rfl | hx
  · exact h
  · have h1 := p10_pos i
    have hva : va = 0 := by
      rcases Int.mul_eq_zero.1 (h.symm.trans hx) with h2 | h2
      · exact h2
      · omega
    rw [hx, hva]; simp

theorem join_over {va P L vb : Int} {i k : Nat} (h : P = va * p10 i) (hik : i < k) (hva : 0 ≤ va) (hvb : 0 ≤ vb) (hP : L / 10 < P) : ¬ va * p10 k + vb ≤ L := by
  have h1 := p10_mono (show i + 1 ≤ k by omega)
  have h2 := Int.mul_le_mul_of_nonneg_left h1 hva
  have h3 : va * p10 (i + 1) = 10 * P := by rw [h, p10, ← Int.mul_assoc, ← Int.mul_assoc, Int.mul_comm va 10]
  omega

theorem join_up {va P : Int} {i : Nat} (h : P = va * p10 i) : P * 10 = va * p10 (i + 1) := by
  rw [h, p10, Int.mul_comm 10, Int.mul_assoc]

/-- What zzJoin answers. -/
def jnB (va : Int) (k : Nat) (vb L : Int) : Bool := decide (va * p10 k + vb ≤ L)
def jnV (va : Int) (k : Nat) (vb L : Int) : Int := if va * p10 k + vb ≤ L then va * p10 k + vb else 0
theorem jn_no {va : Int} {k : Nat} {vb L : Int} (h : ¬ va * p10 k + vb ≤ L) : jnB va k vb L = false ∧ jnV va k vb L = 0 := by simp [jnB, jnV, h]
theorem jn_yes {va : Int} {k : Nat} {vb L : Int} (h : va * p10 k + vb ≤ L) : jnB va k vb L = true ∧ jnV va k vb L = va * p10 k + vb := by simp [jnB, jnV, h]

set_option maxHeartbeats 400000 in
theorem join_any (va : Int) (k : Nat) (vb L : Int) (w : World) (hk : k ≤ 4194304) (a0 : 0 ≤ va) (a1 : va ≤ L) (b0 : 0 ≤ vb) (b1 : vb ≤ L) (hL : 9 ≤ L) (hL2 : L ≤ 18446744073709551615) :
    Calls Try.prog 11 #[.int .u64 va, .int .i64 k, .int .u64 vb, .int .u64 L] w fun e w' => e = .returned (.tuple #[.int .u64 (jnV va k vb L), .bool (jnB va k vb L)]) ∧ w' = w := by
  go_enter Try.func11, Try.ntmps11
  go_wp2
  go_loop [10, 11] (fun p i => ∃ (n : Nat) (P : Int), n ≤ k ∧ i = .int .i64 n ∧ p = .int .u64 P ∧ 0 ≤ P ∧ P ≤ L ∧ Hid (P = va * p10 n)) (fun _ i => k - (intOf i).toNat)
  case atStart => exact ⟨0, va, Nat.zero_le _, rfl, rfl, a0, a1, show va = _ by simp [p10]⟩
  case round =>
    obtain ⟨n, P, hn, rfl, rfl, p0, p1, hP⟩ := hrel
    by_cases hc : n < k ∧ 0 < P
    · obtain ⟨hlt, hp⟩ := hc
      have hne : (P != 0) = true := by simp; omega
      by_cases hov : P ≤ L / 10
      · go_wp2
        go_round
        case rel => exact ⟨n + 1, _, by omega, by go_num, rfl, by omega, by omega, join_up hP.out⟩
        case measure => simp [intOf]; omega
      · obtain ⟨j1, j2⟩ := jn_no (join_over (vb := vb) hP.out hlt a0 b0 (by omega : L / 10 < P))
        go_wp2
        go_ret2
        exact ⟨rfl, rfl⟩
    · have hx : P = va * p10 k := join_exit hP.out (by omega)
      by_cases hf : vb ≤ L - P
      · obtain ⟨j1, j2⟩ := jn_yes (va := va) (k := k) (vb := vb) (L := L) (by rw [← hx]; omega)
        have J2 := hidden j2
        have HX := hidden hx
        clear j2 hx
        by_cases hlt : n < k
        · obtain rfl : P = 0 := by omega
          go_wp2
          go_ret2
          exact ⟨ret_pair (by rw [J2.out, ← HX.out]; omega), rfl⟩
        · go_wp2
          go_ret2
          exact ⟨ret_pair (by rw [J2.out, ← HX.out]), rfl⟩
      · obtain ⟨j1, j2⟩ := jn_no (va := va) (k := k) (vb := vb) (L := L) (by rw [← hx]; omega)
        clear hx
        by_cases hlt : n < k
        · exfalso; omega
        · go_wp2
          go_ret2
          exact ⟨rfl, rfl⟩
end Go.Proofs.Qxb6630458a
