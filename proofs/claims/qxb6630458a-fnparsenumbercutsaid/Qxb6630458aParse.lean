import Derived.Test.Qxb6630458aProg
import Derived.Test.Qxb6630458aPlain
import Derived.WalkKit
import Derived.WalkLawsBesides
namespace Go.Proofs.Qxb6630458a
open Go.RowKit

theorem ret_pair {k : IntKind} {a b : Int} {v : Value} (h : a = b) : Ending.returned (.tuple #[.int k a, v]) = .returned (.tuple #[.int k b, v]) := by rw [h]
theorem hidden {p : Prop} (h : p) : Hid p := h

set_option maxHeartbeats 400000 in
theorem parse_some (g off cap : Nat) (l : List Int) (L : Int) (w : World) (hl : 0 < l.length) (hlen : l.length ≤ 4194304)
    (hc : ∀ k, k < l.length → w.cell? ⟨g, off + k, none⟩ = some (.int .u8 (l[k]?.getD 0))) (hb : ∀ k : Nat, 0 ≤ l[k]?.getD 0 ∧ l[k]?.getD 0 ≤ 255) (hL : 9 ≤ L) (hL2 : L ≤ 18446744073709551615) :
    Calls Try.prog 12 #[.slice (some ⟨g, off, none⟩) l.length cap, .int .u64 L] w fun e w' => e = .returned (.tuple #[.int .u64 (pnV l L), .bool (pnB l L)]) ∧ w' = w := by
  have hne : ((l.length : Int) == 0) = false := by rw [beq_eq_false_iff_ne]; omega
  go_enter Try.func12, Try.ntmps12
  go_wp2
  go_loop [6, 15] (fun n i => ∃ (k : Nat) (N : Int), k ≤ l.length ∧ i = .int .i64 k ∧ n = .int .u64 N ∧ 0 ≤ N ∧ N ≤ L ∧ Hid (N = vl 0 (l.take k) ∧ alld (l.take k))) (fun _ i => l.length - (intOf i).toNat)
  case atStart => exact ⟨0, 0, Nat.zero_le _, rfl, rfl, by omega, by omega, rfl, alld_nil⟩
  case round =>
    obtain ⟨k, N, hk, rfl, rfl, h0, h1, hN⟩ := hrel
    by_cases hlt : k < l.length
    · have hck := hc k hlt
      obtain ⟨b0, b1⟩ := hb k
      obtain ⟨c, hcE⟩ : ∃ c : Int, c = l[k]?.getD 0 := ⟨_, rfl⟩
      rw [← hcE] at hck b0 b1
      have HC := hidden hcE
      clear hcE hc hb
      by_cases hd : 48 ≤ c ∧ c ≤ 57
      · obtain ⟨d0, d1⟩ := hd
        by_cases hv : N * 10 + (c - 48) ≤ L
        · go_wp2
          go_round
          case rel =>
            refine ⟨k + 1, _, by omega, by go_num, rfl, by omega, by omega, ?_⟩
            have e := HC.out; subst e
            exact ⟨by rw [vl_take_step hlt, ← hN.out.1], alld_take_step hlt hN.out.2 ⟨d0, d1⟩⟩
          case measure => simp [intOf]; omega
        · have hf : pnB l L = false := pn_stop_big hlt (by have e := HC.out; subst e; rw [← hN.out.1]; omega)
          have hf2 := pnV_of_false hf
          go_wp2
          go_ret2
          exact ⟨rfl, rfl⟩
      · have hf : pnB l L = false := pn_stop_digit hlt (by have e := HC.out; subst e; exact hd)
        have hf2 := pnV_of_false hf
        by_cases hd2 : c < 48
        · go_wp2
          go_ret2
          exact ⟨rfl, rfl⟩
        · go_wp2
          go_ret2
          exact ⟨rfl, rfl⟩
    · have hT : pnB l L = true := by
        have e : l.take k = l := List.take_of_length_le (by omega)
        obtain ⟨e1, e2⟩ := hN.out
        rw [e] at e1 e2
        exact pn_mk (by intro h; simp [h] at hl) e2 (by omega)
      have hT2 : Hid (pnV l L = N) := by
        have e : l.take k = l := List.take_of_length_le (by omega)
        have e1 := hN.out.1
        rw [e] at e1
        exact (pnV_of_true hT).trans e1.symm
      go_wp2
      go_ret2
      exact ⟨ret_pair hT2.out.symm, rfl⟩

/-- A slice of bytes: its bytes are l, each fits a byte; where there is one, they lie at an address of an old block. -/
def Bs (w : World) (a : Option Addr) (l : List Int) : Prop :=
  (∀ k : Nat, 0 ≤ l[k]?.getD 0 ∧ l[k]?.getD 0 ≤ 255) ∧ (0 < l.length → ∃ g off, a = some ⟨g, off, none⟩ ∧ g < w.heap.size ∧ ∀ k, k < l.length → w.cell? ⟨g, off + k, none⟩ = some (.int .u8 (l[k]?.getD 0)))

theorem Bs.below {w w' : World} {a : Option Addr} {l : List Int} (h : Bs w a l) {B : Nat} (hb : Below B w w') (hB : w.heap.size ≤ B) : Bs w' a l :=
  ⟨h.1, fun h0 => by
    obtain ⟨g, off, ha, hg, hc⟩ := h.2 h0
    exact ⟨g, off, ha, Nat.lt_of_lt_of_le hg hb.size, fun k hk => (hb.cell (show g < B by omega)).trans (hc k hk)⟩⟩

set_option maxHeartbeats 400000 in
theorem zz_none (a : Option Addr) (cap : Nat) (L : Int) (w : World) :
    Calls Try.prog 6 #[.slice a 0 cap, .int .u64 L] w fun e w' => e = .returned (.tuple #[.int .u64 0, .bool false]) ∧ w' = w := by
  go_enter Try.func6, Try.ntmps6
  go_wp2
  go_ret2
  exact ⟨rfl, rfl⟩

set_option maxHeartbeats 400000 in
/-- ZZparseNumber, at every slice of bytes. -/
theorem zz_any (a : Option Addr) (cap : Nat) (l : List Int) (L : Int) (w : World) (h : Bs w a l) (hlen : l.length ≤ 4194304) (hL : 9 ≤ L) (hL2 : L ≤ 18446744073709551615) :
    Calls Try.prog 6 #[.slice a l.length cap, .int .u64 L] w fun e w' => e = .returned (.tuple #[.int .u64 (pnV l L), .bool (pnB l L)]) ∧ w' = w := by
  rcases Nat.eq_zero_or_pos l.length with h0 | h0
  · obtain rfl : l = [] := List.eq_nil_of_length_eq_zero h0
    refine (zz_none a cap L w).mono ?_
    rintro e w' ⟨rfl, rfl⟩
    exact ⟨by rw [pnV_of_false (pn_nil L), pn_nil L], rfl⟩
  · obtain ⟨g, off, rfl, hg, hc⟩ := h.2 h0
    have hb := h.1
    clear h
    go_enter Try.func6, Try.ntmps6
    go_wp2_with (go_at_call 12; refine (parse_some g off cap l L _ h0 hlen hc hb hL hL2).mono ?_; rintro e w' ⟨rfl, rfl⟩)
    go_ret2
    exact ⟨rfl, rfl⟩
end Go.Proofs.Qxb6630458a
