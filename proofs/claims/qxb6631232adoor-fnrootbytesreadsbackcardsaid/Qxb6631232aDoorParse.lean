import Derived.Test.Qxb6631232aDoorPre
import Derived.Test.Qxb6631232aDoorDigits
namespace Go.Proofs.Qxb6631232aDoor
open Go.RowKit

/-- The bytes D lie in block g from o on. -/
def Vw (w : World) (g o : Nat) (D : List UInt8) : Prop := ∀ j, j < D.length → w.cell? ⟨g, o + j, none⟩ = some (.int .u8 ((D.getD j 0).toNat : Int))
theorem el27 : Tryd.prog.elem 27 = 5 := by kernel_rfl
theorem un27 : Tryd.prog.underlying 27 = some (.slice (Tryd.prog.elem 27)) := by rw [el27]; exact Tryd.underlying27
theorem add_at (b o k : Nat) : (⟨b, o, none⟩ : Addr).add k = ⟨b, o + k, none⟩ := by unfold Addr.add; split <;> simp_all
/-- 'b[l:h]', 'b[l:]', 'b[:h]'. -/
theorem cut_lh (g o n c l h : Nat) (h1 : l ≤ h) (h2 : h ≤ c) (h3 : l < c) (W : World) : (Instr.slice 27 (.slice (some ⟨g, o, none⟩) n c) (some (.int .i64 (l : Int))) (some (.int .i64 (h : Int))) none).run Tryd.prog W = .ok (.slice (some ⟨g, o + l, none⟩) (h - l) (c - l)) W := by
  rw [run_slice_lh W 27 _ n c un27 .i64 .i64 l h (by omega) (by omega) (by omega), el27, Tryd.sizeOf5]
  simp only [Result.andThen, sliced, Int.toNat_natCast, Nat.mul_one, Option.map_some, add_at]
  rw [if_neg (by omega)]
theorem cut_l (g o n c l : Nat) (h1 : l ≤ n) (h3 : l < c) (W : World) : (Instr.slice 27 (.slice (some ⟨g, o, none⟩) n c) (some (.int .i64 (l : Int))) none none).run Tryd.prog W = .ok (.slice (some ⟨g, o + l, none⟩) (n - l) (c - l)) W := by
  rw [run_slice_l W 27 _ n c un27 .i64 l (by omega) (by omega), el27, Tryd.sizeOf5]
  simp only [Result.andThen, sliced, Int.toNat_natCast, Nat.mul_one, Option.map_some, add_at]
  rw [if_neg (by omega)]
theorem cut_h (g o n c h : Nat) (h2 : h ≤ c) (W : World) : (Instr.slice 27 (.slice (some ⟨g, o, none⟩) n c) none (some (.int .i64 (h : Int))) none).run Tryd.prog W = .ok (.slice (some ⟨g, o, none⟩) h c) W := by
  rw [run_slice_h W 27 _ n c un27 .i64 h (by omega) (by omega), el27, Tryd.sizeOf5]
  simp only [Result.andThen, sliced, Int.toNat_natCast, Nat.mul_one, Option.map_some, add_at]
  simp
theorem at27 (v : Value) (l h m : Option Value) (W : World) : (Instr.sliceAt 27 v l h m).run Tryd.prog W = (Instr.slice 27 v l h m).run Tryd.prog W := run_sliceAt_slice W 27 _ _ _ _ un27

theorem itoa_neg_eq {t : Int} (h : t < 0) : Lib.itoa t = 45 :: Lib.decDigits t.natAbs := by unfold Lib.itoa; rw [if_pos h]
theorem itoa_pos_eq {t : Int} (h : ¬ t < 0) : Lib.itoa t = Lib.decDigits t.natAbs := by
  unfold Lib.itoa; rw [if_neg h]
  congr 1; omega

set_option maxHeartbeats 1000000 in
/-- namingB1Line, where a line's end comes. -/
theorem line_any (g L c p q : Nat) (T : List UInt8) (w : World) (hT : Rd w g T) (hL : L = T.length) (hq : q < L) (h10 : T.getD q 0 = 10) (hno : ∀ j, p ≤ j → j < q → T.getD j 0 ≠ 10) (hp : p ≤ q) (hc : L ≤ c) (hl : L ≤ 1099511627776) :
    Calls Tryd.prog 12 #[.slice (some ⟨g, 0, none⟩) L c, .int .i64 (p : Int)] w fun e w' => e = .returned (.tuple #[.slice (some ⟨g, p, none⟩) (q - p) (c - p), .int .i64 ((q : Int) + 1), .bool true]) ∧ w' = w := by
  have HT := hidden hT
  have HN := hidden hno
  have HL := hidden hL
  have s1 := cut_lh g 0 L c p q hp (by omega) (by omega)
  have s2 := fun W => (at27 (.slice (some ⟨g, 0, none⟩) L c) (some (.int .i64 (p : Int))) (some (.int .i64 (q : Int))) none W).trans (s1 W)
  rw [Nat.zero_add] at s1 s2
  clear hT hno hL
  go_enter Tryd.func12, Tryd.ntmps12
  go_wp2
  go_loop [7] (fun iv => ∃ k : Nat, p ≤ k ∧ k ≤ q ∧ iv = .int .i64 k) (fun iv => q - (intOf iv).toNat)
  case atStart => exact ⟨p, Nat.le_refl _, hp, rfl⟩
  case round =>
    obtain ⟨k, hk1, hk2, rfl⟩ := hrel
    have e1 := HT.out.2 k (by have := HL.out; omega)
    by_cases hlt : k < q
    · obtain ⟨v, hv⟩ : ∃ v : Int, v = ((T.getD k 0).toNat : Int) := ⟨_, rfl⟩
      have hne : ¬ v = 10 := by
        intro h
        refine HN.out k hk1 hlt ?_
        apply UInt8.toNat_inj.1
        show _ = 10
        omega
      rw [← hv] at e1
      clear hv
      go_wp2
      go_round
      case rel => exact ⟨k + 1, by omega, by omega, by go_num⟩
      case measure => simp [intOf]; omega
    · obtain rfl : k = q := by omega
      rw [h10] at e1
      have e1 : w.cell? ⟨g, k, none⟩ = some (.int .u8 10) := e1
      go_wp2
      go_ret3
      exact ⟨rfl, rfl⟩

/-- What the reader is told: the digits of u from o on. -/
structure Dg (w : World) (g o u : Nat) (D : List UInt8) : Prop where
  vw : Vw w g o D
  eq : D = Lib.decDigits u
  le : u ≤ 9223372036854775808
theorem Dg.len {w : World} {g o u : Nat} {D : List UInt8} (h : Dg w g o u D) : 1 ≤ D.length ∧ D.length ≤ 19 := by
  rw [h.eq]; exact ⟨digits_pos u, digits_len u h.le⟩
theorem Dg.read {w : World} {g o u : Nat} {D : List UInt8} (h : Dg w g o u D) {n : Nat} (h2 : n < D.length) : ∃ c : Int, 48 ≤ c ∧ c ≤ 57 ∧ w.cell? ⟨g, o + n, none⟩ = some (.int .u8 c) ∧
    dv (D.take (n + 1)) = dv (D.take n) * 10 + (c - 48) ∧ 0 ≤ dv (D.take n) ∧ dv (D.take n) * 10 + (c - 48) ≤ 9223372036854775808 := by
  have hs := h.vw n h2
  have e : D.getD n 0 = D[n] := by simp [List.getD, h2]
  rw [e] at hs
  have hall : ∀ c ∈ D, isDig c := by rw [h.eq]; exact digits_all u
  have hd := hall D[n] (List.getElem_mem h2)
  have hst := dv_step h2
  refine ⟨_, hd.1, hd.2, hs, hst, (dv_take hall n).1, ?_⟩
  rw [← hst]
  have := (dv_take hall (n + 1)).2
  have hv : dv D = u := by rw [h.eq]; exact digits_val u
  have := h.le
  omega
theorem Dg.total {w : World} {g o u : Nat} {D : List UInt8} (h : Dg w g o u D) : dv (D.take D.length) = u := by
  rw [List.take_length, h.eq]; exact digits_val u
/-- The first digit of a number that is not 0. -/
theorem Dg.first {w : World} {g o u : Nat} {D : List UInt8} (h : Dg w g o u D) (hu : 1 ≤ u) : ∃ c : Int, ¬ c = 48 ∧ w.cell? ⟨g, o, none⟩ = some (.int .u8 c) := by
  have hl := h.len
  have hs := h.vw 0 (by omega)
  have h0 : 0 < D.length := by omega
  have e : D.getD 0 0 = D[0] := by simp [List.getD, h0]
  rw [Nat.add_zero, e] at hs
  exact ⟨_, digits_head u hu D[0] (by rw [← h.eq]; exact List.getElem?_eq_getElem _), hs⟩

theorem neg_back {t : Int} (ht : I64 t) (hneg : t < 0) : ∃ N : Int, IntKind.u64.wrap (bits .xor .u64 IntKind.u64.max (-t) + 1) = N ∧ wrap64 N = t := by
  unfold I64 at ht
  refine ⟨t + 18446744073709551616, ?_, ?_⟩
  · have hm : IntKind.u64.max = ((18446744073709551615 : Nat) : Int) := by decide +kernel
    have hx : ∀ n : Nat, n < 18446744073709551616 → 18446744073709551615 ^^^ n = 18446744073709551615 - n := by
      intro n hn
      have := Lib.xor_ones64 n (by simpa using hn)
      simpa using this
    rw [show -t = ((-t).toNat : Int) by omega, hm, bits_xor_u64_nat _ _ (by omega) (by omega), hx _ (by omega), IntKind.wrap_u64]
    omega
  · unfold wrap64; omega

set_option maxHeartbeats 2000000 in
theorem parse_neg (g o n c : Nat) (t : Int) (w : World) (ht : I64 t) (hneg : t < 0) (h : Vw w g o (Lib.itoa t)) (hn : n = (Lib.itoa t).length) (hc : n ≤ c) (hl : n ≤ 1099511627776) :
    Calls Tryd.prog 13 #[.slice (some ⟨g, o, none⟩) n c] w fun e w' => e = .returned (.tuple #[.int .i64 t, .bool true]) ∧ w' = w := by
  rw [itoa_neg_eq hneg] at h hn
  obtain ⟨D, hD⟩ : ∃ D, D = Lib.decDigits t.natAbs := ⟨_, rfl⟩
  rw [← hD] at h hn
  have e0 : w.cell? ⟨g, o, none⟩ = some (.int .u8 45) := by simpa using h 0 (by simp)
  have dg : Hid (Dg w g (o + 1) t.natAbs D) := ⟨fun j hj => by have := h (j + 1) (by simpa using hj); rw [show o + 1 + j = o + (j + 1) by omega, this]; simp, hD, by unfold I64 at ht; omega⟩
  have hlen := dg.out.len
  obtain rfl : n = D.length + 1 := by simpa using hn
  obtain ⟨d0, hd0, c0⟩ := dg.out.first (by omega)
  obtain ⟨N, nb1, nb2⟩ := neg_back ht hneg
  obtain ⟨u, hu⟩ : ∃ u : Int, u = -t := ⟨_, rfl⟩
  rw [← hu] at nb1
  have u1 : 0 < u := by omega
  have u2 : u ≤ 9223372036854775808 := by unfold I64 at ht; omega
  have HU := hidden hu
  have s1 : ∀ W : World, (Instr.slice 27 (.slice (some ⟨g, o, none⟩) (D.length + 1) c) (some (.int .i64 1)) none none).run Tryd.prog W = .ok (.slice (some ⟨g, o + 1, none⟩) D.length (c - 1)) W := cut_l g o (D.length + 1) c 1 (by omega) (by omega)
  have s2 := fun W => (at27 (.slice (some ⟨g, o, none⟩) (D.length + 1) c) (some (.int .i64 1)) none none W).trans (s1 W)
  have f1 : decide ((19 : Int) < (D.length : Int)) = false := by simp; omega
  have f2 : ((D.length : Int) == 0) = false := by rw [beq_eq_false_iff_ne]; omega
  have f3 : (d0 == 48) = false := by rw [beq_eq_false_iff_ne]; exact hd0
  clear h hn hD hu hneg
  go_enter Tryd.func13, Tryd.ntmps13
  go_wp2
  go_loop [7, 8, 9] (fun mv jv _ => ∃ (k : Nat) (M : Int), k ≤ D.length ∧ jv = .int .i64 k ∧ mv = .int .u64 M ∧ 0 ≤ M ∧ M ≤ 9223372036854775808 ∧ Hid (M = dv (D.take k))) (fun _ jv _ => D.length - (intOf jv).toNat)
  case atStart => exact ⟨0, 0, Nat.zero_le _, rfl, rfl, by omega, by omega, by simp [dv, Hid]⟩
  case round =>
    obtain ⟨k, M, hk, rfl, rfl, m1, m2, hM⟩ := hrel
    by_cases hlt : k < D.length
    · obtain ⟨x, x1, x2, x3, x4, x5, x6⟩ := dg.out.read hlt
      rw [← hM.out] at x4 x5 x6
      have X4 := hidden x4
      clear x4 x5 hM
      go_wp2
      go_round
      case rel => exact ⟨k + 1, M * 10 + (x - 48), by omega, by go_num, by go_num, by omega, by omega, X4.out.symm⟩
      case measure => simp [intOf]; omega
    · obtain rfl : k = D.length := by omega
      obtain rfl : M = u := by have h1 := HU.out; rw [hM.out, dg.out.total]; omega
      go_wp2
      go_ret2
      exact ⟨rfl, rfl⟩

set_option maxHeartbeats 2000000 in
theorem parse_pos (g o n c : Nat) (t : Int) (w : World) (ht : I64 t) (hneg : ¬ t < 0) (h : Vw w g o (Lib.itoa t)) (hn : n = (Lib.itoa t).length) (hc : n ≤ c) :
    Calls Tryd.prog 13 #[.slice (some ⟨g, o, none⟩) n c] w fun e w' => e = .returned (.tuple #[.int .i64 t, .bool true]) ∧ w' = w := by
  rw [itoa_pos_eq hneg] at h hn
  obtain ⟨D, hD⟩ : ∃ D, D = Lib.decDigits t.natAbs := ⟨_, rfl⟩
  rw [← hD] at h hn
  have dg : Hid (Dg w g o t.natAbs D) := ⟨h, hD, by unfold I64 at ht; omega⟩
  have hlen := dg.out.len
  obtain rfl : n = D.length := by simpa using hn
  have t2 : t ≤ 9223372036854775807 := ht.2
  have t0 : 0 ≤ t := by omega
  have s1 : ∀ W : World, (Instr.slice 27 (.slice (some ⟨g, o, none⟩) D.length c) (some (.int .i64 0)) none none).run Tryd.prog W = .ok (.slice (some ⟨g, o, none⟩) D.length c) W := cut_l g o D.length c 0 (by omega) (by omega)
  have s2 := fun W => (at27 (.slice (some ⟨g, o, none⟩) D.length c) (some (.int .i64 0)) none none W).trans (s1 W)
  have f1 : decide ((19 : Int) < (D.length : Int)) = false := by simp; omega
  have f2 : ((D.length : Int) == 0) = false := by rw [beq_eq_false_iff_ne]; omega
  have f0 : decide ((0 : Int) < (D.length : Int)) = true := by simp; omega
  obtain ⟨d0, y1, y2, c0, _⟩ := dg.out.read (n := 0) (by omega)
  rw [Nat.add_zero] at c0
  have f3 : (d0 == 45) = false := by rw [beq_eq_false_iff_ne]; omega
  have hz : (d0 == 48) = false ∨ (d0 = 48 ∧ D.length = 1) := by
    by_cases hd : d0 = 48
    · rcases Nat.eq_zero_or_pos t.natAbs with h0 | h0
      · right; rw [hD, h0]; exact ⟨hd, by simp [Lib.decDigits]⟩
      · exfalso
        obtain ⟨d1, q1, q2⟩ := dg.out.first h0
        rw [q2] at c0
        obtain rfl : d1 = d0 := by simpa using c0
        exact q1 hd
    · left; rw [beq_eq_false_iff_ne]; exact hd
  clear h hn hD hneg
  rcases hz with hz | ⟨rfl, hz⟩
  case' inr =>
    have f4 : decide ((1 : Int) < (D.length : Int)) = false := by simp; omega
    clear hz
  all_goals
    go_enter Tryd.func13, Tryd.ntmps13
    go_wp2
    go_loop [7, 8, 9] (fun mv jv _ => ∃ (k : Nat) (M : Int), k ≤ D.length ∧ jv = .int .i64 k ∧ mv = .int .u64 M ∧ 0 ≤ M ∧ M ≤ 9223372036854775808 ∧ Hid (M = dv (D.take k))) (fun _ jv _ => D.length - (intOf jv).toNat)
    case atStart => exact ⟨0, 0, Nat.zero_le _, rfl, rfl, by omega, by omega, by simp [dv, Hid]⟩
    case round =>
      obtain ⟨k, M, hk, rfl, rfl, m1, m2, hM⟩ := hrel
      by_cases hlt : k < D.length
      · obtain ⟨x, x1, x2, x3, x4, x5, x6⟩ := dg.out.read hlt
        rw [← hM.out] at x4 x5 x6
        have X4 := hidden x4
        clear x4 x5 hM
        go_wp2
        go_round
        case rel => exact ⟨k + 1, M * 10 + (x - 48), by omega, by go_num, by go_num, by omega, by omega, X4.out.symm⟩
        case measure => simp [intOf]; omega
      · obtain rfl : k = D.length := by omega
        obtain rfl : M = t := by rw [hM.out, dg.out.total]; omega
        go_wp2
        go_ret2
        exact ⟨rfl, rfl⟩

/-- namingB1ParseInt, at a number's own text. -/
theorem parse_any (g o n c : Nat) (t : Int) (w : World) (ht : I64 t) (h : Vw w g o (Lib.itoa t)) (hn : n = (Lib.itoa t).length) (hc : n ≤ c) :
    Calls Tryd.prog 13 #[.slice (some ⟨g, o, none⟩) n c] w fun e w' => e = .returned (.tuple #[.int .i64 t, .bool true]) ∧ w' = w := by
  by_cases h0 : t < 0
  · exact parse_neg g o n c t w ht h0 h hn hc (by have := Lib.itoa_length_le t ht.1 ht.2; omega)
  · exact parse_pos g o n c t w ht h0 h hn hc
end Go.Proofs.Qxb6631232aDoor
