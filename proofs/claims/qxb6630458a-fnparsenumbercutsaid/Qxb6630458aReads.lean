import Derived.Test.Qxb6630458aSmall
namespace Go.Proofs.Qxb6630458a
open Go.RowKit

theorem ret_b {b c : Bool} {v : Value} (h : b = c) : Ending.returned (.tuple #[.bool b, v]) = .returned (.tuple #[.bool c, v]) := by rw [h]

/-- What zzReadsAtMost hands back beside a yes: the word without its leading zeros. -/
def Rd (g off cap : Nat) (l : List Int) (L : Int) (sv : Value) : Prop :=
  pnB l L = true → ∃ i s, i < l.length ∧ s = l.drop i ∧ sv = .slice (some ⟨g, off + i, none⟩) s.length (cap - i) ∧ Canon s ∧ vl 0 s = vl 0 l

theorem Rd.no {g off cap : Nat} {l : List Int} {L : Int} {sv : Value} (h : pnB l L = false) : Rd g off cap l L sv := fun h2 => by rw [h] at h2; cases h2
theorem Rd.yes {g off cap : Nat} {l s : List Int} {L : Int} {i n : Nat} (hi : i < l.length) (hs : s = l.drop i) (hc : Canon s) (hv : vl 0 s = vl 0 l) (hn : s.length = n) : Rd g off cap l L (.slice (some ⟨g, off + i, none⟩) n (cap - i)) :=
  fun _ => ⟨i, s, hi, hs, by rw [hn], hc, hv⟩

theorem cmp_yes {l s ds : List Int} {L : Int} (hal : alld l) (hl : 0 < l.length) (hv : vl 0 s = vl 0 l) (hd : vl 0 ds = L) (h : vl 0 s ≤ vl 0 ds) : pnB l L = true :=
  pn_mk (by intro e; simp [e] at hl) hal (by omega)
theorem cmp_no {l s ds : List Int} {L : Int} (hv : vl 0 s = vl 0 l) (hd : vl 0 ds = L) (h : vl 0 ds < vl 0 s) : pnB l L = false := pn_big (by omega)

set_option maxHeartbeats 1000000 in
theorem reads_some (g off cap : Nat) (l : List Int) (L : Int) (w : World) (hl : 0 < l.length) (hlen : l.length ≤ 4194304) (hcap : l.length ≤ cap) (hcap2 : cap ≤ 4194304) (hg : g < w.heap.size)
    (hc : ∀ k, k < l.length → w.cell? ⟨g, off + k, none⟩ = some (.int .u8 (l[k]?.getD 0))) (hb : ∀ k : Nat, 0 ≤ l[k]?.getD 0 ∧ l[k]?.getD 0 ≤ 255) (hL : 9 ≤ L) (hL2 : L ≤ 18446744073709551615) :
    Calls Try.prog 7 #[.slice (some ⟨g, off, none⟩) l.length cap, .int .u64 L] w fun e w' => ∃ sv, e = .returned (.tuple #[.bool (pnB l L), sv]) ∧ Rd g off cap l L sv ∧ Below w.heap.size w w' := by
  have hne : ((l.length : Int) == 0) = false := by rw [beq_eq_false_iff_ne]; omega
  go_enter Try.func7, Try.ntmps7
  go_wp2
  go_loop [6] (fun i => ∃ (k : Nat), k ≤ l.length ∧ i = .int .i64 k ∧ Hid (alld (l.take k))) (fun i => l.length - (intOf i).toNat)
  case atStart => exact ⟨0, Nat.zero_le _, rfl, alld_nil⟩
  case round =>
    obtain ⟨k, hk, rfl, hN⟩ := hrel
    by_cases hlt : k < l.length
    · have hck := hc k hlt
      obtain ⟨b0, b1⟩ := hb k
      obtain ⟨c, hcE⟩ : ∃ c : Int, c = l[k]?.getD 0 := ⟨_, rfl⟩
      rw [← hcE] at hck b0 b1
      have HC := hidden hcE
      clear hcE hc hb
      by_cases hd : 48 ≤ c ∧ c ≤ 57
      · obtain ⟨d0, d1⟩ := hd
        go_wp2
        go_round
        case rel => exact ⟨k + 1, by omega, by go_num, alld_take_step hlt hN.out (by rw [← HC.out]; exact ⟨d0, d1⟩)⟩
        case measure => simp [intOf]; omega
      · have hf : pnB l L = false := pn_stop_digit hlt (by rw [← HC.out]; exact hd)
        by_cases hd2 : c < 48
        · go_wp2
          go_ret2
          exact ⟨_, rfl, Rd.no hf, Below.refl _ _⟩
        · go_wp2
          go_ret2
          exact ⟨_, rfl, Rd.no hf, Below.refl _ _⟩
    · have hal : alld l := by
        have e : l.take k = l := List.take_of_length_le (by omega)
        have := hN.out; rw [e] at this; exact this
      obtain rfl : k = l.length := by omega
      have HCC := hidden hc
      have HBB := hidden hb
      clear hN hc hb
      go_wp2
      go_loop [8] (fun i => ∃ (k : Nat), k < l.length ∧ i = .int .i64 k ∧ Hid (∀ j, j < k → l[j]?.getD 0 = 48)) (fun i => l.length - (intOf i).toNat)
      case atStart => exact ⟨0, hl, rfl, fun j hj => by omega⟩
      case round =>
        obtain ⟨k, hk1, rfl, hN⟩ := hrel
        have hck := HCC.out k hk1
        obtain ⟨b0, b1⟩ := HBB.out k
        obtain ⟨c, hcE⟩ : ∃ c : Int, c = l[k]?.getD 0 := ⟨_, rfl⟩
        rw [← hcE] at hck b0 b1
        have HC := hidden hcE
        clear hcE
        by_cases hgo : k < l.length - 1 ∧ c = 48
        · obtain ⟨hlt, rfl⟩ := hgo
          have hi : (k : Int) < (l.length : Int) - 1 := by omega
          go_wp2
          go_round
          case rel => exact ⟨k + 1, by omega, by go_num, fun j hj => by
            rcases Nat.lt_or_ge j k with h | h
            · exact hN.out j h
            · obtain rfl : j = k := by omega
              exact HC.out.symm⟩
          case measure => simp [intOf]; omega
        · obtain ⟨t, ht⟩ : ∃ t, t = l.drop k := ⟨_, rfl⟩
          have hcan : Canon t := by rw [ht]; exact canon_drop hal hk1 (by rw [← HC.out]; omega)
          have hval : vl 0 t = vl 0 l := by rw [ht]; exact vl_zeros hN.out (by omega)
          have hsl : l.length - k = t.length := by rw [ht]; simp
          have hcs : ∀ m, m < t.length → w.cell? ⟨g, off + k + m, none⟩ = some (.int .u8 (t[m]?.getD 0)) := by
            intro m hm
            have := HCC.out (k + m) (by omega)
            rw [ht, List.getElem?_drop, Nat.add_assoc]; exact this
          have HT := hidden ht
          have HV := hidden hval
          have HS := hidden hcs
          have ht0 : 0 < t.length := by omega
          have hno : k < l.length - 1 → (c == 48) = false := fun h => by rw [beq_eq_false_iff_ne]; omega
          clear hN HC ht hval hcs hgo
          by_cases hlt : k < l.length - 1
          case' pos =>
            have hno1 := hno hlt
            have hi : (k : Int) < (l.length : Int) - 1 := by omega
          case' neg =>
            have hi : ¬ (k : Int) < (l.length : Int) - 1 := by omega
          all_goals
            clear hno
            go_wp2_with fail
            refine (dec_any L _ (by omega) hL2).mono ?_
            rintro e w1 ⟨gd, ds, rfl, hcd, hvd, hdl, hbs, hbel⟩
            obtain ⟨gd', od, hge, hgd, hdc⟩ := hbs.2 (List.length_pos_iff.2 hcd.1)
            simp only [Option.some.injEq, Addr.mk.injEq] at hge
            obtain ⟨rfl, rfl, _⟩ := hge
            have HD := hidden hdc
            have HVD := hidden hvd
            clear hdc hbs hvd
            rcases Nat.lt_trichotomy t.length ds.length with hq | hq | hq
            · have hP : pnB l L = true := cmp_yes hal hl HV.out HVD.out (Int.le_of_lt (canon_shorter hcan.2.1 hcd ht0 hq))
              have hneq : ((t.length : Int) != (ds.length : Int)) = true := by simp; omega
              go_wp2
              go_ret2
              exact ⟨_, ret_b hP.symm, Rd.yes hk1 HT.out hcan HV.out rfl, hbel⟩
            · have hneq : ((ds.length : Int) != (ds.length : Int)) = false := by simp
              have HQ := hidden hq
              have hdl2 : ds.length ≤ 20 := hdl
              go_wp2
              go_loopw [11] (fun j wr => ∃ m n : Nat, m ≤ ds.length ∧ j = .int .i64 m ∧ Hid (t.take m = ds.take m) ∧ wr = w1.drewN n) (fun j _ => ds.length - (intOf j).toNat)
              case atStart => exact ⟨0, 0, Nat.zero_le _, rfl, rfl, rfl⟩
              case round =>
                obtain ⟨m, n, hm, rfl, hsame, rfl⟩ := hrel
                by_cases hlm : m < ds.length
                · have q1 := (hbel.cell (p := ⟨g, off + k + m, none⟩) hg).trans (HS.out m (by omega))
                  have q2 := HD.out m hlm
                  rw [Nat.zero_add] at q2
                  obtain ⟨x, hx⟩ : ∃ x : Int, x = t[m]?.getD 0 := ⟨_, rfl⟩
                  obtain ⟨y, hy⟩ : ∃ y : Int, y = ds[m]?.getD 0 := ⟨_, rfl⟩
                  rw [← hx] at q1
                  rw [← hy] at q2
                  have HX := hidden hx
                  have HY := hidden hy
                  have hmi : (m : Int) < (ds.length : Int) := by omega
                  clear hx hy
                  rcases Int.lt_trichotomy x y with hxy | hxy | hxy
                  · have hP : pnB l L = true := cmp_yes hal hl HV.out HVD.out (Int.le_of_lt (vl_part hcan.2.1 hcd.2.1 HQ.out (by omega) hsame.out (by rw [← HX.out, ← HY.out]; exact hxy)))
                    have hxn : (x != y) = true := by simp; omega
                    go_wp2
                    go_quiet (fail)
                    go_wp2
                    go_quiet (fail)
                    go_wp2
                    go_ret2
                    exact ⟨_, ret_b hP.symm, Rd.yes hk1 HT.out hcan HV.out HQ.out, below_drewN (below_drewN (below_drewN hbel _) _) _⟩
                  · have hxn : (x != y) = false := by simp; omega
                    have HXY := hidden hxy
                    clear hxy
                    go_wp2
                    go_quiet (fail)
                    go_wp2
                    go_roundw
                    case rel => exact ⟨m + 1, _, by omega, by go_num, take_step_eq (by have := HQ.out; omega) hlm hsame.out (by rw [← HX.out, ← HY.out]; exact HXY.out), rfl⟩
                    case measure => simp [intOf]; omega
                  · have hP : pnB l L = false := cmp_no HV.out HVD.out (vl_part hcd.2.1 hcan.2.1 HQ.out.symm hlm hsame.out.symm (by rw [← HX.out, ← HY.out]; exact hxy))
                    have hxn : (x != y) = true := by simp; omega
                    go_wp2
                    go_quiet (fail)
                    go_wp2
                    go_quiet (fail)
                    go_wp2
                    go_ret2
                    exact ⟨_, ret_b (by rw [hP]; simp; omega), Rd.no hP, below_drewN (below_drewN (below_drewN hbel _) _) _⟩
                · have hP : pnB l L = true := cmp_yes hal hl HV.out HVD.out (by
                    have e1 := hsame.out
                    have e2 := HQ.out
                    rw [List.take_of_length_le (by omega), List.take_of_length_le (by omega)] at e1
                    rw [e1]; exact Int.le_refl _)
                  go_wp2
                  go_ret2
                  exact ⟨_, ret_b hP.symm, Rd.yes hk1 HT.out hcan HV.out HQ.out, below_drewN hbel _⟩
            · have hP : pnB l L = false := cmp_no HV.out HVD.out (canon_shorter hcd.2.1 hcan (List.length_pos_iff.2 hcd.1) hq)
              have hneq : ((t.length : Int) != (ds.length : Int)) = true := by simp; omega
              go_wp2
              go_ret2
              exact ⟨_, ret_b (by rw [hP]; simp; omega), Rd.no hP, hbel⟩

set_option maxHeartbeats 400000 in
theorem reads_none (a : Option Addr) (cap : Nat) (L : Int) (w : World) :
    Calls Try.prog 7 #[.slice a 0 cap, .int .u64 L] w fun e w' => e = .returned (.tuple #[.bool false, .slice none 0 0]) ∧ w' = w := by
  go_enter Try.func7, Try.ntmps7
  go_wp2
  go_ret2
  exact ⟨rfl, rfl⟩

set_option maxHeartbeats 400000 in
/-- zzReadsAtMost, at every slice of bytes. -/
theorem reads_any (g cap : Nat) (l : List Int) (L : Int) (w : World) (h : Bs w (some ⟨g, 0, none⟩) l) (hlen : l.length ≤ cap) (hcap : cap ≤ 4194304) (hL : 9 ≤ L) (hL2 : L ≤ 18446744073709551615) :
    Calls Try.prog 7 #[.slice (some ⟨g, 0, none⟩) l.length cap, .int .u64 L] w fun e w' => ∃ sv, e = .returned (.tuple #[.bool (pnB l L), sv]) ∧ Rd g 0 cap l L sv ∧ Below w.heap.size w w' := by
  rcases Nat.eq_zero_or_pos l.length with h0 | h0
  · obtain rfl : l = [] := List.eq_nil_of_length_eq_zero h0
    refine (reads_none _ cap L w).mono ?_
    rintro e w' ⟨rfl, rfl⟩
    exact ⟨_, ret_b (pn_nil L).symm, Rd.no (pn_nil L), Below.refl _ _⟩
  · obtain ⟨g', off, ha, hg, hc⟩ := h.2 h0
    simp only [Option.some.injEq, Addr.mk.injEq] at ha
    obtain ⟨rfl, rfl, _⟩ := ha
    exact reads_some g 0 cap l L w h0 (by omega) hlen hcap hg hc h.1 hL hL2
end Go.Proofs.Qxb6630458a
