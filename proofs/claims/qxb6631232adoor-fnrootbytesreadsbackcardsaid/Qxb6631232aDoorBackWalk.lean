import Derived.Test.Qxb6631232aDoorLines
import Derived.Deep.RegionWith
namespace Go.Proofs.Qxb6631232aDoor
open Go.RowKit

/-- The first k names are clean. -/
def Cl (G : List (ByteArray × Int)) (k : Nat) : Prop := ∀ i, i < k → Cn (nm G i)
/-- The name's first j bytes are clean. -/
def Cj (x : ByteArray) (j : Nat) : Prop := ∀ i, i < j → x.data.toList.getD i 0 ≠ 32 ∧ x.data.toList.getD i 0 ≠ 10
theorem u8_ne {c : UInt8} {v : Int} {d : Nat} (hv : v = (c.toNat : Int)) (h : ¬ v = (d : Int)) : c ≠ UInt8.ofNat d ∨ 256 ≤ d := by
  rcases Nat.lt_or_ge d 256 with h1 | h1
  · left; intro e; apply h; rw [hv, e]; simp; omega
  · exact .inr h1

/-- RootIndex.Bytes, its text and the text's length under names. -/
theorem bytes_at' (s : Int) (a : Option Addr) (n cap : Nat) (G : List (ByteArray × Int)) (T : List UInt8) (L : Nat) (w : World) (hs : I64 s) (htab : Tab w.heap.size w) (hG : Gs w a G) (hok : Ok G) (hwt : wt G ≤ 4194304) (hn : G.length = n) (hT : T = hdr s ++ lines G) (hL : L = T.length) :
    Calls Tryd.prog 8 #[.agg #[.int .i64 s, .slice a n cap]] w fun e w' => ∃ g c, e = .returned (.slice (some ⟨g, 0, none⟩) L c) ∧ L ≤ c ∧ c ≤ maxLen ∧ Rd w' g T ∧ Below w.heap.size w w' := by
  refine (bytes_any s a n cap G w hs htab hG hok hwt hn).mono ?_
  rintro e w' ⟨v, rfl, o, b⟩
  rw [← hT] at o
  obtain ⟨g, c, rfl, h1, h2, h3, h4⟩ := o.rd (by rw [hT]; simp [hdr, root])
  rw [hL]
  exact ⟨g, c, rfl, h1, h2, h4, b⟩

theorem itoa_pos_len (t : Int) : 1 ≤ (Lib.itoa t).length := by
  by_cases h : t < 0
  · rw [itoa_neg_eq h]; simp
  · rw [itoa_pos_eq h]; exact digits_pos _
/-- namingB1Line at a line that stands there; what it answers under names. -/
theorem line_at (g L c P x n' c' nx : Nat) (X : ByteArray) (t : Int) (T : List UInt8) (w : World) (hT : Rd w g T) (hL : L = T.length) (ha : At T P X t) (hX : Cn X) (hc : L ≤ c) (hl : L ≤ 1099511627776) (hx : x = X.size) (hn : n' = x + 1 + (Lib.itoa t).length) (hc' : c' = c - P) (hnx : nx = P + n' + 1) :
    Calls Tryd.prog 12 #[.slice (some ⟨g, 0, none⟩) L c, .int .i64 (P : Int)] w fun e w' => e = .returned (.tuple #[.slice (some ⟨g, P, none⟩) n' c', .int .i64 (nx : Int), .bool true]) ∧ w' = w := by
  have e : P + X.size + 1 + (Lib.itoa t).length = P + n' := by omega
  have h1 := ha.len
  have h2 := ha.stop
  have h3 := ha.no10 hX
  rw [e] at h1 h2 h3
  refine (line_any g L c P (P + n') T w hT hL (by omega) h2 h3 (by omega) hc hl).mono ?_
  rintro e w' ⟨rfl, rfl⟩
  rw [show P + n' - P = n' by omega, ← hc', hnx]
  exact ⟨rfl, rfl⟩

set_option maxHeartbeats 4000000 in
set_option maxRecDepth 100000 in
theorem back_walk (s : Int) (a : Option Addr) (n cap : Nat) (G : List (ByteArray × Int)) (w : World) (hs : I64 s) (hn : G.length = n) (hG : Gs w a G) (oG : Ok G) (htab : Tab w.heap.size w) :
    Calls Tryd.prog 4 #[.int .i64 s, .slice a n cap] w fun e w' => e = .returned (.bool true) ∧ Below w.heap.size w w' := by
  have HG := hidden hG
  have HT := hidden htab
  have HO := hidden oG
  have HS := hidden hs
  have HN := hidden hn
  clear hG htab oG hs hn
  go_enter Tryd.func4, Tryd.ntmps4
  go_wp2_with fail
  refine (zz11 s a n cap G w HN.out HG.out).mono ?_
  rintro e w ⟨q, rfl, hq, rfl⟩
  cases q with
  | false =>
    go_wp2
    go_ret
    exact ⟨rfl, Below.refl _ _⟩
  | true =>
    obtain ⟨ln, shG⟩ := hq rfl
    have HSG := hidden shG
    clear hq shG
    go_wp2_with fail
    refine (add_any a n cap G 0 w HN.out HG.out (by omega) (by omega) ln (by rw [HN.out]; exact HSG.out)).mono ?_
    rintro e w ⟨r, rfl, hr, rfl⟩
    by_cases hr1 : r ≤ 1048576
    · have W1 : Hid (wt G ≤ 1048576) := by have := hr hr1; show _ ≤ _; omega
      clear hr
      go_wp2
      go_loop [5, 6, 7] (fun iv _ _ => ∃ k : Nat, k ≤ n ∧ iv = .int .i64 k ∧ Hid (Cl G k)) (fun iv _ _ => n - (intOf iv).toNat)
      case atStart => exact ⟨0, Nat.zero_le _, rfl, fun i hi => by omega⟩
      case round =>
        obtain ⟨k, hk, rfl, hcl⟩ := hrel
        by_cases hlt : k < n
        · obtain ⟨g, off, rfl, hg, hc⟩ := HG.out (by rw [HN.out]; omega)
          obtain ⟨x, hx⟩ : ∃ x, x = nm G k := ⟨_, rfl⟩
          have e1 := (hc k (by rw [HN.out]; omega)).1
          have hxs := HSG.out k hlt
          rw [← hx] at e1 hxs
          have HX := hidden hx
          have HC := hidden hc
          clear hx hc
          go_wp2
          go_loop [7] (fun jv => ∃ j : Nat, j ≤ x.size ∧ jv = .int .i64 j ∧ Hid (Cj x j)) (fun jv => x.size - (intOf jv).toNat)
          case atStart => exact ⟨0, Nat.zero_le _, rfl, fun i hi => by omega⟩
          case round =>
            obtain ⟨j, hj, rfl, hcj⟩ := hrel
            by_cases hjl : j < x.size
            · have ix := idx_at hjl
              obtain ⟨v, hv⟩ : ∃ v : Int, v = ((x.data.toList.getD j 0).toNat : Int) := ⟨_, rfl⟩
              rw [← hv] at ix
              have HV := hidden hv
              clear hv
              by_cases h32 : v = 32
              · subst h32
                go_wp2
                go_ret
                exact ⟨rfl, Below.refl _ _⟩
              · have f32 : (v == 32) = false := by rw [beq_eq_false_iff_ne]; exact h32
                by_cases h10 : v = 10
                · subst h10
                  go_wp2
                  go_ret
                  exact ⟨rfl, Below.refl _ _⟩
                · have f10 : (v == 10) = false := by rw [beq_eq_false_iff_ne]; exact h10
                  have HJ : Hid (Cj x (j + 1)) := fun i hi => by
                    rcases Nat.lt_or_eq_of_le (Nat.le_of_lt_succ hi) with h | h
                    · exact hcj.out i h
                    · subst h
                      refine ⟨fun e => h32 ?_, fun e => h10 ?_⟩
                      · rw [HV.out, e]; rfl
                      · rw [HV.out, e]; rfl
                  clear hcj HV
                  go_wp2
                  go_round
                  case rel => exact ⟨j + 1, by omega, by go_num, HJ⟩
                  case measure => simp [intOf]; omega
            · obtain rfl : j = x.size := by omega
              have HK : Hid (Cl G (k + 1)) := fun i hi => by
                rcases Nat.lt_or_eq_of_le (Nat.le_of_lt_succ hi) with h | h
                · exact hcl.out i h
                · subst h; rw [← HX.out]; exact hcj.out
              clear hcl hcj
              go_wp2
              go_round
              case rel => exact ⟨k + 1, by omega, by go_num, HK⟩
              case measure => simp [intOf]; omega
        · obtain rfl : n = k := by omega
          clear hlt hk
          go_wp2_with fail
          refine (stamps_any a n cap G w HN.out HG.out ln).mono ?_
          rintro e w1 ⟨a1, c1, rfl, gs1, nil1, b1⟩
          have HB1 := hidden b1
          have HG1 := hidden gs1
          clear nil1 gs1 b1
          obtain ⟨T, hT⟩ : ∃ T, T = hdr s ++ lines G := ⟨_, rfl⟩
          obtain ⟨L, hL⟩ : ∃ L, L = T.length := ⟨_, rfl⟩
          have ET := hidden hT
          have EL := hidden hL
          have hLs : L ≤ 1048612 := by
            have q1 := hdr_length s HS.out
            have q2 := lines_length G HO.out
            have q3 := W1.out
            rw [hL, hT, List.length_append]; omega
          clear hT hL
          go_wp2_with fail
          refine (bytes_at' s _ _ _ G T L _ HS.out ((HT.out.on HB1.out).lower HB1.out.size) HG1.out HO.out (by have := W1.out; omega) HN.out ET.out EL.out).mono ?_
          rintro e w2 ⟨g, c, rfl, hLc, hcm, rd, b2⟩
          have B2 := hidden (HB1.out.trans (b2.mono HB1.out.size))
          have R2 := hidden rd
          have hcm : (c : Int) ≤ 9223372036854775807 := by unfold maxLen at hcm; omega
          clear rd b2 HB1 HG1
          -- the first line
          obtain ⟨z, hz⟩ : ∃ z, z = (Lib.itoa s).length := ⟨_, rfl⟩
          have a0 : Hid (At T 0 ⟨root.toArray⟩ s) := by rw [ET.out]; exact at_hdr s G
          have e13 : (⟨root.toArray⟩ : ByteArray).size = 13 := rfl
          have z1 : 1 ≤ z := by rw [hz]; exact itoa_pos_len s
          have zL : 14 + z < L := by have := a0.out.len; rw [EL.out, hz]; omega
          obtain ⟨nx, hnx⟩ : ∃ nx, nx = 0 + (14 + z) + 1 := ⟨_, rfl⟩
          have P0 : Hid (nx = (hdr s ++ lines (G.take 0)).length) := by
            show nx = _
            rw [hnx, hz]; simp only [hdr, root, lines, List.take_zero, List.flatMap_nil, List.append_nil, List.length_append, List.length_cons, List.length_nil]; omega
          have sA1 : ∀ W : World, (Instr.slice 27 (.slice (some ⟨g, 0, none⟩) (14 + z) c) none (some (.int .i64 14)) none).run Tryd.prog W = .ok (.slice (some ⟨g, 0, none⟩) 14 c) W := cut_h g 0 (14 + z) c 14 (by omega)
          have sA2 := fun W => (at27 (.slice (some ⟨g, 0, none⟩) (14 + z) c) none (some (.int .i64 14)) none W).trans (sA1 W)
          have sB1 : ∀ W : World, (Instr.slice 27 (.slice (some ⟨g, 0, none⟩) (14 + z) c) (some (.int .i64 14)) none none).run Tryd.prog W = .ok (.slice (some ⟨g, 14, none⟩) z (c - 14)) W := fun W => by
            have := cut_l g 0 (14 + z) c 14 (by omega) (by omega) W
            rw [show 14 + z - 14 = z by omega] at this
            exact this
          have sB2 := fun W => (at27 (.slice (some ⟨g, 0, none⟩) (14 + z) c) (some (.int .i64 14)) none none W).trans (sB1 W)
          have cA : (convert 27 9 (.slice (some ⟨g, 0, none⟩) 14 c)).run Tryd.prog w2 = .ok (.string { data := #[116, 105, 100, 101, 119, 97, 114, 100, 45, 114, 111, 111, 116, 32] }) w2 := by
            have hv : Vw w2 g 0 (root ++ [32]) := by
              have e : T = [] ++ ((root ++ [32]) ++ (Lib.itoa s ++ [10] ++ lines G)) := by rw [ET.out]; simp [hdr]
              have h := R2.out
              rw [e] at h
              exact vw_of h
            exact hv.conv 14 c _ rfl rfl
          have nxL : nx ≤ L := by omega
          have EZ := hidden hz
          have EN := hidden hnx
          clear hz hnx
          go_wp2_with fail
          refine (line_at g L c 0 13 (14 + z) c nx ⟨root.toArray⟩ s T _ R2.out EL.out a0.out cn_root hLc (by omega) e13.symm (by rw [EZ.out]) (by omega) EN.out).mono ?_
          rintro e w2 ⟨rfl, rfl⟩
          clear e13
          go_wp2_with fail
          refine (parse_any g 14 z (c - 14) s _ HS.out (a0.out.vwNum R2.out) EZ.out (by omega)).mono ?_
          rintro e w2 ⟨rfl, rfl⟩
          clear sA1 sA2 sB1 sB2 cA a0 EZ EN
          go_wp2
          go_loopw [9, 10, 11, 13, 14, 15, 16, 17, 18] (fun _ _ _ _ _ pv iv _ _ wr => ∃ k P : Nat, k ≤ n ∧ iv = .int .i64 k ∧ pv = .int .i64 P ∧ P ≤ L ∧ Hid (P = (hdr s ++ lines (G.take k)).length ∧ Below w.heap.size w wr ∧ Rd wr g T)) (fun _ _ _ _ _ _ iv _ _ _ => n - (intOf iv).toNat)
          case atStart => exact ⟨0, nx, Nat.zero_le _, rfl, rfl, nxL, P0.out, B2.out, R2.out⟩
          case round =>
            obtain ⟨k, P, hk, rfl, rfl, hPL, hinv⟩ := hrel
            clear P0 nxL B2 R2
            by_cases hlt : k < n
            · have hkG : k < G.length := by rw [HN.out]; exact hlt
              obtain ⟨g0, off, rfl, hg0, hc0⟩ := HG.out (by omega)
              obtain ⟨x, hx⟩ : ∃ x, x = nm G k := ⟨_, rfl⟩
              obtain ⟨t, ht⟩ : ∃ t, t = st G k := ⟨_, rfl⟩
              obtain ⟨q1, q2⟩ := hc0 k hkG
              have e1 := (hinv.out.2.1.cell (p := ⟨g0, off + k * 2, none⟩) hg0).trans q1
              have e2 := (hinv.out.2.1.cell (p := ⟨g0, off + k * 2 + 1, none⟩) hg0).trans q2
              have hAt : Hid (At T P x t) := by rw [ET.out, hx, ht, hinv.out.1]; exact at_group s hkG
              have hCn : Hid (Cn x) := by rw [hx]; exact hcl.out k hlt
              have hti : Hid (I64 t) := by rw [ht]; exact HO.out k
              have hnext : Hid (P + x.size + 1 + (Lib.itoa t).length + 1 = (hdr s ++ lines (G.take (k + 1))).length) := by rw [hx, ht, hinv.out.1]; exact next_pos s hkG
              rw [← hx] at e1
              rw [← ht] at e2
              have RB := hidden hinv.out.2
              clear q1 q2 hx ht hinv hc0 hkG
              obtain ⟨z, hz⟩ : ∃ z, z = (Lib.itoa t).length := ⟨_, rfl⟩
              obtain ⟨m, hm⟩ : ∃ m, m = x.size := ⟨_, rfl⟩
              obtain ⟨c', hc'⟩ : ∃ c', c' = c - P := ⟨_, rfl⟩
              obtain ⟨nx', hnx'⟩ : ∃ nx', nx' = P + (m + 1 + z) + 1 := ⟨_, rfl⟩
              have z1 : 1 ≤ z := by rw [hz]; exact itoa_pos_len t
              have hlL : P + m + 1 + z < L := by have := hAt.out.len; rw [EL.out, hz, hm]; exact this
              have hcc : m + 1 + z < c' := by omega
              have hnL : nx' ≤ L := by omega
              have hEz := hidden hz
              have hEm := hidden hm
              have hEc := hidden hc'
              have hEn := hidden hnx'
              clear hz hm hc' hnx'
              go_wp2_with fail
              refine (line_at g L c P m (m + 1 + z) c' nx' x t T _ RB.out.2 EL.out hAt.out hCn.out hLc (by omega) hEm.out (by rw [hEz.out]) hEc.out hEn.out).mono ?_
              rintro e wr ⟨rfl, rfl⟩
              go_wp2
              go_loop [17, 18] (fun sv jv => ∃ j : Nat, j ≤ m ∧ jv = .int .i64 j ∧ sv = .int .i64 (-1)) (fun _ jv => m - (intOf jv).toNat)
              case atStart => exact ⟨0, Nat.zero_le _, rfl, rfl⟩
              case round =>
                obtain ⟨j, hj, rfl, rfl⟩ := hrel
                by_cases hjl : j < m
                · obtain ⟨v, hv⟩ : ∃ v : Int, v = ((x.data.toList.getD j 0).toNat : Int) := ⟨_, rfl⟩
                  have y1 := RB.out.2.2 (P + j) (by have := EL.out; omega)
                  rw [hAt.out.name (by have := hEm.out; omega), ← hv] at y1
                  have f32 : (v == 32) = false := by
                    rw [beq_eq_false_iff_ne]
                    intro h
                    refine (hCn.out j (by have := hEm.out; omega)).1 ?_
                    apply UInt8.toNat_inj.1
                    show _ = 32
                    omega
                  clear hv
                  go_wp2
                  go_round
                  case rel => exact ⟨j + 1, by omega, by go_num, rfl⟩
                  case measure => simp [intOf]; omega
                · obtain rfl : j = m := by omega
                  have y1 := RB.out.2.2 (P + j) (by have := EL.out; omega)
                  rw [hEm.out, hAt.out.blank, ← hEm.out] at y1
                  have y1 : wr.cell? ⟨g, P + j, none⟩ = some (.int .u8 32) := y1
                  have cN : Hid (∀ N, (convert 27 9 (.slice (some ⟨g, P, none⟩) j c')).run Tryd.prog (wr.drewN N) = .ok (.string x) (wr.drewN N)) := fun N => by
                    have hr : Rd (wr.drewN N) g T := RB.out.2
                    exact (hAt.out.vwName hr).conv j c' x (by rw [size_list]; exact hEm.out) (by simp)
                  have sA1 := cut_h g P (j + 1 + z) c' j (by omega)
                  have sA2 := fun W => (at27 (.slice (some ⟨g, P, none⟩) (j + 1 + z) c') none (some (.int .i64 (j : Int))) none W).trans (sA1 W)
                  have sB1 : ∀ W : World, (Instr.slice 27 (.slice (some ⟨g, P, none⟩) (j + 1 + z) c') (some (.int .i64 ((j : Int) + 1))) none none).run Tryd.prog W = .ok (.slice (some ⟨g, P + j + 1, none⟩) z (c' - (j + 1))) W := fun W => by
                    have := cut_l g P (j + 1 + z) c' (j + 1) (by omega) (by omega) W
                    rw [show j + 1 + z - (j + 1) = z by omega] at this
                    exact this
                  have sB2 := fun W => (at27 (.slice (some ⟨g, P, none⟩) (j + 1 + z) c') (some (.int .i64 ((j : Int) + 1))) none none W).trans (sB1 W)
                  have cN1 := cN.out
                  clear cN hj
                  go_upto_region 39 with fail
                  go_quiet (fail)
                  clear cN1 sA1 sA2 y1
                  go_wp2_with fail
                  have hr : Rd (wr.drewN nq) g T := RB.out.2
                  refine (parse_any g (P + j + 1) z _ t _ hti.out (by rw [hEm.out]; exact hAt.out.vwNum hr) hEz.out (by omega)).mono ?_
                  rintro e w9 ⟨rfl, rfl⟩
                  have B9 : Below w.heap.size w (wr.drewN nq) := RB.out.1.trans ⟨rfl, rfl, rfl, Nat.le_refl _, fun _ _ => rfl⟩
                  have FN : Hid (nx' = (hdr s ++ lines (G.take (k + 1))).length ∧ Below w.heap.size w (wr.drewN nq) ∧ Rd (wr.drewN nq) g T) := by
                    refine ⟨?_, B9, hr⟩
                    rw [hEn.out, ← hnext.out, ← hEm.out, ← hEz.out]; omega
                  clear hr B9 RB sB1 sB2 hnext hAt hEn hEc
                  go_wp2
                  go_roundw
                  case rel => exact ⟨k + 1, nx', by omega, by go_num, rfl, hnL, FN.out⟩
                  case measure => simp [intOf]; omega
            · obtain rfl : n = k := by omega
              have hPn : P = L := by rw [hinv.out.1, EL.out, ET.out, List.take_of_length_le (by have := HN.out; omega)]
              subst hPn
              go_wp2
              go_ret
              exact ⟨rfl, hinv.out.2.1⟩
    · go_wp2
      go_ret
      exact ⟨rfl, Below.refl _ _⟩
end Go.Proofs.Qxb6631232aDoor
