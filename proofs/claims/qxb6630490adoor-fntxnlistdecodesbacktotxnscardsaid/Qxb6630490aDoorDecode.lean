import Derived.Test.Qxb6630490aDoorSplitWalk
import Derived.Test.Qxb6630490aDoorDigits
namespace Go.Proofs.Qxb6630490aDoor
open Go.RowKit

/-- Reading a string's byte. -/
theorem idx_at {S : ByteArray} {n : Nat} {c : UInt8} (h : S.data.toList[n]? = some c) (W : World) : (Instr.index 9 (.string S) (.int .i64 (n : Int))).run Tryd.prog W = .ok (.int .u8 (c.toNat : Int)) W := by
  have hn : n < S.size := by
    have := (List.getElem?_eq_some_iff.1 h).1
    simpa using this
  rw [run_index_string W 9 S .i64 n Tryd.underlying9, dif_pos ⟨by omega, by omega⟩]
  have e : S[(n : Int).toNat]'(by omega) = c := by
    have h2 := (List.getElem?_eq_some_iff.1 h).2
    simp only [Int.toNat_natCast]
    rw [← h2]; rfl
  rw [e]

/-- The digits D stand in S from q on; behind them S ends, or a blank stands. -/
def Seg (S : ByteArray) (q : Nat) (D : List UInt8) : Prop :=
  q + D.length ≤ S.size ∧ (∀ j (hj : j < D.length), S.data.toList[q + j]? = some D[j]) ∧ (q + D.length = S.size ∨ S.data.toList[q + D.length]? = some 32)

theorem size_of {S : ByteArray} {A : List UInt8} (h : S.data.toList = A) : S.size = A.length := by rw [← h]; simp

theorem seg_of {S : ByteArray} {l : List Int} {k : Nat} (hS : S.data.toList = txt l) (hk : k < l.length) (D : List UInt8) (pre : List UInt8) (hch : chunk (l[k]?.getD 0) = pre ++ D) :
    Seg S ((txt (l.take k)).length + pre.length) D ∧ (txt (l.take k)).length + pre.length + D.length = (txt (l.take (k + 1))).length ∧ ∀ i (hi : i < pre.length), S.data.toList[(txt (l.take k)).length + i]? = some pre[i] := by
  have hlen : (txt (l.take (k + 1))).length = (txt (l.take k)).length + pre.length + D.length := by rw [txt_step hk, hch]; simp; omega
  have htot : (txt l).length = (txt (l.take (k + 1))).length + (txt (l.drop (k + 1))).length := by
    rw [← List.length_append, ← txt_append, List.take_append_drop]
  have hsz := size_of hS
  refine ⟨⟨by omega, fun j hj => ?_, ?_⟩, hlen.symm, fun i hi => ?_⟩
  · rw [hS, Nat.add_assoc, at_chunk hk, hch, List.append_assoc, List.getElem?_append_right (by omega), Nat.add_sub_cancel_left, List.getElem?_append_left hj]
    exact List.getElem?_eq_getElem hj
  · rcases txt_head (l.drop (k + 1)) with h1 | h1
    · left; rw [h1] at htot; simp at htot; omega
    · right
      rw [hS, Nat.add_assoc, at_chunk hk, hch, List.getElem?_append_right (by simp)]
      simpa using h1
  · rw [hS, at_chunk hk, hch, List.append_assoc, List.getElem?_append_left hi]
    exact List.getElem?_eq_getElem hi

theorem itoa_neg_eq {t : Int} (h : t < 0) : Lib.itoa t = 45 :: Lib.decDigits t.natAbs := by unfold Lib.itoa; rw [if_pos h]
theorem itoa_pos_eq {t : Int} (h : ¬ t < 0) : Lib.itoa t = Lib.decDigits t.natAbs := by
  unfold Lib.itoa; rw [if_neg h]
  congr 1; omega

/-- What the inner loop is told: the digits of u, read from q on. -/
structure Dg (S : ByteArray) (q u : Nat) (D : List UInt8) : Prop where
  seg : Seg S q D
  eq : D = Lib.decDigits u
  le : u ≤ 9223372036854775808

theorem Dg.len {S : ByteArray} {q u : Nat} {D : List UInt8} (h : Dg S q u D) : 1 ≤ D.length ∧ D.length ≤ 19 := by
  rw [h.eq]; exact ⟨digits_pos u, digits_len u h.le⟩
theorem Dg.dig {S : ByteArray} {q u : Nat} {D : List UInt8} (h : Dg S q u D) {j : Nat} (hj : j < D.length) : 48 ≤ (D[j].toNat : Int) ∧ (D[j].toNat : Int) ≤ 57 := by
  have := digits_all u D[j] (by rw [← h.eq]; exact List.getElem_mem hj)
  exact this
theorem Dg.read {S : ByteArray} {q u : Nat} {D : List UInt8} (h : Dg S q u D) {n : Nat} (h1 : q ≤ n) (h2 : n < q + D.length) : ∃ c : Int, 48 ≤ c ∧ c ≤ 57 ∧ (∀ W : World, (Instr.index 9 (.string S) (.int .i64 (n : Int))).run Tryd.prog W = .ok (.int .u8 c) W) ∧
    dv (D.take (n + 1 - q)) = dv (D.take (n - q)) * 10 + (c - 48) ∧ dv (D.take (n - q)) * 10 + (c - 48) ≤ 9223372036854775808 := by
  have hj : n - q < D.length := by omega
  have hd := h.dig hj
  have hs := h.seg.2.1 (n - q) hj
  rw [show q + (n - q) = n by omega] at hs
  have hst := dv_step hj
  rw [show n - q + 1 = n + 1 - q by omega] at hst
  refine ⟨_, hd.1, hd.2, idx_at hs, hst, ?_⟩
  rw [← hst]
  have hall : ∀ c ∈ D, isDig c := by rw [h.eq]; exact digits_all u
  have := (dv_take hall (n + 1 - q)).2
  have hv : dv D = u := by rw [h.eq]; exact digits_val u
  have := h.le
  omega
theorem Dg.stop {S : ByteArray} {q u : Nat} {D : List UInt8} (h : Dg S q u D) : q + D.length = S.size ∨ (q + D.length < S.size ∧ ∀ W : World, (Instr.index 9 (.string S) (.int .i64 ((q + D.length : Nat) : Int))).run Tryd.prog W = .ok (.int .u8 32) W) := by
  rcases h.seg.2.2 with h1 | h1
  · exact .inl h1
  · refine .inr ⟨?_, idx_at h1⟩
    have := (List.getElem?_eq_some_iff.1 h1).1
    simpa using this
theorem Dg.total {S : ByteArray} {q u : Nat} {D : List UInt8} (h : Dg S q u D) : dv (D.take (q + D.length - q)) = u := by
  rw [Nat.add_sub_cancel_left, List.take_length, h.eq]; exact digits_val u
/-- The first digit, where there are several. -/
theorem Dg.first {S : ByteArray} {q u : Nat} {D : List UInt8} (h : Dg S q u D) (h2 : 1 < D.length) : ∃ c : Int, (c == 48) = false ∧ ∀ W : World, (Instr.index 9 (.string S) (.int .i64 (q : Int))).run Tryd.prog W = .ok (.int .u8 c) W := by
  have hs := h.seg.2.1 0 (by omega)
  rw [Nat.add_zero] at hs
  refine ⟨_, ?_, idx_at hs⟩
  rw [beq_eq_false_iff_ne]
  have hu : 1 ≤ u := by
    rcases Nat.lt_or_ge u 10 with h3 | h3
    · rw [h.eq, Lib.decDigits_one h3] at h2; simp at h2
    · omega
  exact digits_head u hu D[0] (by rw [← h.eq]; exact List.getElem?_eq_getElem _)

theorem neg_back {M t : Int} (h : M = -t) (ht : I64 t) (hneg : t < 0) : wrap64 (IntKind.u64.wrap (-M)) = t := by
  unfold I64 at ht
  rw [h, Int.neg_neg, IntKind.wrap_u64]
  unfold wrap64
  omega
theorem cell_one (w : World) (x : Value) (t : TypeId) : ∀ j u, [x][j]? = some u → (w.alloc (.cells #[x] t)).cell? ((⟨w.heap.size, 0, none⟩ : Addr).add j) = some u := by
  intro j u hu
  cases j with
  | zero =>
    obtain rfl := Option.some.inj (show some x = some u from hu)
    exact cell_of_row _ _ 0 _ _ _ (heap_alloc_new _ _)
  | succ j => simp at hu
theorem dec_next {w wo w1 : World} {l : List Int} {k : Nat} {t : Int} {v v1 : Value} (hlt : k < l.length) (ht : t = l[k]?.getD 0) (hb : Below w.heap.size w wo) (hwz : w.heap.size ≤ wo.heap.size) {o : Obj}
    (hown : wo.ownsRow w.heap.size 3 1 v k ((l.take k).map (Value.int .i64))) (hown1 : w1.ownsRow w.heap.size 3 1 v1 (k + 1) ((l.take k).map (Value.int .i64) ++ [.int .i64 t])) (hg : (wo.alloc o).grownBy w1 v.ownBlock) :
    w1.ownsRow w.heap.size 3 1 v1 (k + 1) ((l.take (k + 1)).map (Value.int .i64)) ∧ Below w.heap.size w w1 := by
  refine ⟨?_, (hb.alloc hwz o).grown hg (by simp; omega) (fun j hj => (hown.lt j hj).1)⟩
  rw [take_snoc hlt, ← ht, List.map_append]; exact hown1

set_option maxRecDepth 100000 in
set_option maxHeartbeats 2000000 in
theorem decode_any (l : List Int) (S : ByteArray) (w : World) (hS : S.data.toList = txt l) (hi : ∀ k : Nat, I64 (l[k]?.getD 0)) (hlen : l.length ≤ 131072) :
    Calls Tryd.prog 10 #[.string S] w fun e w' => ∃ v, e = .returned (.tuple #[v, .bool true]) ∧ w'.ownsRow w.heap.size 3 1 v l.length (l.map (Value.int .i64)) ∧ Below w.heap.size w w' := by
  have hsz : (S.size : Int) ≤ 3014656 := by
    have h1 := size_of hS
    have h2 := txt_length l hi
    omega
  have HSS := hidden hS
  have HI := hidden hi
  clear hS hi
  obtain ⟨i0, hi0, hz0, hz1, hz2⟩ := info_parts info3
  go_enter Tryd.func10, Tryd.ntmps10
  go_wp2
  go_loopw [4, 5] (fun ov pv wr => ∃ (k P : Nat), k ≤ l.length ∧ pv = .int .i64 P ∧ P ≤ S.size ∧ Hid (P = (txt (l.take k)).length ∧ wr.ownsRow w.heap.size 3 1 ov k ((l.take k).map (Value.int .i64)) ∧ Below w.heap.size w wr)) (fun _ pv _ => S.size - (intOf pv).toNat)
  case atStart => exact ⟨0, 0, Nat.zero_le _, rfl, Nat.zero_le _, rfl, World.ownsRow_nil _ _ _ _, Below.refl _ _⟩
  case round =>
    obtain ⟨k, P, hk, rfl, hP, hinv⟩ := hrel
    obtain ⟨wo, rfl⟩ : ∃ wo : World, wo = wr := ⟨_, rfl⟩
    by_cases hlt : k < l.length
    · obtain ⟨t, ht⟩ : ∃ t : Int, t = l[k]?.getD 0 := ⟨_, rfl⟩
      have hti : Hid (I64 t) := by rw [ht]; exact HI.out k
      have HT := hidden ht
      clear ht
      by_cases hneg : t < 0
      · obtain ⟨D, hD⟩ : ∃ D, D = Lib.decDigits t.natAbs := ⟨_, rfl⟩
        obtain ⟨g1, g2, g3⟩ := seg_of HSS.out hlt D [32, 84, 45] (by rw [← HT.out, chunk, itoa_neg_eq hneg, hD]; rfl)
        rw [← hinv.out.1] at g1 g2 g3
        have dg : Hid (Dg S (P + 3) t.natAbs D) := ⟨g1, hD, by have := hti.out; unfold I64 at this; omega⟩
        have x0 : ∀ W : World, (Instr.index 9 (.string S) (.int .i64 (P : Int))).run Tryd.prog W = .ok (.int .u8 32) W := idx_at (n := P) (by simpa using g3 0 (by simp))
        have x1 : ∀ W : World, (Instr.index 9 (.string S) (.int .i64 ((P : Int) + 1))).run Tryd.prog W = .ok (.int .u8 84) W := idx_at (n := P + 1) (by simpa using g3 1 (by simp))
        have x2 : ∀ W : World, (Instr.index 9 (.string S) (.int .i64 ((P : Int) + 1 + 1))).run Tryd.prog W = .ok (.int .u8 45) W := idx_at (n := P + 1 + 1) (by simpa using g3 2 (by simp))
        have hl := dg.out.len
        have hsg := dg.out.seg.1
        obtain ⟨q, hq⟩ : ∃ q : Nat, q = P + 3 := ⟨_, rfl⟩
        have hq2 : (P : Int) + 1 + 1 + 1 = (q : Int) := by omega
        rw [← hq] at dg hsg
        have G2 := hidden g2
        have HQ := hidden hq
        have hp1 : (P : Int) + 3 < (S.size : Int) := by omega
        clear g1 g2 g3 hD hq
        go_wp2
        clear x0 x1 x2 hq2
        go_loop [5, 8] (fun pv mv => ∃ (n : Nat) (M : Int), pv = .int .i64 n ∧ mv = .int .u64 M ∧ q ≤ n ∧ n ≤ q + D.length ∧ 0 ≤ M ∧ M ≤ 9223372036854775808 ∧ Hid (M = dv (D.take (n - q)))) (fun pv _ => S.size - (intOf pv).toNat)
        case atStart => exact ⟨q, 0, rfl, rfl, Nat.le_refl _, by omega, by omega, by omega, by rw [Nat.sub_self]; rfl⟩
        case round =>
          obtain ⟨n, M, rfl, rfl, n1, n2, m0, m1, hM⟩ := hrel
          by_cases hmore : n < q + D.length
          · obtain ⟨c, c0, c1, hx, hstep, hbd⟩ := dg.out.read n1 hmore
            rw [← hM.out] at hstep hbd
            have HST := hidden hstep
            have hin : (n : Int) < (S.size : Int) := by omega
            clear hstep
            go_wp2
            go_round
            case rel => exact ⟨n + 1, _, by go_num, rfl, by omega, by omega, by omega, by omega, HST.out.symm⟩
            case measure => simp [intOf]; omega
          · have hn : n = q + D.length := by omega
            have htot := dg.out.total
            rw [← hn, ← hM.out] at htot
            have hstop := dg.out.stop
            rw [← hn] at hstop
            have hfirst := hidden (fun h => dg.out.first h)
            have HN := hidden hn
            have hqn : (q : Int) < (n : Int) := by omega
            have hqn2 : (n : Int) - (q : Int) ≤ 19 := by omega
            have hne : ((n : Int) == (q : Int)) = false := by rw [beq_eq_false_iff_ne]; omega
            have hnS : n ≤ S.size := by omega
            have hPn : P < n := by have := HQ.out; omega
            have hwz : w.heap.size ≤ wo.heap.size := hinv.out.2.2.size
            have M1 : 1 ≤ M := by omega
            have hM0 : (M == 0) = false := by rw [beq_eq_false_iff_ne]; omega
            have HW : Hid (wrap64 (IntKind.u64.wrap (-M)) = t) := neg_back (by omega) hti.out hneg
            clear htot
            clear hM
            rcases hstop with hend | ⟨hend, hx⟩
            case' inl => have hend2 : ¬ (n : Int) < (S.size : Int) := by omega
            case' inr => have hend2 : (n : Int) < (S.size : Int) := by omega
            all_goals
              clear hend
              by_cases hone : D.length = 1
              case' pos => have hone2 : (n : Int) - (q : Int) ≤ 1 := by omega
              case' neg =>
                have hone2 : 1 < (n : Int) - (q : Int) := by omega
                obtain ⟨cf, hcf, hxf⟩ := hfirst.out (by omega)
              all_goals
                clear hn hone
                go_upto_region 37 with fail
                rw [HW.out]
                clear HW hM0 M1 m0 m1 hqn hqn2 hne hone2 hend2 hfirst dg hl hsg hneg hti n1 n2 hmore
                have HO := hidden hinv.out.2.1
                go_wp2_with (at_builtin; refine wpList_append_own _ rfl _ _ 22 rfl w.heap.size 3 i0 (.int .i64 0) 1 8 Tryd.underlying22 hi0 hz0 hz1 hz2 rfl (by decide) _ _ _ rfl (HO.out.alloc _) ⟨wo.heap.size, 0, none⟩ 1 1 [.int .i64 t] rfl rfl (cell_one _ _ _) (by intro u hu; simp at hu; subst hu; rfl) (by unfold maxLen; omega) (by omega) (by simp; omega) ?_; intro v1 w1 hown1 hgrow1 hnn; refine Hid.out ?_)
                refine hidden ?_
                clear hnn
                have R := dec_next hlt HT.out hinv.out.2.2 hwz HO.out hown1 hgrow1
                have hfin : n = (txt (l.take (k + 1))).length := by have h1 := G2.out; have h2 := HN.out; have h3 := HQ.out; simp only [List.length_cons, List.length_nil] at h1; omega
                have HR := hidden R
                have HF := hidden hfin
                clear HO hown1 hgrow1 hinv R hfin
                go_wp2
                go_roundw
                case rel => exact ⟨k + 1, n, by omega, rfl, hnS, HF.out, HR.out.1, HR.out.2⟩
                case measure => simp [intOf]; omega
      · obtain ⟨D, hD⟩ : ∃ D, D = Lib.decDigits t.natAbs := ⟨_, rfl⟩
        obtain ⟨g1, g2, g3⟩ := seg_of HSS.out hlt D [32, 84] (by rw [← HT.out, chunk, itoa_pos_eq hneg, hD]; rfl)
        rw [← hinv.out.1] at g1 g2 g3
        have dg : Hid (Dg S (P + 2) t.natAbs D) := ⟨g1, hD, by have := hti.out; unfold I64 at this; omega⟩
        have x0 : ∀ W : World, (Instr.index 9 (.string S) (.int .i64 (P : Int))).run Tryd.prog W = .ok (.int .u8 32) W := idx_at (n := P) (by simpa using g3 0 (by simp))
        have x1 : ∀ W : World, (Instr.index 9 (.string S) (.int .i64 ((P : Int) + 1))).run Tryd.prog W = .ok (.int .u8 84) W := idx_at (n := P + 1) (by simpa using g3 1 (by simp))
        have hl := dg.out.len
        have hsg := dg.out.seg.1
        obtain ⟨q, hq⟩ : ∃ q : Nat, q = P + 2 := ⟨_, rfl⟩
        have hq2 : (P : Int) + 1 + 1 = (q : Int) := by omega
        rw [← hq] at dg hsg
        obtain ⟨cd, cd0, cd1, x2, _, _⟩ := dg.out.read (Nat.le_refl q) (by omega)
        have hcd : (cd == 45) = false := by rw [beq_eq_false_iff_ne]; omega
        have G2 := hidden g2
        have HQ := hidden hq
        have hp1 : (q : Int) < (S.size : Int) := by omega
        have hp2 : (P : Int) + 1 < (S.size : Int) := by omega
        clear g1 g2 g3 hD hq
        go_wp2
        clear x0 x1 x2 hq2 hcd cd0 cd1
        go_loop [5, 8] (fun pv mv => ∃ (n : Nat) (M : Int), pv = .int .i64 n ∧ mv = .int .u64 M ∧ q ≤ n ∧ n ≤ q + D.length ∧ 0 ≤ M ∧ M ≤ 9223372036854775808 ∧ Hid (M = dv (D.take (n - q)))) (fun pv _ => S.size - (intOf pv).toNat)
        case atStart => exact ⟨q, 0, rfl, rfl, Nat.le_refl _, by omega, by omega, by omega, by rw [Nat.sub_self]; rfl⟩
        case round =>
          obtain ⟨n, M, rfl, rfl, n1, n2, m0, m1, hM⟩ := hrel
          by_cases hmore : n < q + D.length
          · obtain ⟨c, c0, c1, hx, hstep, hbd⟩ := dg.out.read n1 hmore
            rw [← hM.out] at hstep hbd
            have HST := hidden hstep
            have hin : (n : Int) < (S.size : Int) := by omega
            clear hstep
            go_wp2
            go_round
            case rel => exact ⟨n + 1, _, by go_num, rfl, by omega, by omega, by omega, by omega, HST.out.symm⟩
            case measure => simp [intOf]; omega
          · have hn : n = q + D.length := by omega
            have htot := dg.out.total
            rw [← hn, ← hM.out] at htot
            have hstop := dg.out.stop
            rw [← hn] at hstop
            have hfirst := hidden (fun h => dg.out.first h)
            have HN := hidden hn
            have hqn : (q : Int) < (n : Int) := by omega
            have hqn2 : (n : Int) - (q : Int) ≤ 19 := by omega
            have hne : ((n : Int) == (q : Int)) = false := by rw [beq_eq_false_iff_ne]; omega
            have hnS : n ≤ S.size := by omega
            have hPn : P < n := by have := HQ.out; omega
            have hwz : w.heap.size ≤ wo.heap.size := hinv.out.2.2.size
            have htm : M = t := by omega
            have m2 : M ≤ 9223372036854775807 := by have := hti.out.2; omega
            clear htot
            subst htm
            clear hM
            rcases hstop with hend | ⟨hend, hx⟩
            case' inl => have hend2 : ¬ (n : Int) < (S.size : Int) := by omega
            case' inr => have hend2 : (n : Int) < (S.size : Int) := by omega
            all_goals
              clear hend
              by_cases hone : D.length = 1
              case' pos => have hone2 : (n : Int) - (q : Int) ≤ 1 := by omega
              case' neg =>
                have hone2 : 1 < (n : Int) - (q : Int) := by omega
                obtain ⟨cf, hcf, hxf⟩ := hfirst.out (by omega)
              all_goals
                clear hn hone
                go_upto_region 37 with fail
                clear m0 m1 m2 hqn hqn2 hne hone2 hend2 hfirst dg hl hsg hneg hti n1 n2 hmore
                have HO := hidden hinv.out.2.1
                go_wp2_with (at_builtin; refine wpList_append_own _ rfl _ _ 22 rfl w.heap.size 3 i0 (.int .i64 0) 1 8 Tryd.underlying22 hi0 hz0 hz1 hz2 rfl (by decide) _ _ _ rfl (HO.out.alloc _) ⟨wo.heap.size, 0, none⟩ 1 1 [.int .i64 M] rfl rfl (cell_one _ _ _) (by intro u hu; simp at hu; subst hu; rfl) (by unfold maxLen; omega) (by omega) (by simp; omega) ?_; intro v1 w1 hown1 hgrow1 hnn; refine Hid.out ?_)
                refine hidden ?_
                clear hnn
                have R := dec_next hlt HT.out hinv.out.2.2 hwz HO.out hown1 hgrow1
                have hfin : n = (txt (l.take (k + 1))).length := by have h1 := G2.out; have h2 := HN.out; have h3 := HQ.out; simp only [List.length_cons, List.length_nil] at h1; omega
                have HR := hidden R
                have HF := hidden hfin
                clear HO hown1 hgrow1 hinv R hfin
                go_wp2
                go_roundw
                case rel => exact ⟨k + 1, n, by omega, rfl, hnS, HF.out, HR.out.1, HR.out.2⟩
                case measure => simp [intOf]; omega
    · have hPe : P = S.size := by
        have h1 := hinv.out.1
        rw [List.take_of_length_le (by omega)] at h1
        rw [h1, size_of HSS.out]
      have hown := hinv.out.2.1
      obtain rfl : k = l.length := by omega
      rw [List.take_length] at hown
      have HO := hidden hown
      have hend : ¬ (P : Int) < (S.size : Int) := by omega
      clear hown hPe
      go_wp2
      go_ret2
      exact ⟨_, rfl, HO.out, hinv.out.2.2⟩
end Go.Proofs.Qxb6630490aDoor
