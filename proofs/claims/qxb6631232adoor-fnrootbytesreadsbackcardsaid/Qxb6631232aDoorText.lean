import Derived.Test.Qxb6631232aDoorBytes
import Derived.Deep.DeepCutAuto
namespace Go.Proofs.Qxb6631232aDoor
open Go.RowKit

/-- The loop's own copy of a group stands while the row of bytes grows. -/
theorem struct_kept {B d : Nat} {v : Value} {T : List UInt8} {w w1 : World} {cs : Array Value} (h : Ow B v T w) (hd : w.heap[d]? = some (.cells cs 32 (0, 0))) (hg : w.grownBy w1 v.ownBlock) : w1.heap[d]? = some (.cells cs 32 (0, 0)) := by
  rw [hg.block d (Array.getElem?_eq_some_iff.1 hd).1 ?_]
  · exact hd
  · intro e
    rcases h.2 with ⟨rfl, _⟩ | ⟨g, cap, cur, rfl, _, hgg, _⟩
    · simp [Value.ownBlock] at e
    · have : d = g := by simpa [Value.ownBlock] using e
      subst this
      rw [hd] at hgg
      simp at hgg

set_option maxHeartbeats 2000000 in
theorem bytes_some (s : Int) (g off cap : Nat) (G : List (ByteArray × Int)) (w : World) (hs : I64 s) (htab : Tab w.heap.size w) (hG : 0 < G.length) (hg : g < w.heap.size) (hok : Ok G) (hwt : wt G ≤ 4194304)
    (hc : ∀ k, k < G.length → w.cell? ⟨g, off + k * 2, none⟩ = some (.string (nm G k)) ∧ w.cell? ⟨g, off + k * 2 + 1, none⟩ = some (.int .i64 (st G k))) :
    Calls Tryd.prog 8 #[.agg #[.int .i64 s, .slice (some ⟨g, off, none⟩) G.length cap]] w fun e w' => ∃ v, e = .returned v ∧ Ow w.heap.size v (hdr s ++ lines G) w' ∧ Below w.heap.size w w' := by
  obtain ⟨i0, hi0, hz0, hz1, hz2⟩ := info_parts info5
  have HT := hidden htab
  have HC := hidden hc
  have HK := hidden hok
  have hlen : G.length ≤ 1048576 := by have := len_wt G; omega
  have b0 : Below w.heap.size w (w.alloc (.cells #[.int .i64 s, .slice (some ⟨g, off, none⟩) G.length cap] 29)) := (Below.refl _ _).alloc (Nat.le_refl _) _
  clear htab hc hok
  go_enter Tryd.func8, Tryd.ntmps8
  go_wp2_with fail
  refine (header_any (w.heap.size + 1) s _ hs (by simp) ((HT.out.on b0).lower (by omega))).mono ?_
  rintro e w1 ⟨v1, rfl, O1, b1⟩
  have c1 : w1.cell? ⟨w.heap.size, 1, none⟩ = some (.slice (some ⟨g, off, none⟩) G.length cap) := (b1.cell (show w.heap.size < w.heap.size + 1 by omega)).trans (cell_of_row _ _ 1 _ _ _ (heap_alloc_new _ _))
  have HO := hidden (ow_lower O1 (show w.heap.size ≤ w.heap.size + 1 by omega))
  have HB := hidden (b0.trans (b1.mono (show w.heap.size ≤ w.heap.size + 1 by omega)))
  have hdl := hdr_length s hs
  clear O1 b1 b0
  go_wp2
  go_loopw [3, 12] (fun bv iv wr => ∃ k : Nat, k ≤ G.length ∧ iv = .int .i64 k ∧ Hid (Ow w.heap.size bv (hdr s ++ lines (G.take k)) wr ∧ Below w.heap.size w wr)) (fun _ iv _ => G.length - (intOf iv).toNat)
  case atStart => exact ⟨0, Nat.zero_le _, rfl, by simpa [lines] using HO.out, HB.out⟩
  case round =>
    obtain ⟨k, hk, rfl, hinv⟩ := hrel
    by_cases hlt : k < G.length
    · obtain ⟨x, hx⟩ : ∃ x, x = nm G k := ⟨_, rfl⟩
      obtain ⟨t, ht⟩ : ∃ t, t = st G k := ⟨_, rfl⟩
      obtain ⟨T, hT⟩ : ∃ T, T = hdr s ++ lines (G.take k) := ⟨_, rfl⟩
      obtain ⟨q1, q2⟩ := HC.out k hlt
      have e1 := (hinv.out.2.cell (p := ⟨g, off + k * 2, none⟩) hg).trans q1
      have e2 := (hinv.out.2.cell (p := ⟨g, off + k * 2 + 1, none⟩) hg).trans q2
      have ht64 : Hid (I64 t) := by rw [ht]; exact HK.out k
      have nT : T.length + (24 + x.size) ≤ 4194340 := by
        have h1 := wt_step hlt
        have h2 := wt_take G (k + 1)
        have h3 := lines_length (G.take k) (st_take HK.out k)
        rw [hT, List.length_append, hx]
        omega
      have EN : Hid (hdr s ++ lines (G.take (k + 1)) = T ++ line x t) := by rw [hT, hx, ht, lines_step hlt, List.append_assoc]; exact rfl
      rw [← hx] at e1
      rw [← ht] at e2
      rw [← hT] at hinv
      have z0 := hinv.out.2.size
      have hgw : g < wr.heap.size := by omega
      have O1 : Hid (Ow w.heap.size u3 T (wr.alloc (.cells #[.string x, .int .i64 t] 32))) := World.ownsRow.alloc hinv.out.1 _
      clear q1 q2 hx ht hT
      go_upto_region 5 with fail
      have d1 : (wr.alloc (.cells #[.string x, .int .i64 t] 32)).heap[wr.heap.size]? = some (.cells #[.string x, .int .i64 t] 32 (0, 0)) := heap_alloc_new _ _
      have zz1 : w.heap.size ≤ (wr.alloc (.cells #[.string x, .int .i64 t] 32)).heap.size := by simp; omega
      have D1 := hidden d1
      clear d1
      go_wp2_with (at_builtin; refine Lib.wpList_append_own_string _ rfl _ _ 27 9 rfl w.heap.size 5 i0 Tryd.underlying27 Tryd.underlying9 hi0 hz0 hz1 hz2 _ _ _ rfl O1.out x rfl (by unfold maxLen; omega) (by omega) zz1 ?_; intro v2 w2 hown2 hgrow2 hnn2; refine Hid.out ?_)
      refine hidden ?_
      have O2 := hidden (ow_str O1.out zz1 hown2 hgrow2)
      have D2 := hidden (struct_kept O1.out D1.out hgrow2)
      have B2 : Hid (Below w.heap.size w w2) := (hinv.out.2.alloc (by omega) _).trans O2.out.2
      have z2 := B2.out.size
      obtain ⟨T2, hT2⟩ : ∃ T', T' = T ++ x.data.toList := ⟨_, rfl⟩
      have n2 : T2.length = T.length + x.size := by rw [hT2, List.length_append, size_list]
      rw [← hT2] at O2
      have E2 := hidden hT2
      clear hnn2 hown2 hgrow2 hT2 O1 D1 zz1
      go_wp2_with (at_builtin; refine wpList_append_own _ rfl _ _ 27 rfl w.heap.size 5 i0 (.int .u8 0) 1 1 Tryd.underlying27 hi0 hz0 hz1 hz2 rfl (by decide) _ _ _ rfl (World.ownsRow.alloc O2.out.1 _) ⟨w2.heap.size, 0, none⟩ 1 1 [.int .u8 32] rfl rfl (cell_one _ _ _) (by intro u hu; simp at hu; subst hu; rfl) (by unfold maxLen; omega) (by omega) (by simp; omega) ?_; intro v3 w3 hown3 hgrow3 hnn3; refine Hid.out ?_)
      refine hidden ?_
      have O3 := hidden (ow_one (c := 32) O2.out.1 z2 hown3 hgrow3)
      have d3 := struct_kept (w := w2.alloc (.cells #[.int .u8 32] 5)) (World.ownsRow.alloc O2.out.1 _) ((Below.heap_alloc _ _ _ (Array.getElem?_eq_some_iff.1 D2.out).1).trans D2.out) hgrow3
      have c3 : w3.cell? ⟨wr.heap.size, 1, none⟩ = some (.int .i64 t) := cell_of_row _ _ 1 _ _ _ d3
      have B3 := hidden (B2.out.trans O3.out.2)
      have z3 := B3.out.size
      clear hnn3 hown3 hgrow3 d3 D2 O2 B2
      go_wp2_with fail
      refine (Tryd.strconv_AppendInt_10 w.heap.size _ t ht64.out.1 ht64.out.2 v3 _ _ O3.out.1 z3 (by simp; omega) (HT.out.on B3.out)).mono ?_
      rintro e w4 ⟨v4, rfl, hown4, b4, _⟩
      have O4 : Hid (Ow w.heap.size v4 (T2 ++ [32] ++ Lib.itoa t) w4) := by
        show World.ownsRow _ _ _ _ _ _ _
        rw [Lib.byteCells_append, List.length_append]; exact hown4
      have B4 := hidden (B3.out.trans b4)
      have z4 := B4.out.size
      obtain ⟨T4, hT4⟩ : ∃ T', T' = T2 ++ [32] ++ Lib.itoa t := ⟨_, rfl⟩
      rw [← hT4] at O4
      have n4 : T4.length ≤ T2.length + 22 := by rw [hT4]; have := Lib.itoa_length_le t ht64.out.1 ht64.out.2; simp; omega
      have E4 := hidden hT4
      clear hown4 b4 hT4 O3 B3 c3
      go_wp2_with (at_builtin; refine wpList_append_own _ rfl _ _ 27 rfl w.heap.size 5 i0 (.int .u8 0) 1 1 Tryd.underlying27 hi0 hz0 hz1 hz2 rfl (by decide) _ _ _ rfl (World.ownsRow.alloc O4.out _) ⟨w4.heap.size, 0, none⟩ 1 1 [.int .u8 10] rfl rfl (cell_one _ _ _) (by intro u hu; simp at hu; subst hu; rfl) (by unfold maxLen; omega) (by omega) (by simp; omega) ?_; intro v5 w5 hown5 hgrow5 hnn5; refine Hid.out ?_)
      refine hidden ?_
      have O5 := hidden (ow_one (c := 10) O4.out z4 hown5 hgrow5)
      have B5 := hidden (B4.out.trans O5.out.2)
      have F : Hid (Ow w.heap.size v5 (hdr s ++ lines (G.take (k + 1))) w5) := by
        have e : hdr s ++ lines (G.take (k + 1)) = T4 ++ [10] := by rw [EN.out, E4.out, E2.out]; simp [line]
        rw [e]; exact O5.out.1
      clear hnn5 hown5 hgrow5 O4 B4 O5 hinv n2
      go_wp2
      go_roundw
      case rel => exact ⟨k + 1, by omega, by go_num, F.out, B5.out⟩
      case measure => simp [intOf]; omega
    · have e : G.take k = G := List.take_of_length_le (by omega)
      rw [e] at hinv
      clear e
      go_wp2
      go_ret
      exact ⟨_, rfl, hinv.out.1, hinv.out.2⟩

/-- RootIndex.Bytes, at every slice of groups. -/
theorem bytes_any (s : Int) (a : Option Addr) (n cap : Nat) (G : List (ByteArray × Int)) (w : World) (hs : I64 s) (htab : Tab w.heap.size w) (hG : Gs w a G) (hok : Ok G) (hwt : wt G ≤ 4194304) (hn : G.length = n) :
    Calls Tryd.prog 8 #[.agg #[.int .i64 s, .slice a n cap]] w fun e w' => ∃ v, e = .returned v ∧ Ow w.heap.size v (hdr s ++ lines G) w' ∧ Below w.heap.size w w' := by
  subst hn
  rcases Nat.eq_zero_or_pos G.length with h0 | h0
  · obtain rfl : G = [] := List.eq_nil_of_length_eq_zero h0
    have := bytes_none s a cap w hs htab
    simpa [lines] using this
  · obtain ⟨g, off, rfl, hg, hc⟩ := hG h0
    exact bytes_some s g off cap G w hs htab h0 hg hok hwt hc
end Go.Proofs.Qxb6631232aDoor
