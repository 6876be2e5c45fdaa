import Derived.Test.Qxb6631232aDoorBundle
import Derived.Deep.RegionWith
namespace Go.Proofs.Qxb6631232aDoor
open Go.RowKit

theorem two_pos (s : Int) (L : List UInt8) : 0 < (hdr s ++ L).length := by simp [hdr, root]

theorem bytes_append (a b : List UInt8) : (⟨a.toArray⟩ : ByteArray) ++ ⟨b.toArray⟩ = ⟨(a ++ b).toArray⟩ := by
  apply ByteArray.ext
  simp
theorem bytes_size (a : List UInt8) : (⟨a.toArray⟩ : ByteArray).size = a.length := by
  simp [ByteArray.size]
theorem bytes_list (y : ByteArray) : (⟨y.data.toList.toArray⟩ : ByteArray) = y := by simp
theorem drop_hdr (t : Int) (G : List (ByteArray × Int)) (l : List UInt8) (h : lines G = l) : (hdr t ++ lines G).drop (hdr t ++ lines []).length = l := by
  rw [← h]; simp [lines]
theorem itoa_at (t : Int) (S : ByteArray) (w : World) (h : I64 t) (hS : S = ⟨(Lib.itoa t).toArray⟩) : Calls Tryd.prog 9 #[.int .i64 t] w fun e w' => e = .returned (.string S) ∧ Below w.heap.size w w' := by
  subst hS; exact itoa_any t w h
/-- RootIndex.Bytes, its text and the text's length under names. -/
theorem bytes_at (s : Int) (a : Option Addr) (n cap : Nat) (G : List (ByteArray × Int)) (T : List UInt8) (L : Nat) (w : World) (hs : I64 s) (htab : Tab w.heap.size w) (hG : Gs w a G) (hok : Ok G) (hwt : wt G ≤ 4194304) (hn : G.length = n) (hT : T = hdr s ++ lines G) (hL : L = T.length) :
    Calls Tryd.prog 8 #[.agg #[.int .i64 s, .slice a n cap]] w fun e w' => ∃ g c, e = .returned (.slice (some ⟨g, 0, none⟩) L c) ∧ L ≤ c ∧ c ≤ maxLen ∧ Rd w' g T ∧ Below w.heap.size w w' := by
  refine (bytes_any s a n cap G w hs htab hG hok hwt hn).mono ?_
  rintro e w' ⟨v, rfl, o, b⟩
  rw [← hT] at o
  obtain ⟨g, c, rfl, h1, h2, h3, h4⟩ := o.rd (by rw [hT]; exact two_pos _ _)
  rw [hL]
  exact ⟨g, c, rfl, h1, h2, h4, b⟩

set_option maxHeartbeats 4000000 in
set_option maxRecDepth 100000 in
theorem split_walk (s t u : Int) (a b : Option Addr) (n cap m cbp : Nat) (G H : List (ByteArray × Int)) (y : ByteArray) (w : World) (hs : I64 s) (ht : I64 t) (hu : I64 u) (hn : G.length = n) (hm : H.length = m) (hG : Gs w a G) (hH : Gs w b H) (oG : Ok G) (oH : Ok H) (htab : Tab w.heap.size w) :
    Calls Tryd.prog 3 #[.int .i64 s, .int .i64 t, .slice a n cap, .slice b m cbp, .string y, .int .i64 u] w fun e w' => e = .returned (.bool true) ∧ Below w.heap.size w w' := by
  obtain ⟨i0, hi0, hz0, hz1, hz2⟩ := info_parts info32
  have HG := hidden hG
  have HH := hidden hH
  have HT := hidden htab
  have HO := hidden (And.intro oG oH)
  have HI := hidden (And.intro hs (And.intro ht hu))
  have HN := hidden (And.intro hn hm)
  clear hG hH htab oG oH hs ht hu hn hm
  go_enter Tryd.func3, Tryd.ntmps3
  go_wp2_with fail
  refine (zz5 s t u a b n cap m cbp G H y w HN.out.1 HN.out.2 HG.out HH.out).mono ?_
  rintro e w ⟨q, rfl, hq, rfl⟩
  cases q with
  | false =>
    go_wp2
    go_ret
    exact ⟨rfl, Below.refl _ _⟩
  | true =>
    obtain ⟨⟨ln, shG⟩, ⟨lm, shH⟩, ly⟩ := hq rfl
    have HSG := hidden shG
    have HSH := hidden shH
    clear hq shG shH
    go_wp2_with fail
    refine (add_any a n cap G y.size w HN.out.1 HG.out (by omega) (by omega) ln (by rw [HN.out.1]; exact HSG.out)).mono ?_
    rintro e w ⟨r, rfl, hr, rfl⟩
    by_cases hr1 : r ≤ 1048576
    · have hr := hr hr1
      have r0 : 0 ≤ r := by omega
      have HR := hidden hr
      clear hr
      go_wp2_with fail
      refine (add_any b m cbp H r w HN.out.2 HH.out (by omega) (by omega) lm (by rw [HN.out.2]; exact HSH.out)).mono ?_
      rintro e w ⟨r', rfl, hr', rfl⟩
      by_cases hr2 : r' ≤ 1048576
      · have hr' := hr' hr2
        have W1 : Hid (wt G + wt H + y.size ≤ 1048576) := by have := HR.out; show _ ≤ _; omega
        clear HR hr' HSG HSH
        go_wp2_with fail
        refine (stamps_any a n cap G w HN.out.1 HG.out ln).mono ?_
        rintro e w1 ⟨a1, c1, rfl, g1, nil1, b1⟩
        have B1 : Hid (Bu w w1 [(a1, G)] []) := Bu.gs ⟨b1, by simp, by simp⟩ g1
        have gH1 := HH.out.below b1 (Nat.le_refl _)
        have N1 := hidden nil1
        clear nil1 g1 b1
        go_wp2_with fail
        refine (stamps_any b m cbp H w1 HN.out.2 gH1 lm).mono ?_
        rintro e w2 ⟨a2, c2, rfl, g2, nil2, b2⟩
        have B2 : Hid (Bu w w2 [(a2, H), (a1, G)] []) := (B1.out.on b2).gs g2
        have N2 := hidden nil2
        clear nil2 g2 b2 B1 gH1
        have z2 := B2.out.1.size
        have hby : i0.bytes * (n + m) ≤ 281474976710656 := by rw [hz2]; omega
        have hmx : n + m ≤ maxLen := by unfold maxLen; omega
        go_wp2_with (refine wpList_make_own _ rfl _ _ 25 rfl w2.heap.size 32 i0 _ 2 Tryd.underlying25 hi0 hz0 hz1 _ _ _ (n + m) rfl rfl (Int.natCast_add n m).symm hby hmx (Nat.le_refl _) ?_; intro w3 own3 grow3; refine Hid.out ?_)
        refine hidden ?_
        have b3 : Below w2.heap.size w2 w3 := (Below.refl _ _).grown grow3 (Nat.le_refl _) (fun j hj => by simp at hj)
        have B3 := hidden (B2.out.on b3)
        have O3 := hidden own3
        have BB3 := hidden b3
        have k1 : Hid (∀ ad, a1 = some ad → ∀ j u, (cellsOf G)[j]? = some u → w3.cell? (ad.add j) = some u) := (B3.out.2.1 (a1, G) (by simp)).cells
        have cl1 : (cellsOf G).length = n * 2 := by rw [cellsOf_length, HN.out.1]
        have cl2 : (cellsOf H).length = m * 2 := by rw [cellsOf_length, HN.out.2]
        have one1 := hidden (cellsOf_one G)
        have one2 := hidden (cellsOf_one H)
        clear grow3 own3 hby hmx b3 z2
        go_wp2_with (at_builtin; refine wpList_append_fits_any _ rfl _ _ 25 rfl w2.heap.size 32 i0 2 Tryd.underlying25 hi0 hz1 w2.heap.size 0 (n + m) [] rfl O3.out a1 n c1 (cellsOf G) rfl cl1 N1.out k1.out one1.out (by omega) ?_; intro w4 own4 grow4; refine Hid.out ?_)
        refine hidden ?_
        have b4 : Below w2.heap.size w2 w4 := BB3.out.grown grow4 BB3.out.size (fun j hj => by obtain rfl := Option.some.inj hj; exact Nat.le_refl _)
        have B4 := hidden ((B2.out).on b4)
        have O4 : Hid (w4.ownsRow w2.heap.size 32 2 (.slice (some ⟨w2.heap.size, 0, none⟩) n (n + m)) n (cellsOf G)) := by rw [Nat.zero_add, List.nil_append] at own4; exact own4
        have BB4 := hidden b4
        have k2 : Hid (∀ ad, a2 = some ad → ∀ j u, (cellsOf H)[j]? = some u → w4.cell? (ad.add j) = some u) := (B4.out.2.1 (a2, H) (by simp)).cells
        clear grow4 own4 b4 O3 BB3 B3 k1 B4
        go_wp2_with (at_builtin; refine wpList_append_fits_any _ rfl _ _ 25 rfl w2.heap.size 32 i0 2 Tryd.underlying25 hi0 hz1 w2.heap.size n (n + m) (cellsOf G) rfl O4.out a2 m c2 (cellsOf H) rfl cl2 N2.out k2.out one2.out (by omega) ?_; intro w5 own5 grow5; refine Hid.out ?_)
        refine hidden ?_
        have b5 : Below w2.heap.size w2 w5 := BB4.out.grown grow5 BB4.out.size (fun j hj => by obtain rfl := Option.some.inj hj; exact Nat.le_refl _)
        have gs5 : Gs w5 (some ⟨w2.heap.size, 0, none⟩) (G ++ H) := own_gs (n := n + m) (by rw [cellsOf_append]; exact own5) (by simp [HN.out.1, HN.out.2])
        have B5 := hidden ((B2.out.on b5).gs gs5)
        clear grow5 own5 b5 gs5 O4 BB4 k2 one1 one2 cl1 cl2 B2 N1 N2
        obtain ⟨T1, hT1⟩ : ∃ T, T = hdr s ++ lines [] := ⟨_, rfl⟩
        obtain ⟨T2, hT2⟩ : ∃ T, T = hdr t ++ lines [] := ⟨_, rfl⟩
        obtain ⟨TW, hTW⟩ : ∃ T, T = hdr s ++ lines (G ++ H) := ⟨_, rfl⟩
        obtain ⟨TL, hTL⟩ : ∃ T, T = hdr s ++ lines G := ⟨_, rfl⟩
        obtain ⟨TR, hTR⟩ : ∃ T, T = hdr t ++ lines H := ⟨_, rfl⟩
        obtain ⟨TO, hTO⟩ : ∃ T, T = hdr t ++ lines [(y, u)] := ⟨_, rfl⟩
        obtain ⟨L1, hL1⟩ : ∃ L, L = T1.length := ⟨_, rfl⟩
        obtain ⟨L2, hL2⟩ : ∃ L, L = T2.length := ⟨_, rfl⟩
        obtain ⟨LW, hLW⟩ : ∃ L, L = TW.length := ⟨_, rfl⟩
        obtain ⟨LL, hLL⟩ : ∃ L, L = TL.length := ⟨_, rfl⟩
        obtain ⟨LR, hLR⟩ : ∃ L, L = TR.length := ⟨_, rfl⟩
        obtain ⟨LO, hLO⟩ : ∃ L, L = TO.length := ⟨_, rfl⟩
        have ET1 := hidden hT1
        have ET2 := hidden hT2
        have ETW := hidden hTW
        have ETL := hidden hTL
        have ETR := hidden hTR
        have ETO := hidden hTO
        have EL1 := hidden hL1
        have EL2 := hidden hL2
        have ELW := hidden hLW
        have ELL := hidden hLL
        have ELR := hidden hLR
        have ELO := hidden hLO
        have oky : Hid (Ok [(y, u)]) := fun k => by
          cases k with
          | zero => exact HI.out.2.2
          | succ k => simp [st, I64]
        clear hT1 hT2 hTW hTL hTR hTO hL1 hL2 hLW hLL hLR hLO
        go_wp2_with fail
        refine (bytes_at s none 0 0 [] T1 L1 _ HI.out.1 (B5.out.tab HT.out) (fun h => by simp at h) (fun k => by simp [st, I64]) (by simp [wt]) (rfl) ET1.out EL1.out).mono ?_
        rintro e w6 ⟨g1, c6, rfl, ig1, jg1, rdg1, b6⟩
        have B6 := hidden ((B5.out.on b6).rs rdg1)
        clear rdg1 b6 B5
        go_wp2_with fail
        refine (bytes_at t none 0 0 [] T2 L2 _ HI.out.2.1 (B6.out.tab HT.out) (fun h => by simp at h) (fun k => by simp [st, I64]) (by simp [wt]) (rfl) ET2.out EL2.out).mono ?_
        rintro e w7 ⟨g2, c7, rfl, ig2, jg2, rdg2, b7⟩
        have B7 := hidden ((B6.out.on b7).rs rdg2)
        clear rdg2 b7 B6
        go_wp2_with fail
        refine (bytes_at s _ _ _ (G ++ H) TW LW _ HI.out.1 (B7.out.tab HT.out) (B7.out.2.1 (_, G ++ H) (by simp)) (ok_append HO.out.1 HO.out.2) (by have := W1.out; rw [wt_append]; omega) (by simp [HN.out.1, HN.out.2]) ETW.out ELW.out).mono ?_
        rintro e w8 ⟨gW, c8, rfl, igW, jgW, rdgW, b8⟩
        have B8 := hidden ((B7.out.on b8).rs rdgW)
        clear rdgW b8 B7
        go_wp2_with fail
        refine (bytes_at s _ _ _ G TL LL _ HI.out.1 (B8.out.tab HT.out) (B8.out.2.1 (_, G) (by simp)) HO.out.1 (by have := W1.out; omega) (by simp [HN.out.1]) ETL.out ELL.out).mono ?_
        rintro e w9 ⟨gL, c9, rfl, igL, jgL, rdgL, b9⟩
        have B9 := hidden ((B8.out.on b9).rs rdgL)
        clear rdgL b9 B8
        go_wp2_with fail
        refine (bytes_at t _ _ _ H TR LR _ HI.out.2.1 (B9.out.tab HT.out) (B9.out.2.1 (_, H) (by simp)) HO.out.2 (by have := W1.out; omega) (by simp [HN.out.2]) ETR.out ELR.out).mono ?_
        rintro e w10 ⟨gR, c10, rfl, igR, jgR, rdgR, b10⟩
        have B10 := hidden ((B9.out.on b10).rs rdgR)
        clear rdgR b10 B9
        have BA : Hid (Bu w (w10.alloc (.cells #[.string y, .int .i64 u] 32)) [(some ⟨w10.heap.size, 0, none⟩, [(y, u)])] [(gR, TR), (gL, TL), (gW, TW), (g2, T2), (g1, T1)]) := by
          refine Bu.gs ⟨(B10.out.on ((Below.refl _ _).alloc (Nat.le_refl _) _)).1, by simp, (B10.out.on ((Below.refl _ _).alloc (Nat.le_refl _) _)).2.2⟩ fun _ => ⟨_, 0, rfl, by simp, fun k hk => ?_⟩
          obtain rfl : k = 0 := by simp at hk; omega
          exact ⟨cell_of_row _ _ 0 _ _ _ (heap_alloc_new _ _), cell_of_row _ _ 1 _ _ _ (heap_alloc_new _ _)⟩
        clear B10
        go_wp2_with fail
        refine (bytes_at t _ 1 _ [(y, u)] TO LO _ HI.out.2.1 (BA.out.tab HT.out) (BA.out.2.1 (_, [(y, u)]) (by simp)) oky.out (by have := W1.out; simp [wt]; omega) rfl ETO.out ELO.out).mono ?_
        rintro e w11 ⟨gO, c11, rfl, igO, jgO, rdgO, b11⟩
        have B11 : Hid (Bu w w11 [] [(gO, TO), (gR, TR), (gL, TL), (gW, TW), (g2, T2), (g1, T1)]) := ⟨(BA.out.on b11).1, by simp, ((BA.out.on b11).rs rdgO).2.2⟩
        clear rdgO b11 BA
        obtain ⟨S1, hS1⟩ : ∃ S : ByteArray, S = ⟨(T1.drop 0).toArray⟩ := ⟨_, rfl⟩
        obtain ⟨SI, hSI⟩ : ∃ S : ByteArray, S = ⟨(Lib.itoa s).toArray⟩ := ⟨_, rfl⟩
        obtain ⟨SJ, hSJ⟩ : ∃ S : ByteArray, S = ⟨(Lib.itoa u).toArray⟩ := ⟨_, rfl⟩
        obtain ⟨SO, hSO⟩ : ∃ S : ByteArray, S = ⟨(TO.drop L2).toArray⟩ := ⟨_, rfl⟩
        obtain ⟨SW, hSW⟩ : ∃ S : ByteArray, S = ⟨(TW.drop 0).toArray⟩ := ⟨_, rfl⟩
        obtain ⟨SL, hSL⟩ : ∃ S : ByteArray, S = ⟨(TL.drop 0).toArray⟩ := ⟨_, rfl⟩
        obtain ⟨SR, hSR⟩ : ∃ S : ByteArray, S = ⟨(TR.drop L2).toArray⟩ := ⟨_, rfl⟩
        have dO : Hid (TO.drop L2 = line y u) := by rw [EL2.out, ET2.out, ETO.out]; exact drop_hdr t [(y, u)] _ (by simp [lines])
        have dR : Hid (TR.drop L2 = lines H) := by rw [EL2.out, ET2.out, ETR.out]; exact drop_hdr t H _ rfl
        have r1 : (({ data := #[116, 105, 100, 101, 119, 97, 114, 100, 45, 114, 111, 111, 116, 32] } : ByteArray) ++ SI) ++ { data := #[10] } = S1 := by
          rw [hSI, hS1, ET1.out]
          refine (congrArg (· ++ _) (bytes_append [116, 105, 100, 101, 119, 97, 114, 100, 45, 114, 111, 111, 116, 32] _)).trans ((bytes_append _ [10]).trans ?_)
          simp [hdr, root, lines]
        have r2 : ((y ++ ({ data := #[32] } : ByteArray)) ++ SJ) ++ { data := #[10] } = SO := by
          rw [hSJ, hSO, dO.out, ← bytes_list y]
          refine (congrArg (fun z => (z ++ _) ++ _) (bytes_append y.data.toList [32])).trans ?_
          refine (congrArg (· ++ _) (bytes_append _ _)).trans ((bytes_append _ [10]).trans ?_)
          simp [line]
        have r3 : SL ++ SR = SW := by
          rw [hSL, hSR, hSW, dR.out, ETL.out, ETW.out, bytes_append, lines_append]
          simp
        have n1 : SI.size ≤ 21 := by rw [hSI, bytes_size]; exact Lib.itoa_length_le s HI.out.1.1 HI.out.1.2
        have n2 : SJ.size ≤ 21 := by rw [hSJ, bytes_size]; exact Lib.itoa_length_le u HI.out.2.2.1 HI.out.2.2.2
        have n3 : (({ data := #[116, 105, 100, 101, 119, 97, 114, 100, 45, 114, 111, 111, 116, 32] } : ByteArray) ++ SI).size ≤ 35 := by
          have e14 : (⟨#[116, 105, 100, 101, 119, 97, 114, 100, 45, 114, 111, 111, 116, 32]⟩ : ByteArray).size = 14 := rfl
          rw [ByteArray.size_append, e14]; omega
        have n4 : (y ++ ({ data := #[32] } : ByteArray)).size ≤ 1048577 := by
          have e1 : (⟨#[32]⟩ : ByteArray).size = 1 := rfl
          rw [ByteArray.size_append, e1]; omega
        have n5 : ((y ++ ({ data := #[32] } : ByteArray)) ++ SJ).size ≤ 1048598 := by rw [ByteArray.size_append]; omega
        have n6 : SL.size ≤ 1048612 := by
          rw [hSL, bytes_size, List.drop_zero, ETL.out, List.length_append]
          have q1 := hdr_length s HI.out.1
          have q2 := lines_length G HO.out.1
          have q3 := W1.out
          omega
        have n7 : SR.size ≤ 1048612 := by
          rw [hSR, bytes_size, dR.out]
          have q2 := lines_length H HO.out.2
          have q3 := W1.out
          omega
        have HL : Hid ((L2 ≤ LO ∧ L2 ≤ LR) ∧ LO ≤ 4194304 ∧ LR ≤ 4194304) := by
          have q1 := hdr_length t HI.out.2.1
          have q2 := lines_length H HO.out.2
          have q3 := W1.out
          have q4 := line_length y u HI.out.2.2
          have q5 : lines [(y, u)] = line y u := by simp [lines]
          show (_ ∧ _) ∧ _
          rw [EL2.out, ELO.out, ELR.out, ET2.out, ETO.out, ETR.out, List.length_append, List.length_append, List.length_append, q5]
          simp only [lines, List.flatMap_nil, List.length_nil]
          simp only [lines] at q2
          omega
        have ES1 := hidden hS1
        have ESI := hidden hSI
        have ESJ := hidden hSJ
        have ESO := hidden hSO
        have ESW := hidden hSW
        have ESL := hidden hSL
        have ESR := hidden hSR
        have cv1 : Hid (∀ W, Rd W g1 T1 → (convert 27 9 (.slice (some ⟨g1, 0, none⟩) L1 c6)).run Tryd.prog W = .ok (.string S1) W) := fun W h => by
          rw [ES1.out]; exact h.conv 0 0 L1 c6 (by rw [EL1.out]; rfl) (fun _ => rfl)
        have D11 := hidden (B11.out.on (Below.refl _ _).drew)
        have cd11 := cv1.out w11.drew (D11.out.2.2 (g1, T1) (by simp))
        clear hS1 hSI hSJ hSO hSW hSL hSR dO dR
        go_upto_region 23 with fail
        go_cut [92] from 86 to 92 (fun x wx => x = .bool false ∧ Hid (Bu w wx [] [(gO, TO), (gR, TR), (gL, TL), (gW, TW), (g2, T2), (g1, T1)]))
        case first =>
          go_region_with (go_at_call 9; refine (itoa_at s SI _ HI.out.1 ESI.out).mono ?_; rintro e w12 ⟨rfl, b12⟩; have B12 := hidden (D11.out.on b12); have c12 := cv1.out w12 (B12.out.2.2 (g1, T1) (by simp)); clear b12)
          all_goals (go_wp2_with fail; go_meet; exact ⟨rfl, B12⟩)
        case rest =>
          obtain ⟨rfl, B13⟩ := hcut
          clear cd11 D11 B11 cv1
          go_wp2_with fail
          refine (pre_any gR LR c10 g2 L2 c7 TR T2 (lines H) _ (B13.out.2.2 (gR, TR) (by simp)) (B13.out.2.2 (g2, T2) (by simp)) (by rw [ETR.out, ET2.out]; simp [lines]) ELR.out EL2.out (by have := HL.out; omega)).mono ?_
          rintro e w14 ⟨rfl, b14⟩
          have B14 := hidden (B13.out.on b14)
          clear b14 B13
          go_wp2_with fail
          refine (pre_any gO LO c11 g2 L2 c7 TO T2 (lines [(y, u)]) _ (B14.out.2.2 (gO, TO) (by simp)) (B14.out.2.2 (g2, T2) (by simp)) (by rw [ETO.out, ET2.out]; simp [lines]) ELO.out EL2.out (by have := HL.out; omega)).mono ?_
          rintro e w15 ⟨rfl, b15⟩
          have B15 := hidden (B14.out.on b15)
          clear b15 B14
          obtain ⟨oO, hoO⟩ : ∃ o, o = if c11 = L2 then 0 else L2 := ⟨_, rfl⟩
          obtain ⟨oR, hoR⟩ : ∃ o, o = if c10 = L2 then 0 else L2 := ⟨_, rfl⟩
          have sl1 := cut_at gO LO c11 L2 HL.out.1.1
          have sl2 := cut_at' gO LO c11 L2 HL.out.1.1
          have sl3 := cut_at gR LR c10 L2 HL.out.1.2
          have sl4 := cut_at' gR LR c10 L2 HL.out.1.2
          rw [← hoO] at sl1 sl2
          rw [← hoR] at sl3 sl4
          have cvO : Hid (∀ W, Rd W gO TO → (convert 27 9 (.slice (some ⟨gO, oO, none⟩) (LO - L2) (c11 - L2))).run Tryd.prog W = .ok (.string SO) W) := fun W h => by
            rw [ESO.out]; exact h.conv L2 oO _ _ (by rw [ELO.out]) (fun h0 => by rw [hoO, if_neg (by omega)])
          have cvR : Hid (∀ W, Rd W gR TR → (convert 27 9 (.slice (some ⟨gR, oR, none⟩) (LR - L2) (c10 - L2))).run Tryd.prog W = .ok (.string SR) W) := fun W h => by
            rw [ESR.out]; exact h.conv L2 oR _ _ (by rw [ELR.out]) (fun h0 => by rw [hoR, if_neg (by omega)])
          have cvW : Hid (∀ W, Rd W gW TW → (convert 27 9 (.slice (some ⟨gW, 0, none⟩) LW c8)).run Tryd.prog W = .ok (.string SW) W) := fun W h => by
            rw [ESW.out]; exact h.conv 0 0 LW c8 (by rw [ELW.out]; rfl) (fun _ => rfl)
          have cvL : Hid (∀ W, Rd W gL TL → (convert 27 9 (.slice (some ⟨gL, 0, none⟩) LL c9)).run Tryd.prog W = .ok (.string SL) W) := fun W h => by
            rw [ESL.out]; exact h.conv 0 0 LL c9 (by rw [ELL.out]; rfl) (fun _ => rfl)
          clear hoO hoR
          have D15 := hidden (B15.out.on (Below.refl _ _).drew)
          have cd15 := cvO.out w15.drew (D15.out.2.2 (gO, TO) (by simp))
          go_upto_region 27 with fail
          go_cut [114] from 103 to 114 (fun x wx => x = .bool false ∧ Hid (Bu w wx [] [(gO, TO), (gR, TR), (gL, TL), (gW, TW), (g2, T2), (g1, T1)]))
          case first =>
            go_region_with (go_at_call 9; refine (itoa_at u SJ _ HI.out.2.2 ESJ.out).mono ?_; rintro e w16 ⟨rfl, b16⟩; have B16 := hidden (D15.out.on b16); have c16 := cvO.out w16 (B16.out.2.2 (gO, TO) (by simp)); clear b16)
            all_goals (go_wp2_with fail; go_meet; exact ⟨rfl, B16⟩)
          case rest =>
            obtain ⟨rfl, B17⟩ := hcut
            clear cd15 D15 B15 cvO
            go_upto_region 29 with fail
            have D17 : Hid (∀ N, Bu w (wc.drewN N) [] [(gO, TO), (gR, TR), (gL, TL), (gW, TW), (g2, T2), (g1, T1)]) := fun N => B17.out.on ⟨rfl, rfl, rfl, Nat.le_refl _, fun _ _ => rfl⟩
            have q1 := fun N => cvW.out (wc.drewN N) ((D17.out N).2.2 (gW, TW) (by simp))
            have q2 := fun N => cvL.out (wc.drewN N) ((D17.out N).2.2 (gL, TL) (by simp))
            have q3 := fun N => cvR.out (wc.drewN N) ((D17.out N).2.2 (gR, TR) (by simp))
            clear cvW cvL cvR
            go_quiet (fail)
            go_wp2
            go_ret
            exact ⟨rfl, B17.out.1.trans ⟨rfl, rfl, rfl, Nat.le_refl _, fun _ _ => rfl⟩⟩
      · go_wp2
        go_ret
        exact ⟨rfl, Below.refl _ _⟩
    · go_wp2
      go_ret
      exact ⟨rfl, Below.refl _ _⟩
end Go.Proofs.Qxb6631232aDoor
