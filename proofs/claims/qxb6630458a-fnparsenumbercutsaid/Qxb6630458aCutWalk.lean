import Derived.Test.Qxb6630458aSpecWalk
import Derived.Deep.DeepCutAuto
namespace Go.Proofs.Qxb6630458a
open Go.RowKit

set_option maxHeartbeats 400000 in
theorem bytes2_ok (a b : Option Addr) (n m cap cbp : Nat) (L : Int) (w : World) (h : n ≤ 65536) (h2 : m ≤ 65536) :
    Calls Try.prog 10 #[.slice a n cap, .slice b m cbp, .int .u64 L] w fun e w' => e = .returned (.bool true) ∧ w' = w := by
  go_enter Try.func10, Try.ntmps10
  go_wp2
  go_ret
  exact ⟨rfl, rfl⟩
set_option maxHeartbeats 400000 in
theorem bytes2_any (a b : Option Addr) (n m cap cbp : Nat) (L : Int) (w : World) (hn : n ≤ 9223372036854775807) (hm : m ≤ 9223372036854775807) :
    Calls Try.prog 10 #[.slice a n cap, .slice b m cbp, .int .u64 L] w fun e w' => (e = .returned (.bool true) ∨ e = .returned (.bool false)) ∧ w' = w := by
  go_enter Try.func10, Try.ntmps10
  go_wp2
  all_goals
    go_ret
    first | exact ⟨.inl rfl, rfl⟩ | exact ⟨.inr rfl, rfl⟩

set_option maxRecDepth 100000 in
/-- Outside the law's bounds it answers true at once. -/
theorem cut_out (a b : Option Addr) (n m cap cbp : Nat) (L : Int) (w : World) (hn : n ≤ 9223372036854775807) (hm : m ≤ 9223372036854775807) (h : 65536 < n ∨ 65536 < m ∨ L < 9) :
    Calls Try.prog 4 #[.slice a n cap, .slice b m cbp, .int .u64 L] w fun e w' => e = .returned (.bool true) ∧ w' = w := by
  by_cases h1 : 65536 < n
  case' pos => skip
  case' neg => by_cases h2 : 65536 < m
  case' pos => skip
  case' neg => have h3 : L < 9 := by omega
  all_goals
    go_enter Try.func4, Try.ntmps4
    go_wp2_with fail
    refine (bytes2_any _ _ _ _ _ _ _ _ hn hm).mono ?_
    rintro e w ⟨rfl | rfl, rfl⟩
    all_goals
      go_wp2
      go_ret
      exact ⟨rfl, rfl⟩

/-- A slice of bytes as it came in. -/
def Src (w : World) (a : Option Addr) (l : List Int) (cap : Nat) : Prop :=
  (∀ k : Nat, 0 ≤ l[k]?.getD 0 ∧ l[k]?.getD 0 ≤ 255) ∧ (a = none → l = [] ∧ cap = 0) ∧ ∀ x, a = some x → ∀ k, k < l.length → w.cell? (x.add k) = some (.int .u8 (l[k]?.getD 0))
/-- A slice of bytes of the call's own, or nil. -/
def Own (w : World) (a : Option Addr) (l : List Int) : Prop := Bs w a l ∧ (a = none → l.length = 0)

theorem Own.below {w w' : World} {a : Option Addr} {l : List Int} (h : Own w a l) {B : Nat} (hb : Below B w w') (hB : w.heap.size ≤ B) : Own w' a l := ⟨h.1.below hb hB, h.2⟩
theorem Own.nil (w : World) : Own w none [] := ⟨⟨fun k => by simp, fun h => by simp at h⟩, fun _ => rfl⟩
theorem Src.later {w w' : World} {a : Option Addr} {l : List Int} {cap : Nat} (h : Src w a l cap) (hb : Below w.heap.size w w') : Src w' a l cap :=
  ⟨h.1, h.2.1, fun x hx k hk => by
    have h1 := h.2.2 x hx k hk
    exact (hb.cell (block_lt_of_cell h1)).trans h1⟩

theorem zz_at (a : Option Addr) (n cap : Nat) (l : List Int) (L v : Int) (ok : Bool) (w : World) (h : Bs w a l) (hn : l.length = n) (hlen : n ≤ 4194304) (hL : 9 ≤ L) (hL2 : L ≤ 18446744073709551615) (hv : pnV l L = v) (hok : pnB l L = ok) :
    Calls Try.prog 6 #[.slice a n cap, .int .u64 L] w fun e w' => e = .returned (.tuple #[.int .u64 v, .bool ok]) ∧ w' = w := by
  subst hn; subst hv; subst hok
  exact zz_any a cap l L w h hlen hL hL2

/-- What the law asks of the three answers. -/
structure Three (na nb : Nat) (L v va vb : Int) (ok oka okb : Bool) : Prop where
  z : ok = false → v = 0
  za : oka = false → va = 0
  zb : okb = false → vb = 0
  ea : na = 0 → oka = false ∧ ok = okb ∧ v = vb
  eb : nb = 0 → okb = false ∧ ok = oka ∧ v = va
  no : 0 < na → 0 < nb → (oka = false ∨ okb = false) → ok = false
  ba : 0 ≤ va ∧ va ≤ L
  bb : 0 ≤ vb ∧ vb ≤ L
  yes : oka = true → okb = true → jnB va nb vb L = ok ∧ (ok = true → jnV va nb vb L = v)

theorem pnV_bounds (l : List Int) (L : Int) (hL : 0 ≤ L) : 0 ≤ pnV l L ∧ pnV l L ≤ L := by
  cases h : pnB l L with
  | false => rw [pnV_of_false h]; omega
  | true =>
    obtain ⟨_, h1, h2⟩ := pnB_iff.1 h
    rw [pnV_of_true h]; exact ⟨(vl_bounds h1).1, h2⟩

theorem three (la lb : List Int) (L : Int) (hL : 0 ≤ L) : Three la.length lb.length L (pnV (la ++ lb) L) (pnV la L) (pnV lb L) (pnB (la ++ lb) L) (pnB la L) (pnB lb L) where
  z := pnV_of_false
  za := pnV_of_false
  zb := pnV_of_false
  ea h := by obtain rfl := List.eq_nil_of_length_eq_zero h; exact ⟨pn_nil L, rfl, rfl⟩
  eb h := by obtain rfl := List.eq_nil_of_length_eq_zero h; rw [List.append_nil]; exact ⟨pn_nil L, rfl, rfl⟩
  no h1 h2 h := by
    rw [Bool.eq_false_iff]
    intro ht
    obtain ⟨e1, e2⟩ := pn_join_true ht (List.length_pos_iff.1 h1) (List.length_pos_iff.1 h2)
    rw [e1, e2] at h
    rcases h with h | h <;> cases h
  ba := pnV_bounds la L hL
  bb := pnV_bounds lb L hL
  yes h1 h2 := by
    have e := pn_join_iff h1 h2
    rw [pnV_of_true h1, pnV_of_true h2]
    refine ⟨e.symm, fun ht => ?_⟩
    rw [pnV_of_true ht, vl_join]
    rw [e, decide_eq_true_iff] at ht
    exact (jn_yes ht).2

theorem own_none {w : World} {a : Option Addr} {l : List Int} (h : Own w a l) (e : a = none) : l.length = 0 ∧ l.length = 0 := ⟨h.2 e, h.2 e⟩
theorem own_cells {w : World} {a : Option Addr} {l : List Int} (h : Own w a l) (ad : Addr) (e : a = some ad) (j : Nat) (u : Value) (hu : (l.map (Value.int .u8))[j]? = some u) : w.cell? (ad.add j) = some u := by
  rw [List.getElem?_map] at hu
  obtain ⟨x, hx, rfl⟩ := Option.map_eq_some_iff.1 hu
  have hj : j < l.length := (List.getElem?_eq_some_iff.1 hx).1
  obtain ⟨g, off, ha, _, hc⟩ := h.1.2 (by omega)
  obtain rfl : ad = ⟨g, off, none⟩ := Option.some.inj (e.symm.trans ha)
  have h1 := hc j hj
  rw [hx] at h1
  have hadd : (⟨g, off, none⟩ : Addr).add j = ⟨g, off + j, none⟩ := by unfold Addr.add; split <;> simp_all
  rw [hadd]; exact h1
theorem owned_bs {w : World} {B : Nat} {la lb : List Int} (ha : ∀ k : Nat, 0 ≤ la[k]?.getD 0 ∧ la[k]?.getD 0 ≤ 255) (hb : ∀ k : Nat, 0 ≤ lb[k]?.getD 0 ∧ lb[k]?.getD 0 ≤ 255)
    (h : w.ownsRow B 5 1 (.slice (some ⟨B, 0, none⟩) (la.length + lb.length) (la.length + lb.length)) (la.length + lb.length) (la.map (Value.int .u8) ++ lb.map (Value.int .u8))) : Bs w (some ⟨B, 0, none⟩) (la ++ lb) := by
  refine ⟨fun k => ?_, fun h0 => ⟨B, 0, rfl, (h.lt B rfl).2, fun k hk => ?_⟩⟩
  · rcases Nat.lt_or_ge k la.length with h1 | h1
    · rw [List.getElem?_append_left h1]; exact ha k
    · rw [List.getElem?_append_right h1]; exact hb _
  · rw [Nat.zero_add, h.cellAt k (by simpa using hk), ← List.map_append, List.getElem?_map, List.getElem?_eq_getElem hk]
    rfl

set_option maxRecDepth 100000 in
set_option maxHeartbeats 2000000 in
theorem cut_in (a0 b0 : Option Addr) (la lb : List Int) (ca cb : Nat) (L : Int) (w : World) (hla : la.length ≤ 65536) (hlb : lb.length ≤ 65536) (hL : 9 ≤ L) (hL2 : L ≤ 18446744073709551615) (hA : Hid (Src w a0 la ca)) (hB : Hid (Src w b0 lb cb)) :
    Calls Try.prog 4 #[.slice a0 la.length ca, .slice b0 lb.length cb, .int .u64 L] w fun e w' => e = .returned (.bool true) ∧ Below w.heap.size w w' := by
  have hnil := neq_nil
  have hmka := mk_bytes la.length (by omega)
  have hmkb := mk_bytes lb.length (by omega)
  go_enter Try.func4, Try.ntmps4
  go_upto_if 36 with (go_at_call 10; refine (bytes2_ok _ _ _ _ _ _ _ _ hla hlb).mono ?_; rintro e w ⟨rfl, rfl⟩)
  go_cut [0, 7] (fun s0 _ wx => ∃ aa, s0 = .slice aa la.length la.length ∧ Hid (Own wx aa la) ∧ Below w.heap.size w wx)
  case first =>
    cases a0 with
    | none =>
      obtain ⟨rfl, rfl⟩ := hA.out.2.1 rfl
      go_wp2
      go_meet
      case rel => exact ⟨none, rfl, Own.nil w, Below.refl _ _⟩
    | some x =>
      go_wp2_with (refine wpList_copy_splice rfl (.tmp 40) (.tmp 41) 22 22 rfl 5 Try.underlying22 info5s _ _ _ _ _ _ rfl rfl w.heap.size 0 (madeCells #[.int .u8 0] la.length).toList 5 ?hg (la.map (Value.int .u8)) ?hn ?hpos ?hfit ?h1 w.heap.size w ?hbb (Nat.le_refl _) ?_)
      case hg => rw [Array.toArray_toList]; exact heap_alloc_new _ _
      case hn => simp
      case hpos => exact fun _ j a ha => src_cells (hA.out.2.2 x rfl) _ j a ha
      case hfit => simp [size_madeCells]
      case h1 => exact ints_one la
      case hbb => exact (Below.refl _ _).alloc (Nat.le_refl _) _
      intro w2 hrow hbel
      have HBS := hidden (copied_bs hA.out.1 hrow.out)
      clear hrow
      go_wp2
      go_meet
      case rel => exact ⟨_, rfl, ⟨HBS.out, fun h => by cases h⟩, hbel⟩
  case rest =>
    obtain ⟨aa, rfl, hoa, hb1⟩ := hcut
    have hB1 : Hid (Src wc b0 lb cb) := hB.out.later hb1
    obtain ⟨w1, rfl⟩ : ∃ w1 : World, w1 = wc := ⟨_, rfl⟩
    clear hA hB
    go_upto_if 45 with fail
    go_cut [1, 8] (fun s1 _ wx => ∃ bb, s1 = .slice bb lb.length lb.length ∧ Hid (Own wx aa la ∧ Own wx bb lb) ∧ Below w.heap.size w wx)
    case first =>
      cases b0 with
      | none =>
        obtain ⟨rfl, rfl⟩ := hB1.out.2.1 rfl
        go_wp2
        go_meet
        case rel => exact ⟨none, rfl, ⟨hoa.out, Own.nil _⟩, hb1⟩
      | some x =>
        go_wp2_with (refine wpList_copy_splice rfl (.tmp 49) (.tmp 50) 22 22 rfl 5 Try.underlying22 info5s _ _ _ _ _ _ rfl rfl w1.heap.size 0 (madeCells #[.int .u8 0] lb.length).toList 5 ?hg2 (lb.map (Value.int .u8)) ?hn2 ?hpos2 ?hfit2 ?h12 w1.heap.size w1 ?hbb2 (Nat.le_refl _) ?_)
        case hg2 => rw [Array.toArray_toList]; exact heap_alloc_new _ _
        case hn2 => simp
        case hpos2 => exact fun _ j a ha => src_cells (hB1.out.2.2 x rfl) _ j a ha
        case hfit2 => simp [size_madeCells]
        case h12 => exact ints_one lb
        case hbb2 => exact (Below.refl _ _).alloc (Nat.le_refl _) _
        intro w2 hrow hbel
        have HBS := hidden (copied_bs hB1.out.1 hrow.out)
        clear hrow
        go_wp2
        go_meet
        case rel => exact ⟨_, rfl, ⟨hoa.out.below hbel (Nat.le_refl _), HBS.out, fun h => by cases h⟩, hb1.trans (hbel.mono hb1.size)⟩
    case rest =>
      obtain ⟨bb, rfl, hob, hb2⟩ := hcut
      obtain ⟨w2, rfl⟩ : ∃ w2 : World, w2 = wc := ⟨_, rfl⟩
      clear hB1 hoa hb1 hmka hmkb hnil
      go_wp2_with fail
      refine (dec_any L _ (by omega) hL2).mono ?_
      rintro e w3 ⟨g3, ds, rfl, hcd, hvd, hdl, hbs, hb3⟩
      have t1 := pn_mk hcd.1 hcd.2.1 (show vl 0 ds ≤ L by omega)
      have t2 := (pnV_of_true t1).trans hvd
      have HBS := hidden hbs
      have HO : Hid (Own w3 aa la ∧ Own w3 bb lb) := ⟨hob.out.1.below hb3 (Nat.le_refl _), hob.out.2.below hb3 (Nat.le_refl _)⟩
      have B3 : Hid (Below w.heap.size w w3) := hb2.trans (hb3.mono hb2.size)
      clear hob hbs hb2 hb3 hvd
      go_wp2_with fail
      refine (zz_any _ _ _ _ _ HBS.out (by omega) hL hL2).mono ?_
      rintro e w3 ⟨rfl, rfl⟩
      clear HBS
      have hneq : (L != L) = false := by simp
      go_upto_if 68 with fail
      go_cut [11, 12] (fun _ _ wx => Hid (Own wx aa la ∧ Own wx bb lb) ∧ Hid (Below w.heap.size w wx))
      case first =>
        by_cases hmx : L < 18446744073709551615
        · go_wp2_with fail
          refine (dec_any (L + 1) _ (by omega) (by omega)).mono ?_
          rintro e w4 ⟨g4, dt, rfl, hcd4, hvd4, hdl4, hbs4, hb4⟩
          have u1 := pn_big (show L < vl 0 dt by omega)
          have u2 := pnV_of_false u1
          have HBS4 := hidden hbs4
          have HO4 : Hid (Own w4 aa la ∧ Own w4 bb lb) := ⟨HO.out.1.below hb4 (Nat.le_refl _), HO.out.2.below hb4 (Nat.le_refl _)⟩
          have B4 : Hid (Below w.heap.size w w4) := B3.out.trans (hb4.mono B3.out.size)
          clear hbs4 hb4 HO B3 hvd4
          go_wp2_with fail
          refine (zz_any _ _ _ _ _ HBS4.out (by omega) hL hL2).mono ?_
          rintro e w4 ⟨rfl, rfl⟩
          go_wp2
          go_meet
          case rel => exact ⟨HO4, B4⟩
        · go_wp2
          go_meet
          case rel => exact ⟨HO, B3⟩
      case rest =>
        obtain ⟨HO5, B5⟩ := hcut
        obtain ⟨w5, rfl⟩ : ∃ w5 : World, w5 = wc := ⟨_, rfl⟩
        clear HO B3 t1 t2 hcd hdl hneq
        obtain ⟨i0, hi0, hz0, hz1, hz2⟩ := info_parts info5
        have hb5 := B5.out.size
        go_wp2_with (at_make; refine wpList_make_own _ rfl _ _ 22 rfl w5.heap.size 5 i0 (.int .u8 0) 1 Try.underlying22 hi0 hz0 hz1 _ _ _ (la.length + lb.length) rfl rfl (by omega) (by rw [hz2]; omega) (by unfold maxLen; omega) (Nat.le_refl _) ?_; intro w6 hown6 hgrow6; refine Hid.out ?_)
        refine hidden ?_
        have bl6 : Below w5.heap.size w5 w6 := (Below.refl _ _).grown hgrow6 (Nat.le_refl _) (fun k e => by cases e)
        have HO6 : Hid (Own w6 aa la ∧ Own w6 bb lb) := ⟨HO5.out.1.below bl6 (Nat.le_refl _), HO5.out.2.below bl6 (Nat.le_refl _)⟩
        have z6 := bl6.size
        have O6 := hidden hown6
        clear hown6 hgrow6
        go_wp2_with (at_builtin; refine wpList_append_fits_any _ rfl (.tmp 88) (.tmp 89) 22 rfl w5.heap.size 5 i0 1 Try.underlying22 hi0 hz1 w5.heap.size 0 (la.length + lb.length) [] rfl O6.out aa la.length la.length (la.map (Value.int .u8)) rfl (by simp) (own_none HO6.out.1) (own_cells HO6.out.1) (ints_one la) (by omega) ?_; intro w7 hown7 hgrow7; refine Hid.out ?_)
        refine hidden ?_
        have bl7 : Below w5.heap.size w6 w7 := (Below.refl _ _).grown hgrow7 z6 (fun k e => by cases e; exact Nat.le_refl _)
        have HO7 : Hid (Own w7 aa la ∧ Own w7 bb lb) := ⟨HO5.out.1.below (bl6.trans bl7) (Nat.le_refl _), HO5.out.2.below (bl6.trans bl7) (Nat.le_refl _)⟩
        have z7 := (bl6.trans bl7).size
        simp only [Nat.zero_add, List.nil_append] at hown7
        have O7 := hidden hown7
        clear hown7 hgrow7 HO6 O6
        go_wp2_with (at_builtin; refine wpList_append_fits_any _ rfl (.tmp 91) (.tmp 92) 22 rfl w5.heap.size 5 i0 1 Try.underlying22 hi0 hz1 w5.heap.size la.length (la.length + lb.length) (la.map (Value.int .u8)) rfl O7.out bb lb.length lb.length (lb.map (Value.int .u8)) rfl (by simp) (own_none HO7.out.2) (own_cells HO7.out.2) (ints_one lb) (by omega) ?_; intro w8 hown8 hgrow8; refine Hid.out ?_)
        refine hidden ?_
        have bl8 : Below w5.heap.size w7 w8 := (Below.refl _ _).grown hgrow8 z7 (fun k e => by cases e; exact Nat.le_refl _)
        have HO8 : Hid (Own w8 aa la ∧ Own w8 bb lb) := ⟨HO5.out.1.below ((bl6.trans bl7).trans bl8) (Nat.le_refl _), HO5.out.2.below ((bl6.trans bl7).trans bl8) (Nat.le_refl _)⟩
        have B8 : Hid (Below w.heap.size w w8) := B5.out.trans (((bl6.trans bl7).trans bl8).mono hb5)
        have BSab : Hid (Bs w8 (some ⟨w5.heap.size, 0, none⟩) (la ++ lb)) := owned_bs HO8.out.1.1.1 HO8.out.2.1.1 hown8
        clear hown8 hgrow8 HO7 O7 bl6 bl7 bl8 HO5 B5 z6 z7 hb5
        have T := three la lb L (by omega)
        obtain ⟨v, hv⟩ : ∃ v, pnV (la ++ lb) L = v := ⟨_, rfl⟩
        obtain ⟨va, hva⟩ : ∃ v, pnV la L = v := ⟨_, rfl⟩
        obtain ⟨vb, hvb⟩ : ∃ v, pnV lb L = v := ⟨_, rfl⟩
        obtain ⟨ok, hok⟩ : ∃ v, pnB (la ++ lb) L = v := ⟨_, rfl⟩
        obtain ⟨oka, hoka⟩ : ∃ v, pnB la L = v := ⟨_, rfl⟩
        obtain ⟨okb, hokb⟩ : ∃ v, pnB lb L = v := ⟨_, rfl⟩
        have c1 := hidden hv
        have c2 := hidden hva
        have c3 := hidden hvb
        have c4 := hidden hok
        have c5 := hidden hoka
        have c6 := hidden hokb
        rw [hv, hva, hvb, hok, hoka, hokb] at T
        clear hv hva hvb hok hoka hokb
        go_wp2_with fail
        refine (zz_at _ _ _ _ _ v ok _ BSab.out (by simp) (by omega) hL hL2 c1.out c4.out).mono ?_
        rintro e w8 ⟨rfl, rfl⟩
        go_wp2_with fail
        refine (zz_at _ _ _ _ _ va oka _ HO8.out.1.1 rfl (by omega) hL hL2 c2.out c5.out).mono ?_
        rintro e w8 ⟨rfl, rfl⟩
        go_wp2_with fail
        refine (zz_at _ _ _ _ _ vb okb _ HO8.out.2.1 rfl (by omega) hL hL2 c3.out c6.out).mono ?_
        rintro e w8 ⟨rfl, rfl⟩
        clear c1 c2 c3 c4 c5 c6 BSab HO8 hz0 hz1 hz2 hi0
        obtain ⟨tz, tza, tzb, tea, teb, tno, tba, tbb, tyes⟩ := T
        rcases Nat.eq_zero_or_pos la.length with h0 | h0
        · obtain ⟨rfl, rfl, rfl⟩ := tea h0
          have q0 := tza rfl
          have hz : ((la.length : Int) == 0) = true := by simp [h0]
          clear tza tea teb tno tyes tzb
          cases ok with
          | false =>
            have q1 := tz rfl
            clear tz
            go_wp2
            go_ret
            exact ⟨rfl, B8.out⟩
          | true =>
            clear tz
            go_wp2
            go_ret
            exact ⟨rfl, B8.out⟩
        · have hz : ((la.length : Int) == 0) = false := by rw [beq_eq_false_iff_ne]; omega
          rcases Nat.eq_zero_or_pos lb.length with h1 | h1
          · obtain ⟨rfl, rfl, rfl⟩ := teb h1
            have q0 := tzb rfl
            have hz2 : ((lb.length : Int) == 0) = true := by simp [h1]
            clear tza tea teb tno tyes tzb
            cases ok with
            | false =>
              have q1 := tz rfl
              clear tz
              go_wp2
              go_ret
              exact ⟨rfl, B8.out⟩
            | true =>
              clear tz
              go_wp2
              go_ret
              exact ⟨rfl, B8.out⟩
          · have hz2 : ((lb.length : Int) == 0) = false := by rw [beq_eq_false_iff_ne]; omega
            clear tea teb
            cases oka with
            | false =>
              have q0 := tza rfl
              obtain rfl : ok = false := tno h0 h1 (.inl rfl)
              have q1 := tz rfl
              clear tza tz tno tyes
              cases okb with
              | false =>
                have q2 := tzb rfl
                clear tzb
                go_wp2
                go_ret
                exact ⟨rfl, B8.out⟩
              | true =>
                clear tzb
                go_wp2
                go_ret
                exact ⟨rfl, B8.out⟩
            | true =>
              cases okb with
              | false =>
                have q0 := tzb rfl
                obtain rfl : ok = false := tno h0 h1 (.inr rfl)
                have q1 := tz rfl
                clear tza tz tno tyes tzb
                go_wp2
                go_ret
                exact ⟨rfl, B8.out⟩
              | true =>
                obtain ⟨y1, y2⟩ := tyes rfl rfl
                clear tza tno tyes tzb
                cases ok with
                | false =>
                  have q1 := tz rfl
                  clear tz y2
                  go_wp2_with fail
                  refine (join_any _ _ _ _ _ (by omega) tba.1 tba.2 tbb.1 tbb.2 hL hL2).mono ?_
                  rintro e w8 ⟨rfl, rfl⟩
                  go_wp2
                  go_ret
                  exact ⟨rfl, B8.out⟩
                | true =>
                  have y3 := y2 rfl
                  clear tz y2
                  go_wp2_with fail
                  refine (join_any _ _ _ _ _ (by omega) tba.1 tba.2 tbb.1 tbb.2 hL hL2).mono ?_
                  rintro e w8 ⟨rfl, rfl⟩
                  go_wp2
                  go_ret
                  exact ⟨rfl, B8.out⟩
end Go.Proofs.Qxb6630458a
