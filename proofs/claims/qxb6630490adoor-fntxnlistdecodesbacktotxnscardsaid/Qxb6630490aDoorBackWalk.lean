import Derived.Test.Qxb6630490aDoorDecode
import Derived.Deep.QuietTactic
import Derived.BigQuiet
namespace Go.Proofs.Qxb6630490aDoor
open Go.RowKit

set_option maxHeartbeats 400000 in
theorem bytes9_ok (a : Option Addr) (n cap : Nat) (w : World) (h : n ≤ 1048576) :
    Calls Tryd.prog 9 #[.slice a n cap] w fun e w' => e = .returned (.bool true) ∧ w' = w := by
  go_enter Tryd.func9, Tryd.ntmps9
  go_wp2
  go_ret
  exact ⟨rfl, rfl⟩
set_option maxHeartbeats 400000 in
theorem bytes9_no (a : Option Addr) (n cap : Nat) (w : World) (h : 1048576 < n) :
    Calls Tryd.prog 9 #[.slice a n cap] w fun e w' => e = .returned (.bool false) ∧ w' = w := by
  go_enter Tryd.func9, Tryd.ntmps9
  go_wp2
  go_ret
  exact ⟨rfl, rfl⟩
set_option maxHeartbeats 400000 in
theorem back_out (a : Option Addr) (n cap : Nat) (w : World) (h : 131072 < n) (hn : n ≤ 9223372036854775807) :
    Calls Tryd.prog 4 #[.slice a n cap] w fun e w' => e = .returned (.bool true) ∧ w' = w := by
  by_cases h1 : 1048576 < n
  · go_enter Tryd.func4, Tryd.ntmps4
    go_wp2_with (go_at_call 9; refine (bytes9_no _ _ _ _ h1).mono ?_; rintro e w' ⟨rfl, rfl⟩)
    go_ret
    exact ⟨rfl, rfl⟩
  · go_enter Tryd.func4, Tryd.ntmps4
    go_wp2_with (go_at_call 9; refine (bytes9_ok _ _ _ _ (by omega)).mono ?_; rintro e w' ⟨rfl, rfl⟩)
    go_ret
    exact ⟨rfl, rfl⟩

theorem bytes_toList (a : List UInt8) : (⟨a.toArray⟩ : ByteArray).data.toList = a := by simp

/-- What the slice of the call's own that zzDecode hands back is. -/
theorem own_form {w : World} {B : Nat} {v : Value} {l : List Int} (h : w.ownsRow B 3 1 v l.length (l.map (Value.int .i64))) :
    ∃ a c, v = .slice a l.length c ∧ (0 < l.length → ∃ g, a = some ⟨g, 0, none⟩ ∧ ∀ k, k < l.length → w.cell? ⟨g, k, none⟩ = some (.int .i64 (l[k]?.getD 0))) := by
  have h2 := h
  rcases h.2 with ⟨rfl, h0⟩ | ⟨g, cap, cur, rfl, _⟩
  · exact ⟨none, 0, by rw [h0], fun hp => by omega⟩
  · refine ⟨_, cap, rfl, fun _ => ⟨g, rfl, fun k hk => ?_⟩⟩
    rw [h2.cellAt k (by simpa using hk), List.getElem?_map, List.getElem?_eq_getElem hk]
    rfl

set_option maxHeartbeats 1000000 in
theorem back_nil (w : World) (htab : Tab w.heap.size w) :
    Calls Tryd.prog 4 #[.slice none 0 0] w fun e w' => e = .returned (.bool true) ∧ Below w.heap.size w w' := by
  have hnil := neq_nil
  have HT := hidden htab
  clear htab
  go_enter Tryd.func4, Tryd.ntmps4
  go_wp2_with (first | (go_at_call 9; refine (bytes9_ok _ _ _ _ (by omega)).mono ?_; rintro e w ⟨rfl, rfl⟩; refine Hid.out ?_))
  refine hidden ?_
  go_wp2_with fail
  refine (list_any none 0 0 [] _ ⟨fun k => by simp [I64], fun h => by simp at h⟩ rfl (by omega) HT.out).mono ?_
  rintro e w3 ⟨rfl, b3⟩
  go_wp2_with fail
  refine (decode_any [] _ _ (bytes_toList _) (fun k => by simp [I64]) (by simp)).mono ?_
  rintro e w4 ⟨v, rfl, hown, b4⟩
  obtain ⟨a, c, rfl, _⟩ := own_form hown
  have hs0 : ((0 : Int) != 0) = false := rfl
  clear hown
  go_wp2
  refine wp_loop_rounds 1 ?_
  rw [rounds_succ]
  go_wp2
  go_ret
  exact ⟨rfl, b3.trans (b4.mono b3.size)⟩

set_option maxHeartbeats 1000000 in
theorem back_some (x : Addr) (cap : Nat) (l : List Int) (w : World) (h : l.length ≤ 131072) (htab : Tab w.heap.size w)
    (hc : ∀ k, k < l.length → w.cell? (x.add k) = some (.int .i64 (l[k]?.getD 0))) (hb : ∀ k : Nat, I64 (l[k]?.getD 0)) :
    Calls Tryd.prog 4 #[.slice (some x) l.length cap] w fun e w' => e = .returned (.bool true) ∧ Below w.heap.size w w' := by
  have hnil := neq_nil
  have hmk := mk_ints l.length (by omega)
  have HC := hidden hc
  have HB := hidden hb
  have HT := hidden htab
  clear hc hb htab
  go_enter Tryd.func4, Tryd.ntmps4
  go_wp2_with (first | (go_at_call 9; refine (bytes9_ok _ _ _ _ (by omega)).mono ?_; rintro e w ⟨rfl, rfl⟩) | (refine wpList_copy_splice rfl (.tmp 19) (.tmp 20) 22 22 rfl 3 Tryd.underlying22 info3s _ _ _ _ _ _ rfl rfl w.heap.size 0 (madeCells #[.int .i64 0] l.length).toList 3 ?hg (l.map (Value.int .i64)) ?hn ?hpos ?hfit ?h1 w.heap.size w ?hbb (Nat.le_refl _) ?_))
  case hg => rw [Array.toArray_toList]; exact heap_alloc_new _ _
  case hn => simp
  case hpos => exact fun _ j a ha => src_cells HC.out _ j a ha
  case hfit => simp [size_madeCells]
  case h1 => exact ints_one l
  case hbb => exact (Below.refl _ _).alloc (Nat.le_refl _) _
  intro w2 hrow hbel
  have R2 := hidden (copied_row hrow.out)
  have B2 := hidden hbel
  have T2 := hidden (HT.out.on hbel)
  have z2 := hbel.size
  clear hmk hrow hbel HC HT hnil
  go_wp2_with fail
  refine (list_any _ _ _ l _ (R2.out.is (off := 0) HB.out (fun k hk => by rw [Nat.zero_add]; exact ⟨hk, rfl⟩)) rfl (by omega) (T2.out.lower z2)).mono ?_
  rintro e w3 ⟨rfl, b3⟩
  have z3 := Nat.le_trans z2 b3.size
  have R3 := hidden (R2.out.on b3 (Nat.le_refl _))
  have B3 := hidden (B2.out.trans (b3.mono z2))
  clear b3 R2 B2 T2
  go_wp2_with fail
  refine (decode_any l _ _ (bytes_toList _) HB.out h).mono ?_
  rintro e w4 ⟨v, rfl, hown, b4⟩
  have R4 := hidden (R3.out.on b4 (Nat.le_refl _))
  have B4 := hidden (B3.out.trans (b4.mono z3))
  obtain ⟨a, c, rfl, hcell⟩ := own_form hown
  have HCE := hidden hcell
  have hs0 : ((l.length : Int) != (l.length : Int)) = false := by simp
  clear hown hcell b4 R3 B3
  rcases Nat.eq_zero_or_pos l.length with h0 | h0
  · go_wp2
    refine wp_loop_rounds 1 ?_
    rw [rounds_succ]
    go_wp2
    go_ret
    exact ⟨rfl, B4.out⟩
  · obtain ⟨g, rfl, hgc⟩ := HCE.out h0
    have HG := hidden hgc
    clear hgc HCE
    go_wp2
    go_loopw [7] (fun i wr => ∃ k n : Nat, k ≤ l.length ∧ i = .int .i64 k ∧ wr = w4.drewN n) (fun i _ => l.length - (intOf i).toNat)
    case atStart => exact ⟨0, 0, Nat.zero_le _, rfl, rfl⟩
    case round =>
      obtain ⟨k, n, hk, rfl, rfl⟩ := hrel
      by_cases hlt : k < l.length
      · have e1 := HG.out k hlt
        have e2 := R4.out.2 k hlt
        obtain ⟨y, hy⟩ : ∃ y : Int, y = l[k]?.getD 0 := ⟨_, rfl⟩
        rw [← hy] at e1 e2
        have hii : (k : Int) < (l.length : Int) := by omega
        have hs : (y != y) = false := by simp
        clear hy
        go_wp2
        go_quiet (fail)
        go_wp2
        go_roundw
        case rel => exact ⟨k + 1, _, by omega, by go_num, rfl⟩
        case measure => simp [intOf]; omega
      · go_wp2
        go_ret
        exact ⟨rfl, below_drewN B4.out _⟩
end Go.Proofs.Qxb6630490aDoor
