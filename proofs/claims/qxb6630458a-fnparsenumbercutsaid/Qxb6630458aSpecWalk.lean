import Derived.Test.Qxb6630458aReads
import Derived.WalkSpells
import Derived.Laws.CopyOwn
namespace Go.Proofs.Qxb6630458a
open Go.RowKit

theorem info5s : (Try.prog.info? 5).map (·.size) = some 1 := by kernel_rfl
theorem neq_nil (w : World) (a : Option Addr) (n c : Nat) : (binOp .neq 22 (.slice a n c) (.slice none 0 0)).run Try.prog w = .ok (.bool (!a.isNone)) w := run_neq_slice_nil_any w 22 5 a n c 0 0 Try.underlying22
theorem mk_bytes (n : Nat) (hn : n ≤ 4194304) (W : World) : (Instr.makeSlice 22 (.int .i64 (n : Int)) (.int .i64 (n : Int))).run Try.prog W = .ok (.slice (some ⟨W.heap.size, 0, none⟩) n n) (W.alloc (.cells (madeCells #[.int .u8 0] n) 5)) :=
  run_make_row' 22 5 (.int .u8 0) 1 Try.underlying22 info5 rfl _ _ _ (by omega) (by omega) W

set_option maxHeartbeats 400000 in
theorem bytes_ok (a : Option Addr) (n cap : Nat) (L : Int) (w : World) (h : n ≤ 1048576) :
    Calls Try.prog 5 #[.slice a n cap, .int .u64 L] w fun e w' => e = .returned (.bool true) ∧ w' = w := by
  go_enter Try.func5, Try.ntmps5
  go_wp2
  go_ret
  exact ⟨rfl, rfl⟩
set_option maxHeartbeats 400000 in
theorem bytes_no (a : Option Addr) (n cap : Nat) (L : Int) (w : World) (h : 1048576 < n) :
    Calls Try.prog 5 #[.slice a n cap, .int .u64 L] w fun e w' => e = .returned (.bool false) ∧ w' = w := by
  go_enter Try.func5, Try.ntmps5
  go_wp2
  go_ret
  exact ⟨rfl, rfl⟩

set_option maxHeartbeats 400000 in
theorem spec_long (a : Option Addr) (n cap : Nat) (L : Int) (w : World) (h : 1048576 < n) :
    Calls Try.prog 3 #[.slice a n cap, .int .u64 L] w fun e w' => e = .returned (.bool true) ∧ w' = w := by
  go_enter Try.func3, Try.ntmps3
  go_wp2_with (go_at_call 5; refine (bytes_no _ _ _ _ _ h).mono ?_; rintro e w' ⟨rfl, rfl⟩)
  go_ret
  exact ⟨rfl, rfl⟩
set_option maxHeartbeats 400000 in
theorem spec_small (a : Option Addr) (n cap : Nat) (L : Int) (w : World) (h : n ≤ 1048576) (hL : L < 9) :
    Calls Try.prog 3 #[.slice a n cap, .int .u64 L] w fun e w' => e = .returned (.bool true) ∧ w' = w := by
  go_enter Try.func3, Try.ntmps3
  go_wp2_with (go_at_call 5; refine (bytes_ok _ _ _ _ _ h).mono ?_; rintro e w' ⟨rfl, rfl⟩)
  go_ret
  exact ⟨rfl, rfl⟩
set_option maxHeartbeats 400000 in
theorem spec_nil (L : Int) (w : World) (hL : 9 ≤ L) (hL2 : L ≤ 18446744073709551615) :
    Calls Try.prog 3 #[.slice none 0 0, .int .u64 L] w fun e w' => e = .returned (.bool true) ∧ w' = w := by
  have hn := neq_nil
  go_enter Try.func3, Try.ntmps3
  go_wp2_with (first | (go_at_call 5; refine (bytes_ok _ _ _ _ _ (by omega)).mono ?_; rintro e w' ⟨rfl, rfl⟩) | (go_at_call 6; refine (zz_none _ _ _ _).mono ?_; rintro e w' ⟨rfl, rfl⟩) | (go_at_call 7; refine (reads_none _ _ _ _).mono ?_; rintro e w' ⟨rfl, rfl⟩))
  go_ret
  exact ⟨rfl, rfl⟩

theorem splice_full {α : Type} (Z X : List α) (h : Z.length = X.length) : splice Z 0 X = X := by
  simp [splice, ← h]
theorem made_length (n : Nat) : (madeCells #[Value.int IntKind.u8 0] n).toList.length = n := by simp [size_madeCells]
theorem ints_one (l : List Int) : ∀ v ∈ l.map (Value.int .u8), v.oneCell' = true := by
  intro v hv
  obtain ⟨x, _, rfl⟩ := List.mem_map.1 hv
  rfl
/-- A copy of the bytes in a row of the call's own. -/
theorem copied_bs {w2 : World} {B : Nat} {l : List Int} (hb : ∀ k : Nat, 0 ≤ l[k]?.getD 0 ∧ l[k]?.getD 0 ≤ 255) (h : w2.heap[B]? = some (.cells (splice (madeCells #[Value.int IntKind.u8 0] l.length).toList 0 (l.map (Value.int .u8))).toArray 5 (0, 0))) :
    Bs w2 (some ⟨B, 0, none⟩) l := by
  rw [splice_full _ _ (by rw [made_length]; simp)] at h
  refine ⟨hb, fun _ => ⟨B, 0, rfl, (Array.getElem?_eq_some_iff.1 h).1, fun k hk => ?_⟩⟩
  rw [cell_of_row _ _ _ _ _ _ h, Nat.zero_add]
  simp [hk]
/-- The cells that came in, behind a new block. -/
theorem src_cells {w : World} {x : Addr} {l : List Int} (hc : ∀ k, k < l.length → w.cell? (x.add k) = some (.int .u8 (l[k]?.getD 0))) (o : Obj) (j : Nat) (a : Int) (h : l[j]? = some a) : (w.alloc o).cell? (x.add j) = some (.int .u8 a) := by
  have hj : j < l.length := (List.getElem?_eq_some_iff.1 h).1
  have h1 := hc j hj
  rw [h] at h1
  have h2 := block_lt_of_cell h1
  exact (((Below.refl w.heap.size w).alloc (Nat.le_refl _) o).cell h2).trans h1

set_option maxHeartbeats 1000000 in
theorem spec_some (x : Addr) (cap : Nat) (l : List Int) (L : Int) (w : World) (h : l.length ≤ 1048576) (hL : 9 ≤ L) (hL2 : L ≤ 18446744073709551615)
    (hc : ∀ k, k < l.length → w.cell? (x.add k) = some (.int .u8 (l[k]?.getD 0))) (hb : ∀ k : Nat, 0 ≤ l[k]?.getD 0 ∧ l[k]?.getD 0 ≤ 255) :
    Calls Try.prog 3 #[.slice (some x) l.length cap, .int .u64 L] w fun e w' => e = .returned (.bool true) ∧ Below w.heap.size w w' := by
  have hnil := neq_nil
  have hmk := mk_bytes l.length (by omega)
  have HC := hidden hc
  have HB := hidden hb
  clear hc hb
  go_enter Try.func3, Try.ntmps3
  go_wp2_with (first | (go_at_call 5; refine (bytes_ok _ _ _ _ _ h).mono ?_; rintro e w ⟨rfl, rfl⟩) | (refine wpList_copy_splice rfl (.tmp 24) (.tmp 25) 22 22 rfl 5 Try.underlying22 info5s _ _ _ _ _ _ rfl rfl w.heap.size 0 (madeCells #[.int .u8 0] l.length).toList 5 ?hg (l.map (Value.int .u8)) ?hn ?hpos ?hfit ?h1 w.heap.size w ?hbb (Nat.le_refl _) ?_))
  case hg => rw [Array.toArray_toList]; exact heap_alloc_new _ _
  case hn => simp
  case hpos => exact fun _ j a ha => src_cells HC.out _ j a ha
  case hfit => simp [size_madeCells]
  case h1 => exact ints_one l
  case hbb => exact (Below.refl _ _).alloc (Nat.le_refl _) _
  intro w2 hrow hbel
  have HBS := hidden (copied_bs HB.out hrow.out)
  clear hmk hrow
  go_wp2_with fail
  refine (zz_any _ _ _ _ _ HBS.out (by omega) hL hL2).mono ?_
  rintro e w2 ⟨rfl, rfl⟩
  go_wp2_with fail
  refine (reads_any _ _ _ _ _ HBS.out (Nat.le_refl _) (by omega) hL hL2).mono ?_
  rintro e w3 ⟨sv, rfl, hrd, hb3⟩
  cases hP : pnB l L with
  | false =>
    have hv := pnV_of_false hP
    go_wp2
    go_ret
    exact ⟨rfl, hbel.trans (hb3.mono hbel.size)⟩
  | true =>
    obtain ⟨i, s, hi, hs, rfl, hcan, hval⟩ := hrd hP
    have hv := pnV_of_true hP
    have hle := (pnB_iff.1 hP).2.2
    have hge := (vl_bounds (pnB_iff.1 hP).2.1).1
    have HV := hidden hv
    have HS := hidden hs
    have HVL := hidden hval
    have p0 : 0 ≤ pnV l L := by omega
    have p1 : pnV l L ≤ 18446744073709551615 := by omega
    clear hv hs hval hle hge hrd
    go_wp2_with fail
    refine (dec_any _ _ p0 p1).mono ?_
    rintro e w4 ⟨gd, ds, rfl, hcd, hvd, hdl, hbs, hb4⟩
    obtain rfl : ds = s := canon_unique hcd hcan (by rw [hvd, HV.out, HVL.out])
    obtain ⟨gd', od, hge, hgd, hdc⟩ := hbs.2 (List.length_pos_iff.2 hcd.1)
    simp only [Option.some.injEq, Addr.mk.injEq] at hge
    obtain ⟨rfl, rfl, _⟩ := hge
    obtain ⟨g', o', hge, hg', hlc⟩ := HBS.out.2 (by omega)
    simp only [Option.some.injEq, Addr.mk.injEq] at hge
    obtain ⟨rfl, rfl, _⟩ := hge
    have hcell : ∀ k, k < ds.length → w4.cell? ⟨w.heap.size, i + k, none⟩ = some (.int .u8 (ds[k]?.getD 0)) := by
      intro k hk
      have hlen : ds.length = l.length - i := by rw [HS.out]; simp
      have := hlc (i + k) (by omega)
      rw [Nat.zero_add] at this
      rw [hb4.cell (show w.heap.size < w3.heap.size from Nat.lt_of_lt_of_le hg' hb3.size), hb3.cell (show w.heap.size < w2.heap.size from hg'), this, HS.out, List.getElem?_drop]
    have HD := hidden hdc
    have HE := hidden hcell
    have HVD := hidden hvd
    clear hdc hcell hvd hlc hbs
    go_wp2_with fail
    refine (same_any _ _ _ _ _ _ ds _ (by omega) HD.out HE.out).mono ?_
    rintro e w5 ⟨rfl, n5, rfl⟩
    go_wp2
    go_ret
    refine ⟨rfl, below_drewN ((hbel.trans (hb3.mono hbel.size)).trans (hb4.mono ?_)) _⟩
    have := hbel.size
    have := hb3.size
    omega
end Go.Proofs.Qxb6630458a
