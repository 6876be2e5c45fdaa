import Derived.Test.Qxb6630490aDoorItoa
import Derived.WalkSpells
import Derived.Laws.CopyOwn
import Derived.Deep.OwnRows
namespace Go.Proofs.Qxb6630490aDoor
open Go.RowKit

theorem info3 : (Tryd.prog.info? 3).map (fun i => (i.zero, i.size, i.bytes)) = some (some (.int .i64 0), 1, 8) := by kernel_rfl
theorem info3s : (Tryd.prog.info? 3).map (·.size) = some 1 := by kernel_rfl
theorem neq_nil (w : World) (a : Option Addr) (n c : Nat) : (binOp .neq 22 (.slice a n c) (.slice none 0 0)).run Tryd.prog w = .ok (.bool (!a.isNone)) w := run_neq_slice_nil_any w 22 3 a n c 0 0 Tryd.underlying22
theorem mk_ints (n : Nat) (hn : n ≤ 1048576) (W : World) : (Instr.makeSlice 22 (.int .i64 (n : Int)) (.int .i64 (n : Int))).run Tryd.prog W = .ok (.slice (some ⟨W.heap.size, 0, none⟩) n n) (W.alloc (.cells (madeCells #[.int .i64 0] n) 3)) :=
  run_make_row' 22 3 (.int .i64 0) 8 Tryd.underlying22 info3 rfl _ _ _ (by omega) (by omega) W

theorem splice_full {α : Type} (Z X : List α) (h : Z.length = X.length) : splice Z 0 X = X := by
  simp [splice, ← h]
theorem made_length (n : Nat) : (madeCells #[Value.int IntKind.i64 0] n).toList.length = n := by simp [size_madeCells]
theorem ints_one (l : List Int) : ∀ v ∈ l.map (Value.int .i64), v.oneCell' = true := by
  intro v hv
  obtain ⟨x, _, rfl⟩ := List.mem_map.1 hv
  rfl
/-- A copy of the ints in a row of the call's own. -/
def Row (w2 : World) (B : Nat) (l : List Int) : Prop := B < w2.heap.size ∧ ∀ k, k < l.length → w2.cell? ⟨B, k, none⟩ = some (.int .i64 (l[k]?.getD 0))
theorem copied_row {w2 : World} {B : Nat} {l : List Int} (h : w2.heap[B]? = some (.cells (splice (madeCells #[Value.int IntKind.i64 0] l.length).toList 0 (l.map (Value.int .i64))).toArray 3 (0, 0))) : Row w2 B l := by
  rw [splice_full _ _ (by rw [made_length]; simp)] at h
  refine ⟨(Array.getElem?_eq_some_iff.1 h).1, fun k hk => ?_⟩
  rw [cell_of_row _ _ _ _ _ _ h]
  simp [hk]
theorem Row.on {w w' : World} {B : Nat} {l : List Int} (h : Row w B l) {C : Nat} (hb : Below C w w') (hC : w.heap.size ≤ C) : Row w' B l :=
  ⟨Nat.lt_of_lt_of_le h.1 hb.size, fun k hk => (hb.cell (show B < C from Nat.lt_of_lt_of_le h.1 hC)).trans (h.2 k hk)⟩
/-- A part of it, as a slice. -/
theorem Row.is {w : World} {B : Nat} {l m : List Int} {off : Nat} (h : Row w B l) (hi : ∀ k : Nat, I64 (l[k]?.getD 0)) (hm : ∀ k, k < m.length → off + k < l.length ∧ m[k]?.getD 0 = l[off + k]?.getD 0) : Is w (some ⟨B, off, none⟩) m :=
  ⟨fun k => by
    rcases Nat.lt_or_ge k m.length with h1 | h1
    · rw [(hm k h1).2]; exact hi _
    · rw [List.getElem?_eq_none h1]; simp [I64], fun _ => ⟨B, off, rfl, h.1, fun k hk => by rw [h.2 _ (hm k hk).1, (hm k hk).2]⟩⟩
theorem src_cells {w : World} {x : Addr} {l : List Int} (hc : ∀ k, k < l.length → w.cell? (x.add k) = some (.int .i64 (l[k]?.getD 0))) (o : Obj) (j : Nat) (a : Int) (h : l[j]? = some a) : (w.alloc o).cell? (x.add j) = some (.int .i64 a) := by
  have hj : j < l.length := (List.getElem?_eq_some_iff.1 h).1
  have h1 := hc j hj
  rw [h] at h1
  have h2 := block_lt_of_cell h1
  exact (((Below.refl w.heap.size w).alloc (Nat.le_refl _) o).cell h2).trans h1

set_option maxHeartbeats 400000 in
theorem bytes_ok (a : Option Addr) (n cap : Nat) (i : Int) (w : World) (h : n ≤ 1048576) :
    Calls Tryd.prog 5 #[.slice a n cap, .int .i64 i] w fun e w' => e = .returned (.bool true) ∧ w' = w := by
  go_enter Tryd.func5, Tryd.ntmps5
  go_wp2
  go_ret
  exact ⟨rfl, rfl⟩
set_option maxHeartbeats 400000 in
theorem bytes_no (a : Option Addr) (n cap : Nat) (i : Int) (w : World) (h : 1048576 < n) :
    Calls Tryd.prog 5 #[.slice a n cap, .int .i64 i] w fun e w' => e = .returned (.bool false) ∧ w' = w := by
  go_enter Tryd.func5, Tryd.ntmps5
  go_wp2
  go_ret
  exact ⟨rfl, rfl⟩

set_option maxHeartbeats 400000 in
/-- Outside the law's bounds it answers true at once. -/
theorem split_out (a : Option Addr) (n cap : Nat) (i : Int) (w : World) (hn : n ≤ 9223372036854775807) (h : 131072 < n ∨ i < 0 ∨ (n : Int) ≤ i) :
    Calls Tryd.prog 3 #[.slice a n cap, .int .i64 i] w fun e w' => e = .returned (.bool true) ∧ w' = w := by
  by_cases h1 : 1048576 < n
  · go_enter Tryd.func3, Tryd.ntmps3
    go_wp2_with (go_at_call 5; refine (bytes_no _ _ _ _ _ h1).mono ?_; rintro e w' ⟨rfl, rfl⟩)
    go_ret
    exact ⟨rfl, rfl⟩
  · by_cases h2 : 131072 < n
    case' neg => by_cases h3 : i < 0
    case' neg => have h4 : (n : Int) ≤ i := by omega
    all_goals
      go_enter Tryd.func3, Tryd.ntmps3
      go_wp2_with (go_at_call 5; refine (bytes_ok _ _ _ _ _ (by omega)).mono ?_; rintro e w' ⟨rfl, rfl⟩)
      go_ret
      exact ⟨rfl, rfl⟩

/-- list_any, its answer under a name. -/
theorem list_at (a : Option Addr) (n cap : Nat) (l : List Int) (S : ByteArray) (w : World) (h : Is w a l) (hn : l.length = n) (hlen : n ≤ 1048576) (htab : Tab w.heap.size w) (hS : S = ⟨(txt l).toArray⟩) :
    Calls Tryd.prog 6 #[.slice a n cap] w fun e w' => e = .returned (.string S) ∧ Below w.heap.size w w' := by
  subst hS; exact list_any a n cap l w h hn hlen htab
theorem itoa_at (t : Int) (S : ByteArray) (w : World) (h : I64 t) (hS : S = ⟨(Lib.itoa t).toArray⟩) : Calls Tryd.prog 7 #[.int .i64 t] w fun e w' => e = .returned (.string S) ∧ Below w.heap.size w w' := by
  subst hS; exact itoa_any t w h
theorem name_at (t : Int) (S : ByteArray) (w : World) (h : I64 t) (htab : Tab w.heap.size w) (hS : S = ⟨(84 :: Lib.itoa t).toArray⟩) : Calls Tryd.prog 8 #[.int .i64 t] w fun e w' => e = .returned (.string S) ∧ Below w.heap.size w w' := by
  subst hS; exact name_any t _ w h htab

set_option maxHeartbeats 1000000 in
theorem split_in (x : Addr) (cap i : Nat) (l : List Int) (w : World) (h : l.length ≤ 131072) (hi : i < l.length) (htab : Tab w.heap.size w)
    (hc : ∀ k, k < l.length → w.cell? (x.add k) = some (.int .i64 (l[k]?.getD 0))) (hb : ∀ k : Nat, I64 (l[k]?.getD 0)) :
    Calls Tryd.prog 3 #[.slice (some x) l.length cap, .int .i64 (i : Int)] w fun e w' => e = .returned (.bool true) ∧ Below w.heap.size w w' := by
  have hnil := neq_nil
  have hmk := mk_ints l.length (by omega)
  have HC := hidden hc
  have HB := hidden hb
  clear hc hb
  have HT := hidden htab
  clear htab
  go_enter Tryd.func3, Tryd.ntmps3
  go_wp2_with (first | (go_at_call 5; refine (bytes_ok _ _ _ _ _ (by omega)).mono ?_; rintro e w ⟨rfl, rfl⟩) | (refine wpList_copy_splice rfl (.tmp 31) (.tmp 32) 22 22 rfl 3 Tryd.underlying22 info3s _ _ _ _ _ _ rfl rfl w.heap.size 0 (madeCells #[.int .i64 0] l.length).toList 3 ?hg (l.map (Value.int .i64)) ?hn ?hpos ?hfit ?h1 w.heap.size w ?hbb (Nat.le_refl _) ?_))
  case hg => rw [Array.toArray_toList]; exact heap_alloc_new _ _
  case hn => simp
  case hpos => exact fun _ j a ha => src_cells HC.out _ j a ha
  case hfit => simp [size_madeCells]
  case h1 => exact ints_one l
  case hbb => exact (Below.refl _ _).alloc (Nat.le_refl _) _
  intro w2 hrow hbel
  have R2 := hidden (copied_row hrow.out)
  have B2 := hidden hbel
  have T2 := hidden (HT.out.on hbel)
  have z2 := hbel.size
  clear hmk hrow hbel HC HT hnil
  obtain ⟨t, ht⟩ : ∃ t : Int, t = l[i]?.getD 0 := ⟨_, rfl⟩
  have hti : Hid (I64 t) := by rw [ht]; exact HB.out i
  obtain ⟨SW, hSW⟩ : ∃ S : ByteArray, S = ⟨(txt l).toArray⟩ := ⟨_, rfl⟩
  obtain ⟨SB, hSB⟩ : ∃ S : ByteArray, S = ⟨(txt (l.take i)).toArray⟩ := ⟨_, rfl⟩
  obtain ⟨SO, hSO⟩ : ∃ S : ByteArray, S = ⟨(txt [t]).toArray⟩ := ⟨_, rfl⟩
  obtain ⟨SA, hSA⟩ : ∃ S : ByteArray, S = ⟨(txt (l.drop (i + 1))).toArray⟩ := ⟨_, rfl⟩
  obtain ⟨SI, hSI⟩ : ∃ S : ByteArray, S = ⟨(Lib.itoa t).toArray⟩ := ⟨_, rfl⟩
  obtain ⟨SN, hSN⟩ : ∃ S : ByteArray, S = ⟨(84 :: Lib.itoa t).toArray⟩ := ⟨_, rfl⟩
  have r1 : ({ data := #[32, 84] } : ByteArray) ++ SI = SO := by rw [hSI, hSO, txt_one]; exact bytes_append [32, 84] _
  have r2 : ({ data := #[32] } : ByteArray) ++ SN = SO := by rw [hSN, hSO, txt_one]; exact bytes_append [32] _
  have r3 : (SB ++ SO) ++ SA = SW := by
    rw [hSB, hSO, hSA, hSW, bytes_append, bytes_append, txt_one, ht, ← txt_split hi]
  have n1 : SI.size ≤ 21 := by rw [hSI, bytes_size]; exact Lib.itoa_length_le t hti.out.1 hti.out.2
  have n2 : SN.size ≤ 22 := by rw [hSN, bytes_size]; have := Lib.itoa_length_le t hti.out.1 hti.out.2; simp; omega
  have n3 : SB.size ≤ 3014656 := by
    rw [hSB, bytes_size]
    have := txt_length (l.take i) (i64_take HB.out i)
    have h2 : (l.take i).length ≤ l.length := by simp; omega
    omega
  have n4 : SO.size ≤ 23 := by rw [hSO, bytes_size, txt_one]; exact chunk_length t hti.out
  have n5 : SA.size ≤ 3014656 := by
    rw [hSA, bytes_size]
    have := txt_length (l.drop (i + 1)) (i64_drop HB.out _)
    have h2 : (l.drop (i + 1)).length ≤ l.length := by simp
    omega
  have n6 : (SB ++ SO).size ≤ 3014679 := by rw [ByteArray.size_append]; omega
  have E1 := hidden hSW
  have E2 := hidden hSB
  have E3 := hidden hSO
  have E4 := hidden hSA
  have E5 := hidden hSI
  have E6 := hidden hSN
  have ET := hidden ht
  clear hSW hSB hSO hSA hSI hSN ht
  go_wp2_with fail
  refine (list_at _ _ _ l SW _ (R2.out.is (off := 0) HB.out (fun k hk => by rw [Nat.zero_add]; exact ⟨hk, rfl⟩)) rfl (by omega) (T2.out.lower z2) E1.out).mono ?_
  rintro e w3 ⟨rfl, b3⟩
  have z3 := Nat.le_trans z2 b3.size
  have R3 := hidden (R2.out.on b3 (Nat.le_refl _))
  have B3 := hidden (B2.out.trans (b3.mono z2))
  have T3 := hidden (T2.out.on (b3.mono z2))
  clear b3 R2 B2 T2
  go_wp2_with fail
  refine (list_at _ _ _ (l.take i) SB _ (R3.out.is (off := 0) HB.out (fun k hk => by rw [Nat.zero_add]; simp at hk; rw [List.getElem?_take, if_pos (by omega)]; exact ⟨by omega, rfl⟩)) (by simp; omega) (by omega) (T3.out.lower z3) E2.out).mono ?_
  rintro e w4 ⟨rfl, b4⟩
  have z4 := Nat.le_trans z3 b4.size
  have R4 := hidden (R3.out.on b4 (Nat.le_refl _))
  have B4 := hidden (B3.out.trans (b4.mono z3))
  have T4 := hidden (T3.out.on (b4.mono z3))
  clear b4 R3 B3 T3
  go_wp2_with fail
  refine (list_at _ 1 _ [t] SO _ (R4.out.is (off := i) HB.out (fun k hk => by obtain rfl : k = 0 := by simp at hk; omega
                                                                              exact ⟨by omega, ET.out⟩)) rfl (by omega) (T4.out.lower z4) E3.out).mono ?_
  rintro e w5 ⟨rfl, b5⟩
  have z5 := Nat.le_trans z4 b5.size
  have R5 := hidden (R4.out.on b5 (Nat.le_refl _))
  have B5 := hidden (B4.out.trans (b5.mono z4))
  have T5 := hidden (T4.out.on (b5.mono z4))
  clear b5 R4 B4 T4
  by_cases hlast : i + 1 = l.length
  case' pos =>
    have hL := list_at (some ⟨w.heap.size, 0, none⟩) 0 0 (l.drop (i + 1)) SA w5 (R5.out.is (off := 0) HB.out (fun k hk => by simp at hk; omega)) (by simp; omega) (by omega) (T5.out.lower z5) E4.out
    go_wp2_with fail
    refine hL.mono ?_
    clear hL
  case' neg =>
    have hL := list_at (some ⟨w.heap.size, i + 1, none⟩) (l.length - (i + 1)) (l.length - (i + 1)) (l.drop (i + 1)) SA w5 (R5.out.is (off := i + 1) HB.out (fun k hk => by simp at hk; rw [List.getElem?_drop]; exact ⟨by omega, rfl⟩)) (by simp) (by omega) (T5.out.lower z5) E4.out
    have HLa := hidden hL
    clear hL
    go_wp2_with fail
    refine HLa.out.mono ?_
  all_goals
    rintro e w6 ⟨rfl, b6⟩
    have z6 := Nat.le_trans z5 b6.size
    have R6 := hidden (R5.out.on b6 (Nat.le_refl _))
    have B6 := hidden (B5.out.trans (b6.mono z5))
    have T6 := hidden (T5.out.on (b6.mono z5))
    have c6 := R6.out.2 i hi
    rw [← ET.out] at c6
    have hii : (i : Int) < (l.length : Int) := by omega
    clear b6 R5 B5 T5
    go_wp2_with fail
    refine (itoa_at t SI _ hti.out E5.out).mono ?_
    rintro e w7 ⟨rfl, b7⟩
    have z7 := Nat.le_trans z6 b7.size
    have R7 := hidden (R6.out.on b7 (Nat.le_refl _))
    have B7 := hidden (B6.out.trans (b7.mono z6))
    have T7 := hidden (T6.out.on (b7.mono z6))
    have c7 := R7.out.2 i hi
    rw [← ET.out] at c7
    clear b7 R6 B6 T6 c6
    go_wp2_with fail
    refine (name_at t SN _ hti.out (T7.out.lower z7) E6.out).mono ?_
    rintro e w8 ⟨rfl, b8⟩
    have B8 := hidden (B7.out.trans (b8.mono z7))
    clear b8 R7 B7 T7 c7
    go_wp2
    go_ret
    exact ⟨rfl, B8.out⟩
end Go.Proofs.Qxb6630490aDoor
