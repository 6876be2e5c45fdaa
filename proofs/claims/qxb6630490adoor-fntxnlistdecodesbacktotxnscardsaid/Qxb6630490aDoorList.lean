import Derived.Test.Qxb6630490aDoorShelf
import Derived.Test.Qxb6630490aDoorPlain
import Derived.WalkKit
import Derived.WalkLawsBesides
import Derived.Lib.AppendIntMem
namespace Go.Proofs.Qxb6630490aDoor
open Go.RowKit

theorem ret_str {a b : ByteArray} (h : a = b) : Ending.returned (.string a) = .returned (.string b) := by rw [h]
theorem hidden {p : Prop} (h : p) : Hid p := h
/-- The library's table reads as its initialiser lays it, whatever is done from block B on. -/
def Tab (B : Nat) (w : World) : Prop := Lib.TabBelow Tryd.prog B w Tryd.tabName .u64 Lib.pow10Tab
theorem Tab.on {B : Nat} {w w' : World} (h : Tab B w) (hb : Below B w w') : Tab B w' := Lib.TabBelow.on h hb
theorem Tab.lower {B C : Nat} {w : World} (h : Tab B w) (hc : B ≤ C) : Tab C w := fun w' hb => h w' (hb.mono hc)

theorem builder_old {T e : TypeId} {B b : Nat} {bs : List Value} {w w' : World} (h : Lib.IsBuilderF T e B b bs w) (hb : Below w.heap.size w w') : Lib.IsBuilderF T e B b bs w' := by
  have key : ∀ p, Lib.BuilderAtF T e B b p bs w → Lib.BuilderAtF T e B b p bs w' := by
    intro p hp
    have hlt := hp.lt
    obtain ⟨hB, v, hbk, hown, hne⟩ := hp
    exact ⟨hB, v, (hb.block b hlt).trans hbk, hown.kept (row := none) ⟨hb.os, hb.tape, hb.output, hb.size, fun k hk _ => hb.block k hk⟩ (by cases hv : v.ownBlock <;> simp), hne⟩
  exact h.elim (fun x => .inl (key _ x)) (fun x => .inr (key _ x))

theorem bytes_append (a b : List UInt8) : (⟨a.toArray⟩ : ByteArray) ++ ⟨b.toArray⟩ = ⟨(a ++ b).toArray⟩ := by
  apply ByteArray.ext
  simp
theorem bytes_size (a : List UInt8) : (⟨a.toArray⟩ : ByteArray).size = a.length := by
  simp [ByteArray.size]

set_option maxHeartbeats 400000 in
theorem name_any (t : Int) (B : Nat) (w : World) (ht : I64 t) (htab : Tab B w) :
    Calls Tryd.prog 8 #[.int .i64 t] w fun e w' => e = .returned (.string ⟨(84 :: Lib.itoa t).toArray⟩) ∧ Below w.heap.size w w' := by
  have hl := Lib.itoa_length_le t ht.1 ht.2
  go_enter Tryd.func8, Tryd.ntmps8
  go_wp2_with (go_at_call 14; refine (Tryd.strconv_Itoa t ht.1 ht.2 _ htab.here).mono ?_; rintro e w1 ⟨rfl, k, os, rfl⟩)
  go_ret
  exact ⟨ret_str (bytes_append [84] _), Lib.below_grow _ _ (Nat.le_refl _) _ _⟩

/-- A slice of ints: its elements are l; where there is one, they lie at an address of an old block. -/
def Is (w : World) (a : Option Addr) (l : List Int) : Prop :=
  (∀ k : Nat, I64 (l[k]?.getD 0)) ∧ (0 < l.length → ∃ g off, a = some ⟨g, off, none⟩ ∧ g < w.heap.size ∧ ∀ k, k < l.length → w.cell? ⟨g, off + k, none⟩ = some (.int .i64 (l[k]?.getD 0)))

theorem Is.below {w w' : World} {a : Option Addr} {l : List Int} (h : Is w a l) {B : Nat} (hb : Below B w w') (hB : w.heap.size ≤ B) : Is w' a l :=
  ⟨h.1, fun h0 => by
    obtain ⟨g, off, ha, hg, hc⟩ := h.2 h0
    exact ⟨g, off, ha, Nat.lt_of_lt_of_le hg hb.size, fun k hk => (hb.cell (show g < B by omega)).trans (hc k hk)⟩⟩

set_option maxHeartbeats 400000 in
theorem list_none (a : Option Addr) (cap : Nat) (w : World) :
    Calls Tryd.prog 6 #[.slice a 0 cap] w fun e w' => e = .returned (.string ⟨[].toArray⟩) ∧ Below w.heap.size w w' := by
  go_enter Tryd.func6, Tryd.ntmps6
  go_wp2
  refine wp_loop_rounds 1 ?_
  rw [rounds_succ]
  go_wp2_with fail
  refine (Tryd.Builder_String_any_k w.heap.size w.heap.size [] _ (Lib.IsBuilderF.of (Lib.fresh_isBuilder 32 5 w)) (by simp)).mono ?_
  rintro e w1 ⟨rfl, _, hb, _⟩
  go_wp2
  go_ret
  exact ⟨rfl, ((Below.refl _ _).alloc (Nat.le_refl _) _).trans hb⟩

set_option maxHeartbeats 400000 in
theorem list_some (g off cap : Nat) (l : List Int) (w : World) (hl : 0 < l.length) (hlen : l.length ≤ 1048576) (hg : g < w.heap.size) (hi : ∀ k : Nat, I64 (l[k]?.getD 0))
    (hc : ∀ k, k < l.length → w.cell? ⟨g, off + k, none⟩ = some (.int .i64 (l[k]?.getD 0))) (htab : Tab w.heap.size w) :
    Calls Tryd.prog 6 #[.slice (some ⟨g, off, none⟩) l.length cap] w fun e w' => e = .returned (.string ⟨(txt l).toArray⟩) ∧ Below w.heap.size w w' := by
  have HC := hidden hc
  have HI := hidden hi
  clear hc hi
  go_enter Tryd.func6, Tryd.ntmps6
  go_wp2
  go_loopw [8] (fun i wr => ∃ k : Nat, k ≤ l.length ∧ i = .int .i64 k ∧ Hid (Lib.IsBuilderF 32 5 w.heap.size w.heap.size (Lib.byteCells (txt (l.take k))) wr ∧ Below w.heap.size w wr)) (fun i _ => l.length - (intOf i).toNat)
  case atStart => exact ⟨0, Nat.zero_le _, rfl, Lib.IsBuilderF.of (Lib.fresh_isBuilder 32 5 w), (Below.refl _ _).alloc (Nat.le_refl _) _⟩
  case round =>
    obtain ⟨k, hk, rfl, hinv⟩ := hrel
    have hlt0 : (txt (l.take k)).length ≤ 23 * k := by
      have := txt_length (l.take k) (i64_take HI.out k)
      have h2 : (l.take k).length ≤ k := List.length_take_le _ _
      omega
    by_cases hlt : k < l.length
    · have hck := (hinv.out.2.cell (p := ⟨g, off + k, none⟩) hg).trans (HC.out k hlt)
      obtain ⟨x, hx⟩ : ∃ x : Int, x = l[k]?.getD 0 := ⟨_, rfl⟩
      have hxi : Hid (I64 x) := by rw [hx]; exact HI.out k
      rw [← hx] at hck
      have HX := hidden hx
      clear hx
      have hwz : w.heap.size ≤ wr.heap.size := hinv.out.2.size
      go_wp2_with fail
      refine (Tryd.Builder_WriteByte_k w.heap.size w.heap.size _ 32 _ hinv.out.1 (by rw [Lib.byteCells_length]; omega) hwz).mono ?_
      rintro e w1 ⟨rfl, h1, b1, _⟩
      have hz1 := b1.size
      have hI1 : Hid (Lib.IsBuilderF 32 5 w.heap.size w.heap.size (Lib.byteCells (txt (l.take k)) ++ [.int .u8 32]) w1) := Or.inr h1
      have B1 : Hid (Below w.heap.size w w1) := hinv.out.2.trans b1
      have T1 : Hid (Tab w.heap.size w1) := htab.on B1.out
      clear h1 b1 hinv
      go_wp2_with fail
      refine (name_any x w.heap.size _ hxi.out T1.out).mono ?_
      rintro e w2 ⟨rfl, b2⟩
      have hz2 := b2.size
      have hI2 : Hid (Lib.IsBuilderF 32 5 w.heap.size w.heap.size (Lib.byteCells (txt (l.take k)) ++ [.int .u8 32]) w2) := builder_old hI1.out b2
      have B2 : Hid (Below w.heap.size w w2) := B1.out.trans (b2.mono (by omega))
      have hxl := Lib.itoa_length_le x hxi.out.1 hxi.out.2
      clear b2 hI1 B1 T1
      go_wp2_with fail
      refine (Tryd.Builder_WriteString_k w.heap.size w.heap.size _ _ _ hI2.out (by rw [List.length_append, Lib.byteCells_length, bytes_size]; simp; omega) (by omega)).mono ?_
      rintro e w3 ⟨rfl, h3, b3, _⟩
      have hI3 : Hid (Lib.IsBuilderF 32 5 w.heap.size w.heap.size (Lib.byteCells (txt (l.take (k + 1)))) w3) := by
        have e1 : Lib.byteCells (txt (l.take (k + 1))) = Lib.byteCells (txt (l.take k)) ++ [.int .u8 32] ++ Lib.strCells ⟨(84 :: Lib.itoa x).toArray⟩ := by
          rw [txt_step hlt, ← HX.out, Lib.strCells_toArray]
          simp [Lib.byteCells, chunk]
        rw [e1]; exact Or.inr h3
      have B3 : Hid (Below w.heap.size w w3) := B2.out.trans b3
      clear h3 b3 hI2 B2
      go_wp2
      go_roundw
      case rel => exact ⟨k + 1, by omega, by go_num, hI3.out, B3.out⟩
      case measure => simp [intOf]; omega
    · have hwz : w.heap.size ≤ wr.heap.size := hinv.out.2.size
      have e : l.take k = l := List.take_of_length_le (by omega)
      rw [e] at hinv
      clear e
      go_wp2_with fail
      refine (Tryd.Builder_String_any_k w.heap.size w.heap.size (txt l) _ hinv.out.1 hwz).mono ?_
      rintro e w1 ⟨rfl, _, hb, _⟩
      go_wp2
      go_ret
      exact ⟨rfl, hinv.out.2.trans hb⟩

/-- schedule.TxnList, at every slice of ints. -/
theorem list_any (a : Option Addr) (n cap : Nat) (l : List Int) (w : World) (h : Is w a l) (hn : l.length = n) (hlen : n ≤ 1048576) (htab : Tab w.heap.size w) :
    Calls Tryd.prog 6 #[.slice a n cap] w fun e w' => e = .returned (.string ⟨(txt l).toArray⟩) ∧ Below w.heap.size w w' := by
  subst hn
  rcases Nat.eq_zero_or_pos l.length with h0 | h0
  · obtain rfl : l = [] := List.eq_nil_of_length_eq_zero h0
    exact list_none a cap w
  · obtain ⟨g, off, rfl, hg, hc⟩ := h.2 h0
    exact list_some g off cap l w h0 hlen hg h.1 hc htab
end Go.Proofs.Qxb6630490aDoor
