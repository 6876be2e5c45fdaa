import Derived.Test.Qxb6631232aDoorShelf
import Derived.Test.Qxb6631232aDoorPlain
import Derived.WalkKit
import Derived.WalkLawsBesides
import Derived.Lib.AppendIntMem
import Derived.Lib.AppendStr
namespace Go.Proofs.Qxb6631232aDoor
open Go.RowKit

theorem hidden {p : Prop} (h : p) : Hid p := h
/-- The library's table reads as its initialiser lays it, whatever is done from block B on. -/
def Tab (B : Nat) (w : World) : Prop := Lib.TabBelow Tryd.prog B w Tryd.tabName .u64 Lib.pow10Tab
theorem Tab.on {B : Nat} {w w' : World} (h : Tab B w) (hb : Below B w w') : Tab B w' := Lib.TabBelow.on h hb
theorem Tab.lower {B C : Nat} {w : World} (h : Tab B w) (hc : B ≤ C) : Tab C w := fun w' hb => h w' (hb.mono hc)
theorem info5 : (Tryd.prog.info? 5).map (fun i => (i.zero, i.size, i.bytes)) = some (some (.int .u8 0), 1, 1) := by kernel_rfl

/-- A slice of bytes of the call's own. -/
def Ow (B : Nat) (v : Value) (T : List UInt8) (w : World) : Prop := w.ownsRow B 5 1 v T.length (Lib.byteCells T)

theorem cell_one (w : World) (x : Value) (t : TypeId) : ∀ j u, [x][j]? = some u → (w.alloc (.cells #[x] t)).cell? ((⟨w.heap.size, 0, none⟩ : Addr).add j) = some u := by
  intro j u hu
  cases j with
  | zero =>
    obtain rfl := Option.some.inj (show some x = some u from hu)
    exact cell_of_row _ _ 0 _ _ _ (heap_alloc_new _ _)
  | succ j => simp at hu
/-- Behind 'append(b, c)'. -/
theorem ow_one {B : Nat} {v v1 : Value} {T : List UInt8} {w w1 : World} {o : Obj} {c : UInt8} (h : Ow B v T w) (hB : B ≤ w.heap.size) (h1 : w1.ownsRow B 5 1 v1 (T.length + 1) (Lib.byteCells T ++ [.int .u8 (c.toNat : Int)])) (hg : (w.alloc o).grownBy w1 v.ownBlock) :
    Ow B v1 (T ++ [c]) w1 ∧ Below B w w1 := by
  refine ⟨?_, ((Below.refl _ _).alloc hB o).grown hg (by simp; omega) (fun j hj => (World.ownsRow.lt h j hj).1)⟩
  unfold Ow
  have e : Lib.byteCells (T ++ [c]) = Lib.byteCells T ++ [.int .u8 (c.toNat : Int)] := by simp [Lib.byteCells]
  rw [e, List.length_append]; exact h1
/-- Behind 'append(b, s...)'. -/
theorem ow_str {B : Nat} {v v1 : Value} {T : List UInt8} {w w1 : World} {s : ByteArray} (h : Ow B v T w) (hB : B ≤ w.heap.size) (h1 : w1.ownsRow B 5 1 v1 (T.length + s.size) (Lib.byteCells T ++ Lib.strCells s)) (hg : w.grownBy w1 v.ownBlock) :
    Ow B v1 (T ++ s.data.toList) w1 ∧ Below B w w1 := by
  refine ⟨?_, (Below.refl _ _).grown hg hB (fun j hj => (World.ownsRow.lt h j hj).1)⟩
  unfold Ow
  have e : Lib.byteCells (T ++ s.data.toList) = Lib.byteCells T ++ Lib.strCells s := by simp [Lib.byteCells, Lib.strCells]
  rw [e, List.length_append, size_list]; exact h1

theorem ow_lower {B C : Nat} {v : Value} {T : List UInt8} {w : World} (h : Ow C v T w) (hc : B ≤ C) : Ow B v T w := by
  refine ⟨h.1, ?_⟩
  rcases h.2 with h1 | ⟨g, cap, cur, hv, hg, r⟩
  · exact .inl h1
  · exact .inr ⟨g, cap, cur, hv, by omega, r⟩

set_option maxHeartbeats 1000000 in
theorem header_any (B : Nat) (s : Int) (w : World) (hs : I64 s) (hB : B ≤ w.heap.size) (htab : Tab B w) :
    Calls Tryd.prog 14 #[.slice none 0 0, .string { data := #[116, 105, 100, 101, 119, 97, 114, 100, 45, 114, 111, 111, 116] }, .string { data := #[] }, .int .i64 s] w fun e w' => ∃ v, e = .returned v ∧ Ow B v (hdr s) w' ∧ Below B w w' := by
  obtain ⟨i0, hi0, hz0, hz1, hz2⟩ := info_parts info5
  have HT := hidden htab
  have hsl := Lib.itoa_length_le s hs.1 hs.2
  clear htab
  go_enter Tryd.func14, Tryd.ntmps14
  go_wp2_with (at_builtin; refine Lib.wpList_append_own_string _ rfl _ _ 27 9 rfl B 5 i0 Tryd.underlying27 Tryd.underlying9 hi0 hz0 hz1 hz2 (.slice none 0 0) 0 [] rfl (World.ownsRow_nil _ _ _ _) _ rfl (by simp [maxLen, ByteArray.size]) (by simp [ByteArray.size]) hB ?_; intro v1 w1 hown1 hgrow1 hnn1; refine Hid.out ?_)
  refine hidden ?_
  obtain ⟨T1, hT1⟩ : ∃ T, T = root := ⟨_, rfl⟩
  have O1 : Hid (Ow B v1 T1 w1 ∧ Below B w w1) := by
    rw [hT1]
    exact ow_str (T := []) (v := .slice none 0 0) (World.ownsRow_nil _ _ _ _) hB hown1 hgrow1
  have n1 : T1.length ≤ 13 := by rw [hT1]; simp [root]
  have z1 : B ≤ w1.heap.size := by have := O1.out.2.size; omega
  have E1 := hidden hT1
  clear hnn1 hown1 hgrow1 hT1
  go_wp2_with (at_builtin; refine wpList_append_own _ rfl _ _ 27 rfl B 5 i0 (.int .u8 0) 1 1 Tryd.underlying27 hi0 hz0 hz1 hz2 rfl (by decide) _ _ _ rfl (World.ownsRow.alloc O1.out.1 _) ⟨w1.heap.size, 0, none⟩ 1 1 [.int .u8 32] rfl rfl (cell_one _ _ _) (by intro u hu; simp at hu; subst hu; rfl) (by unfold maxLen; omega) (by omega) (by simp; omega) ?_; intro v2 w2 hown2 hgrow2 hnn2; refine Hid.out ?_)
  refine hidden ?_
  have O2 := hidden (ow_one (c := 32) O1.out.1 z1 hown2 hgrow2)
  have z2 : B ≤ w2.heap.size := by have := O2.out.2.size; omega
  have B2 := hidden (O1.out.2.trans O2.out.2)
  clear hnn2 hown2 hgrow2
  go_wp2_with fail
  refine (Tryd.strconv_AppendInt_10 B _ s hs.1 hs.2 v2 _ _ O2.out.1 z2 (by simp; omega) (HT.out.on B2.out)).mono ?_
  rintro e w3 ⟨v3, rfl, hown3, b3, _⟩
  have z3 : B ≤ w3.heap.size := by have := b3.size; omega
  have O3 : Hid (Ow B v3 (T1 ++ [32] ++ Lib.itoa s) w3) := by
    show World.ownsRow _ _ _ _ _ _ _
    rw [Lib.byteCells_append, List.length_append]; exact hown3
  have B3 := hidden (B2.out.trans b3)
  obtain ⟨T3, hT3⟩ : ∃ T, T = T1 ++ [32] ++ Lib.itoa s := ⟨_, rfl⟩
  rw [← hT3] at O3
  have n3 : T3.length ≤ 35 := by rw [hT3]; simp; omega
  have E3 := hidden hT3
  clear hown3 b3 hT3 O1 O2 B2
  go_wp2_with (at_builtin; refine wpList_append_own _ rfl _ _ 27 rfl B 5 i0 (.int .u8 0) 1 1 Tryd.underlying27 hi0 hz0 hz1 hz2 rfl (by decide) _ _ _ rfl (World.ownsRow.alloc O3.out _) ⟨w3.heap.size, 0, none⟩ 1 1 [.int .u8 10] rfl rfl (cell_one _ _ _) (by intro u hu; simp at hu; subst hu; rfl) (by unfold maxLen; omega) (by omega) (by simp; omega) ?_; intro v4 w4 hown4 hgrow4 hnn4; refine Hid.out ?_)
  refine hidden ?_
  have O4 := hidden (ow_one (c := 10) O3.out z3 hown4 hgrow4)
  clear hnn4 hown4 hgrow4
  go_wp2
  go_ret
  refine ⟨_, rfl, ?_, B3.out.trans O4.out.2⟩
  have e : hdr s = T3 ++ [10] := by rw [E3.out, E1.out]; simp [hdr]
  rw [e]; exact O4.out.1

/-- A slice of groups: where there is one, they lie at an address of an old block, two cells each. -/
def Gs (w : World) (a : Option Addr) (G : List (ByteArray × Int)) : Prop :=
  0 < G.length → ∃ g off, a = some ⟨g, off, none⟩ ∧ g < w.heap.size ∧ ∀ k, k < G.length → w.cell? ⟨g, off + k * 2, none⟩ = some (.string (nm G k)) ∧ w.cell? ⟨g, off + k * 2 + 1, none⟩ = some (.int .i64 (st G k))
theorem Gs.below {w w' : World} {a : Option Addr} {G : List (ByteArray × Int)} (h : Gs w a G) {B : Nat} (hb : Below B w w') (hB : w.heap.size ≤ B) : Gs w' a G := fun h0 => by
  obtain ⟨g, off, ha, hg, hc⟩ := h h0
  exact ⟨g, off, ha, Nat.lt_of_lt_of_le hg hb.size, fun k hk => ⟨(hb.cell (show g < B by omega)).trans (hc k hk).1, (hb.cell (show g < B by omega)).trans (hc k hk).2⟩⟩
/-- The stamps fit. -/
def Ok (G : List (ByteArray × Int)) : Prop := ∀ k, I64 (st G k)

set_option maxHeartbeats 1000000 in
theorem bytes_none (s : Int) (a : Option Addr) (cap : Nat) (w : World) (hs : I64 s) (htab : Tab w.heap.size w) :
    Calls Tryd.prog 8 #[.agg #[.int .i64 s, .slice a 0 cap]] w fun e w' => ∃ v, e = .returned v ∧ Ow w.heap.size v (hdr s) w' ∧ Below w.heap.size w w' := by
  have HT := hidden htab
  have b0 : Below w.heap.size w (w.alloc (.cells #[.int .i64 s, .slice a 0 cap] 29)) := (Below.refl _ _).alloc (Nat.le_refl _) _
  have hbx : w.heap.size < (w.alloc (.cells #[.int .i64 s, .slice a 0 cap] 29)).heap.size := by simp
  clear htab
  go_enter Tryd.func8, Tryd.ntmps8
  go_wp2_with fail
  refine (header_any (w.heap.size + 1) s _ hs (by simp) ((HT.out.on b0).lower (by omega))).mono ?_
  rintro e w1 ⟨v1, rfl, O1, b1⟩
  have c1 : w1.cell? ⟨w.heap.size, 1, none⟩ = some (.slice a 0 cap) := (b1.cell (show w.heap.size < w.heap.size + 1 by omega)).trans (cell_of_row _ _ 1 _ _ _ (heap_alloc_new _ _))
  have HO := hidden O1
  have HB := hidden (b0.trans (b1.mono (by omega)))
  clear O1 b1 b0
  go_wp2
  refine wp_loop_rounds 1 ?_
  rw [rounds_succ]
  go_wp2
  go_ret
  refine ⟨_, rfl, ?_, HB.out⟩
  exact ow_lower HO.out (by omega)
end Go.Proofs.Qxb6631232aDoor
