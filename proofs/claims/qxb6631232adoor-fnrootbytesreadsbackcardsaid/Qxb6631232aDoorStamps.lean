import Derived.Test.Qxb6631232aDoorCount
import Derived.BigQuiet
namespace Go.Proofs.Qxb6631232aDoor
open Go.RowKit

theorem info32 : (Tryd.prog.info? 32).map (fun i => (i.zero, i.size, i.bytes)) = some (some (.agg #[.string ⟨#[]⟩, .int .i64 0]), 2, 24) := by kernel_rfl

/-- namingB1ToStamps's loop: the first k groups stand in block b. -/
def Fill (w : World) (G : List (ByteArray × Int)) (k : Nat) (wr : World) : Prop :=
  ∃ cs : Array Value, wr.heap[w.heap.size]? = some (.cells cs 32 (0, 0)) ∧ cs.size = G.length * 2 ∧ (∀ j, j < k → cs[j * 2]? = some (.string (nm G j)) ∧ cs[j * 2 + 1]? = some (.int .i64 (st G j))) ∧ Below w.heap.size w wr

theorem Fill.step {w wr : World} {G : List (ByteArray × Int)} {k : Nat} (h : Fill w G k wr) (hk : k < G.length) : Fill w G (k + 1) ((wr.setCell ⟨w.heap.size, k * 2, none⟩ (.string (nm G k))).setCell ⟨w.heap.size, k * 2 + 1, none⟩ (.int .i64 (st G k))).drew := by
  obtain ⟨cs, q1, q2, q3, q4⟩ := h
  refine ⟨(cs.setIfInBounds (k * 2) (.string (nm G k))).setIfInBounds (k * 2 + 1) (.int .i64 (st G k)), heap_setCell_same _ _ _ _ _ _ (heap_setCell_same _ _ _ _ _ _ q1), by simp [q2], fun j hj => ?_, Below.drew ((q4.setCell (p := ⟨w.heap.size, k * 2, none⟩) (Nat.le_refl _) _).setCell (p := ⟨w.heap.size, k * 2 + 1, none⟩) (Nat.le_refl _) _)⟩
  simp only [Array.getElem?_setIfInBounds, Array.size_setIfInBounds]
  rcases Nat.lt_or_eq_of_le (Nat.le_of_lt_succ hj) with h | h
  · rw [if_neg (by omega), if_neg (by omega), if_neg (by omega), if_neg (by omega)]
    exact q3 j h
  · subst h
    rw [if_neg (by omega), if_pos rfl, if_pos (by omega), if_pos rfl, if_pos (by omega)]
    exact ⟨rfl, rfl⟩
theorem Fill.gs {w wr : World} {G : List (ByteArray × Int)} (h : Fill w G G.length wr) : Gs wr (some ⟨w.heap.size, 0, none⟩) G := fun _ => by
  obtain ⟨cs, q1, q2, q3, q4⟩ := h
  refine ⟨_, 0, rfl, (Array.getElem?_eq_some_iff.1 q1).1, fun k hk => ?_⟩
  rw [cell_of_row _ _ _ _ _ _ q1, cell_of_row _ _ _ _ _ _ q1]
  simpa using q3 k hk

set_option maxHeartbeats 1000000 in
/-- namingB1ToStamps. -/
theorem stamps_any (a : Option Addr) (n cap : Nat) (G : List (ByteArray × Int)) (w : World) (hn : G.length = n) (hG : Gs w a G) (hlen : n ≤ 1048576) :
    Calls Tryd.prog 7 #[.slice a n cap] w fun e w' => ∃ a' c', e = .returned (.slice a' n c') ∧ Gs w' a' G ∧ (a' = none → n = 0 ∧ c' = 0) ∧ Below w.heap.size w w' := by
  subst hn
  cases a with
  | none =>
    have hz : G.length = 0 := by
      rcases Nat.eq_zero_or_pos G.length with h | h
      · exact h
      · obtain ⟨g, off, h1, _⟩ := hG h; simp at h1
    have en := eql_nil w none 0 cap
    obtain rfl : G = [] := List.eq_nil_of_length_eq_zero hz
    go_enter Tryd.func7, Tryd.ntmps7
    go_wp2
    go_ret
    exact ⟨none, 0, rfl, fun h => by simp at h, fun _ => by first | exact ⟨rfl, rfl⟩ | simp, Below.refl _ _⟩
  | some p =>
    obtain ⟨i0, hi0, hz0, hz1, hz2⟩ := info_parts info32
    have en := fun W => eql_nil W (some p) G.length cap
    have mk : ∀ W : World, (Instr.makeSlice 25 (.int .i64 (G.length : Int)) (.int .i64 (G.length : Int))).run Tryd.prog W = .ok (.slice (some ⟨W.heap.size, 0, none⟩) G.length G.length) (W.alloc (.cells (madeCells (Value.agg #[.string ⟨#[]⟩, .int .i64 0]).cells (G.length * 2)) 32)) := by
      intro W
      have := run_make W 25 32 i0 _ Tryd.underlying25 hi0 hz0 .i64 .i64 G.length G.length (by omega) (by omega) (by rw [hz2]; omega) (by omega)
      rw [hz1] at this
      simpa using this
    obtain ⟨cs0, hcs0⟩ : ∃ cs0, cs0 = madeCells (Value.agg #[.string ⟨#[]⟩, .int .i64 0]).cells (G.length * 2) := ⟨_, rfl⟩
    rw [← hcs0] at mk
    have hsz : cs0.size = G.length * 2 := by rw [hcs0, size_madeCells]
    have F0 : Hid (Fill w G 0 (w.alloc (.cells cs0 32))) := ⟨cs0, heap_alloc_new _ _, hsz, fun j hj => by omega, (Below.refl _ _).alloc (Nat.le_refl _) _⟩
    clear hcs0 hsz
    go_enter Tryd.func7, Tryd.ntmps7
    go_wp2
    go_loopw [4] (fun iv wr => ∃ k : Nat, k ≤ G.length ∧ iv = .int .i64 k ∧ Hid (Fill w G k wr)) (fun iv _ => G.length - (intOf iv).toNat)
    case atStart => exact ⟨0, Nat.zero_le _, rfl, F0⟩
    case round =>
      obtain ⟨k, hk, rfl, hinv⟩ := hrel
      by_cases hlt : k < G.length
      · obtain ⟨g, off, h1, hg, hc⟩ := hG (by omega)
        obtain rfl := Option.some.inj h1
        obtain ⟨x, hx⟩ : ∃ x, x = nm G k := ⟨_, rfl⟩
        obtain ⟨t, ht⟩ : ∃ t, t = st G k := ⟨_, rfl⟩
        obtain ⟨e1, e2⟩ := hc k hlt
        have e1 := (hinv.out.choose_spec.2.2.2.cell (p := ⟨g, off + k * 2, none⟩) hg).trans e1
        have e2 := (hinv.out.choose_spec.2.2.2.cell (p := ⟨g, off + k * 2 + 1, none⟩) hg).trans e2
        rw [← hx] at e1
        rw [← ht] at e2
        have HX := hidden (And.intro hx ht)
        obtain ⟨v0, v1, y0, y1⟩ : ∃ v0 v1, wr.cell? ⟨w.heap.size, k * 2, none⟩ = some v0 ∧ wr.cell? ⟨w.heap.size, k * 2 + 1, none⟩ = some v1 := by
          obtain ⟨cs, q1, q2, _⟩ := hinv.out
          exact ⟨cs[k * 2]'(by omega), cs[k * 2 + 1]'(by omega), by rw [cell_of_row _ _ _ _ _ _ q1]; exact Array.getElem?_eq_getElem _, by rw [cell_of_row _ _ _ _ _ _ q1]; exact Array.getElem?_eq_getElem _⟩
        have f0 : wr.frozen? ⟨w.heap.size, k * 2, none⟩ = false := frozen_of_row _ _ _ _ _ hinv.out.choose_spec.1
        have f1 : wr.frozen? ⟨w.heap.size, k * 2 + 1, none⟩ = false := frozen_of_row _ _ _ _ _ hinv.out.choose_spec.1
        have FS : Hid (Fill w G (k + 1) ((wr.setCell ⟨w.heap.size, k * 2, none⟩ (.string x)).setCell ⟨w.heap.size, k * 2 + 1, none⟩ (.int .i64 t)).drew) := by rw [hx, ht]; exact hinv.out.step hlt
        clear hc hG hx ht h1 F0 hinv
        go_wp2
        go_region
        go_wp2
        go_roundw
        case rel => exact ⟨k + 1, by omega, by go_num, FS.out⟩
        case measure => simp [intOf]; omega
      · obtain rfl : k = G.length := by omega
        go_wp2
        go_ret
        exact ⟨_, _, rfl, hinv.out.gs, fun h => by simp at h, hinv.out.choose_spec.2.2.2⟩
end Go.Proofs.Qxb6631232aDoor
