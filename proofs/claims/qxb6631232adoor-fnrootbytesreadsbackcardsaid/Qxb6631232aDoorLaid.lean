/- What the rows' listed table gives the walks; a start that meets the list. -/
import Derived.Test.Qxb6631232aDoorBytes
import Derived.ProofKit
import Derived.LaidMore
import Derived.OpenShut
import Derived.Stop.Joined
import Derived.Stop.LaidErr
import Derived.MakeChecks
import Derived.Lib.LaidTab
import Derived.Deep.SlicePairs
namespace Go.Proofs.Qxb6631232aDoor
open Go.RowKit

theorem laidMet_drop2 {P : Program} {W : World} : ∀ {l : List (String × DataW Unit)}, laidMet P l W → laidMet P (l.drop 2) W
  | [], _ => laidMet_nil P W
  | [_], _ => laidMet_nil P W
  | _ :: _ :: _, h => h.tail.tail

theorem laid_same : Rows.fnRootBytesReadsBackRow.laid = Rows.fnRootBytesSplitsAtAnyCutRow.laid := rfl
theorem laid_drop : Rows.fnRootBytesSplitsAtAnyCutRow.laid.drop 2 = [(Tryd.tabName, Lib.tabData .u64 Lib.pow10Tab)] := by kernel_rfl

/-- The table, out of the row's condition. -/
theorem tab_of_laid {W : World} (h : laidMetH Tryd.prog Rows.fnRootBytesSplitsAtAnyCutRow.laid W) : Tab W.heap.size W := by
  rw [MakeChecks.laidMetH_plain _ _ _ (by kernel_rfl)] at h
  have h2 := laidMet_drop2 h
  rw [laid_drop] at h2
  exact Lib.tabBelow_of_tabIs (Lib.tabIs_of_head (g := 0) (t := 54) (e := 43) (n := 20) (by kernel_rfl) (by kernel_rfl) Tryd.underlying54 Tryd.underlying43 (by kernel_rfl) (by kernel_rfl) h2)

/-- The heap that the door's own run leaves meets the condition. -/
theorem door_met (os : Os) (args : Array Value) : laidMetH Tryd.prog Rows.fnRootBytesSplitsAtAnyCutRow.laid ((World.doorLaid Tryd.prog 400 os).forCall (fun _ _ => 0) ⟨#[], args, []⟩).memory :=
  laidMetH_of_parts3 (fuel := 8) (laidMet_of_run' 8 (by kernel_rfl) (by kernel_rfl)) (by kernel_rfl) (by kernel_rfl)

open Go.ChangeShapes Go.WideShapes
theorem cell_plain {w : World} {x : Addr} {v : Value} (h : w.cell? x = some v) : x = ⟨x.block, x.off, none⟩ := by
  have : x.spot = none := by
    unfold World.cell? at h
    split at h
    · split at h
      · simp at h
      · next hs => simpa using hs
    · simp at h
  cases x; simp_all
theorem add_plain (b o k : Nat) : (⟨b, o, none⟩ : Addr).add k = ⟨b, o + k, none⟩ := by unfold Addr.add; split <;> simp_all
/-- What the walk is told of a slice of groups that came in. -/
theorem open_groups {H : Type} {enc : TypeId × Value → H} {w : World} {base : Nat} {spare : Nat → Bool} {held : Bool} {fuel : Nat} {a : Option Addr} {len cap : Nat} {x : DataW H × List MemPlace}
    (h : DataW.trod enc Tryd.prog w base spare held fuel 22 [.slice a len cap] = some x) : ∃ G : List (ByteArray × Int), G.length = len ∧ Gs w a G ∧ Ok G := by
  rcases Deep.open_slice_pairs Tryd.underlying22 Tryd.underlying36 (by kernel_rfl) rfl rfl (by kernel_rfl) (by kernel_rfl) h with ⟨hcs, _⟩ | ⟨y, l, c, m, n, V0, V1, D0, D1, P0, P1, hcs, _, hl, hm, hmm, _, hx⟩
  · simp at hcs
    obtain ⟨rfl, rfl, rfl⟩ := hcs
    exact ⟨[], rfl, fun h => by simp at h, fun k => by simp [st, I64]⟩
  · simp at hcs
    obtain ⟨rfl, rfl, rfl⟩ := hcs
    have hlm : len ≤ m := by rw [hmm]; split <;> omega
    obtain ⟨f, hf⟩ := Deep.choose_lt (α := ByteArray × Int) (n := len) (p := fun i q => V0 i = .string q.1 ∧ V1 i = .int .i64 q.2 ∧ I64 q.2) (fun i hi => by
      obtain ⟨_, _, h1, h2⟩ := hx i (by omega)
      obtain ⟨s, e1, _, _⟩ := DataW.trod_string Tryd.underlying9 h1
      obtain ⟨t, e2, _, hw⟩ := DataW.trod_int Tryd.underlying2 h2
      exact ⟨(s, t), by simpa using e1, by simpa using e2, bounds_i64 hw⟩)
    have hat : ∀ k, k < len → ((List.range len).map f)[k]? = some (f k) := fun k hk => by simp [hk]
    refine ⟨(List.range len).map f, by simp, fun h0 => ?_, fun k => ?_⟩
    · have h0 : 0 < len := by simpa using h0
      have hp := cell_plain (hx 0 (by omega)).1
      rw [show y.add (0 * 2) = y from rfl] at hp
      obtain ⟨b, o, rfl⟩ : ∃ b o, y = ⟨b, o, none⟩ := ⟨_, _, hp⟩
      refine ⟨b, o, rfl, block_lt_of_cell (hx 0 (by omega)).1, fun k hk => ?_⟩
      have hk : k < len := by simpa using hk
      obtain ⟨c1, c2, _, _⟩ := hx k (by omega)
      obtain ⟨e1, e2, _⟩ := hf k hk
      rw [add_plain, e1] at c1
      rw [add_plain, e2] at c2
      unfold nm st
      rw [hat k hk]
      exact ⟨c1, by rw [Nat.add_assoc]; exact c2⟩
    · unfold st
      rcases Nat.lt_or_ge k len with hk | hk
      · rw [hat k hk]; exact (hf k hk).2.2
      · rw [List.getElem?_eq_none (by simpa using hk)]; simp [I64]
end Go.Proofs.Qxb6631232aDoor
