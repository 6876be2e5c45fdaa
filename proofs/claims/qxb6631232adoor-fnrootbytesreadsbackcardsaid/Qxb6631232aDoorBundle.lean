import Derived.Test.Qxb6631232aDoorPre
namespace Go.Proofs.Qxb6631232aDoor
open Go.RowKit

/-- What stands of the call's own in the world wk: groups, rows of bytes. -/
def Bu (w wk : World) (gs : List (Option Addr × List (ByteArray × Int))) (rs : List (Nat × List UInt8)) : Prop :=
  Below w.heap.size w wk ∧ (∀ x ∈ gs, Gs wk x.1 x.2) ∧ ∀ x ∈ rs, Rd wk x.1 x.2
theorem Bu.on {w wk wl : World} {gs : List (Option Addr × List (ByteArray × Int))} {rs : List (Nat × List UInt8)} (h : Bu w wk gs rs) (hb : Below wk.heap.size wk wl) : Bu w wl gs rs :=
  ⟨h.1.trans (hb.mono h.1.size), fun x hx => (h.2.1 x hx).below hb (Nat.le_refl _), fun x hx => (h.2.2 x hx).on hb (Nat.le_refl _)⟩
theorem Bu.gs {w wk : World} {gs : List (Option Addr × List (ByteArray × Int))} {rs : List (Nat × List UInt8)} (h : Bu w wk gs rs) {a : Option Addr} {G : List (ByteArray × Int)} (hG : Gs wk a G) : Bu w wk ((a, G) :: gs) rs :=
  ⟨h.1, fun x hx => by rcases List.mem_cons.1 hx with rfl | hx; exact hG; exact h.2.1 x hx, h.2.2⟩
theorem Bu.rs {w wk : World} {gs : List (Option Addr × List (ByteArray × Int))} {rs : List (Nat × List UInt8)} (h : Bu w wk gs rs) {g : Nat} {T : List UInt8} (hT : Rd wk g T) : Bu w wk gs ((g, T) :: rs) :=
  ⟨h.1, h.2.1, fun x hx => by rcases List.mem_cons.1 hx with rfl | hx; exact hT; exact h.2.2 x hx⟩
theorem Bu.tab {w wk : World} {gs : List (Option Addr × List (ByteArray × Int))} {rs : List (Nat × List UInt8)} (h : Bu w wk gs rs) (ht : Tab w.heap.size w) : Tab wk.heap.size wk := (ht.on h.1).lower h.1.size

/-- The groups' cells. -/
def cellsOf (G : List (ByteArray × Int)) : List Value := G.flatMap fun g => [.string g.1, .int .i64 g.2]
theorem cellsOf_length (G : List (ByteArray × Int)) : (cellsOf G).length = G.length * 2 := by
  induction G with
  | nil => rfl
  | cons g G ih => simp only [cellsOf, List.flatMap_cons, List.length_append, List.length_cons, List.length_nil] at ih ⊢; omega
theorem cellsOf_append (G H : List (ByteArray × Int)) : cellsOf (G ++ H) = cellsOf G ++ cellsOf H := by simp [cellsOf]
theorem cellsOf_at (G : List (ByteArray × Int)) (k : Nat) (hk : k < G.length) : (cellsOf G)[k * 2]? = some (.string (nm G k)) ∧ (cellsOf G)[k * 2 + 1]? = some (.int .i64 (st G k)) := by
  induction G generalizing k with
  | nil => simp at hk
  | cons g G ih =>
    have e : cellsOf (g :: G) = .string g.1 :: .int .i64 g.2 :: cellsOf G := by simp [cellsOf]
    rw [e]
    cases k with
    | zero => simp [nm, st]
    | succ k =>
      obtain ⟨h1, h2⟩ := ih k (by simpa using hk)
      rw [show (k + 1) * 2 = k * 2 + 1 + 1 by omega]
      have e1 : nm (g :: G) (k + 1) = nm G k := by simp [nm]
      have e2 : st (g :: G) (k + 1) = st G k := by simp [st]
      rw [e1, e2]
      exact ⟨by simpa using h1, by simpa using h2⟩
theorem cellsOf_one (G : List (ByteArray × Int)) : ∀ u ∈ cellsOf G, u.oneCell' = true := by
  intro u hu
  obtain ⟨g, _, hu⟩ := List.mem_flatMap.1 hu
  simp only [List.mem_cons, List.not_mem_nil, or_false] at hu
  rcases hu with rfl | rfl <;> rfl
theorem Gs.cells {w : World} {a : Option Addr} {G : List (ByteArray × Int)} (h : Gs w a G) : ∀ ad, a = some ad → ∀ j u, (cellsOf G)[j]? = some u → w.cell? (ad.add j) = some u := by
  intro ad had j u hu
  have hj : j < G.length * 2 := by have := (List.getElem?_eq_some_iff.1 hu).1; rwa [cellsOf_length] at this
  obtain ⟨g, off, ha, hg, hc⟩ := h (by omega)
  rw [had] at ha
  obtain rfl := Option.some.inj ha
  have hadd : (⟨g, off, none⟩ : Addr).add j = ⟨g, off + j, none⟩ := by unfold Addr.add; split <;> simp_all
  rw [hadd]
  obtain ⟨h1, h2⟩ := hc (j / 2) (by omega)
  obtain ⟨k1, k2⟩ := cellsOf_at G (j / 2) (by omega)
  rcases Nat.mod_two_eq_zero_or_one j with hm | hm
  · have e : j = j / 2 * 2 := by omega
    rw [← e] at h1 k1
    rw [h1, ← hu, k1]
  · have e : j = j / 2 * 2 + 1 := by omega
    rw [Nat.add_assoc, ← e] at h2
    rw [← e] at k2
    rw [h2, ← hu, k2]
/-- The groups appended, read. -/
theorem own_gs {w : World} {B g n cap : Nat} {G : List (ByteArray × Int)} (h : w.ownsRow B 32 2 (.slice (some ⟨g, 0, none⟩) n cap) n (cellsOf G)) (hn : n = G.length) : Gs w (some ⟨g, 0, none⟩) G := fun h0 => by
  obtain ⟨h1, h2⟩ := h
  rcases h2 with ⟨h2, _⟩ | ⟨g', cap', cur, hv, hB, hg, hc, hm, hs, ht⟩
  · simp at h2
  · obtain ⟨rfl, _⟩ : g = g' ∧ True := ⟨by have := congrArg Value.ownBlock hv; simpa [Value.ownBlock] using this, trivial⟩
    refine ⟨g, 0, rfl, (Array.getElem?_eq_some_iff.1 hg).1, fun k hk => ?_⟩
    rw [cell_of_row _ _ _ _ _ _ hg, cell_of_row _ _ _ _ _ _ hg]
    have e : ∀ j, j < n * 2 → cur[j]? = (cellsOf G)[j]? := fun j hj => by
      rw [← ht, List.getElem?_take, if_pos hj]; simp
    rw [Nat.zero_add, e _ (by omega), e _ (by omega)]
    exact cellsOf_at G k hk
theorem ok_append {G H : List (ByteArray × Int)} (h1 : Ok G) (h2 : Ok H) : Ok (G ++ H) := fun k => by
  unfold st
  rcases Nat.lt_or_ge k G.length with h | h
  · rw [List.getElem?_append_left h]; exact h1 k
  · rw [List.getElem?_append_right h]; exact h2 _
end Go.Proofs.Qxb6631232aDoor
