import Derived.Test.Qxb6630417aDocWalk
namespace Go.Proofs.Qxb6630417a
open Go.RowKit

/-- The kit's law on loading a whole row, at an operation that bears a guard which says yes. -/
theorem load_row_guarded {P : Program} {ops : Array Oper} {rest : List Oper} {o : Oper} {a : Act} {w : World} {Q : Exit → Act → World → Prop} (hw : Region.wanted o (yielded ops a.tmps) = true) (ty : TypeId) (x : Operand) (ho : o.op = .load ty x)
    (g : Nat) (hx : a.eval x = .pointer (some ⟨g, 0, none⟩)) (t : TypeId) (cs : Array Value) (fr : Nat × Nat) (d : TypeDesc) (hg : w.heap[g]? = some (.cells cs t fr))
    (hu : P.underlying ty = some d) (hd : (match d with | .struct _ | .array _ _ => true | _ => false) = true) (hi : (P.info? ty).map (·.size) = some cs.size)
    (h : wpList P ops Q rest (a.put o.dst (.agg cs)) w) : wpList P ops Q (o :: rest) a w :=
  wpList_step fun _ hK => by rw [if_pos hw]; exact wp_load_row ty x ho g hx t cs fr d hg hu hd hi (hK _ _ h)

theorem wts_eq : ∀ k : Nat, k < 19 → FloatKind.f64.format.order (wts.getD k 0) (wts.getD k 0) = some .eq := by decide +kernel
theorem wt_eq (b1 b2 c1 c2 : Nat) (W : World) (q p : Nat) (g0 : W.heap[q]? = some (.cells (dpc b1 b2) 26 (0, 0))) (g1 : W.heap[p]? = some (.cells (dpc c1 c2) 26 (0, 0))) (k : Nat) (hk : k < 19) :
    ∃ x, W.cell? ⟨q, k, none⟩ = some (.float .f64 x) ∧ W.cell? ⟨p, k, none⟩ = some (.float .f64 x) ∧ FloatKind.f64.format.order x x = some .eq :=
  ⟨_, (cell_of_row W q k _ _ _ g0).trans (dpc_wt b1 b2 k hk), (cell_of_row W p k _ _ _ g1).trans (dpc_wt c1 c2 k hk), wts_eq k hk⟩

set_option maxHeartbeats 1000000 in
theorem fresh_walk (w : World) :
    Calls Try.prog 4 #[] w fun e w' => e = .returned (.bool true) ∧ Below w.heap.size w w' := by
  go_enter Try.func4, Try.ntmps4
  go_wp2_with (go_at_call 5; refine (default_any _).mono ?_; rintro e w1 ⟨rfl, hz, h1, h2, hb⟩; refine Hid.out ?_)
  refine hidden ?_
  go_wp2_with (refine wpList_store_row rfl 26 (.tmp 1) (.tmp 7) rfl w1.heap.size (dpc (w.heap.size + 1) (w.heap.size + 1 + 1)) rfl rfl 26 z26 (heap_alloc_last _ _) (by rw [dpc_size]; exact info26) (by rw [dpc_size]; exact z26_size) (dpc_one _ _) ?_; refine Hid.out ?_)
  refine hidden ?_
  rw [setRow_new]
  have G := got hz h1 h2 hb
  clear hz h1 h2 hb
  generalize w1.alloc (.cells (dpc (w.heap.size + 1) (w.heap.size + 1 + 1)) 26) = W at G ⊢
  generalize w1.heap.size = q at G ⊢
  have lb := G.lo
  have lq := G.lt
  have lz := G.sz
  obtain ⟨d19, d20, d21, d22, d23⟩ := dpc_at (w.heap.size + 1) (w.heap.size + 1 + 1)
  have c20 := (cell_of_row W q 20 _ _ _ G.st).trans d20
  have c21 := (cell_of_row W q 21 _ _ _ G.st).trans d21
  have e0 : W.cell? ⟨w.heap.size + 1, 0, none⟩ = some (.int .i64 60000000000) := cell_of_row W _ 0 _ _ _ G.s1
  have e1 : W.cell? ⟨w.heap.size + 1, 1, none⟩ = some (.int .i64 600000000000) := cell_of_row W _ 1 _ _ _ G.s1
  have e2 : W.cell? ⟨w.heap.size + 1 + 1, 0, none⟩ = some (.int .i64 600000000000) := cell_of_row W _ 0 _ _ _ G.s2
  have f0 : W.frozen? ⟨w.heap.size + 1, 0, none⟩ = false := frozen_of_row W _ _ _ _ G.s1
  have f1 : W.frozen? ⟨w.heap.size + 1, 1, none⟩ = false := frozen_of_row W _ _ _ _ G.s1
  have f2 : W.frozen? ⟨w.heap.size + 1 + 1, 0, none⟩ = false := frozen_of_row W _ _ _ _ G.s2
  have GB := hidden G.be
  clear d19 d20 d21 d22 d23 G
  go_wp2
  refine wp_loop_rounds 3 ?_
  rw [rounds_succ]
  go_wp2
  rw [rounds_succ]
  go_wp2
  rw [rounds_succ]
  go_wp2
  refine wp_loop_rounds 2 ?_
  rw [rounds_succ]
  go_wp2
  rw [rounds_succ]
  go_wp2_with fail
  have VB : Below w.heap.size w (((W.setCell { block := w.heap.size + 1, off := 0 } (Value.int IntKind.i64 0)).setCell { block := w.heap.size + 1, off := 1 } (Value.int IntKind.i64 0)).setCell { block := w.heap.size + 1 + 1, off := 0 } (Value.int IntKind.i64 0)) :=
    ((GB.out.setCell (by simp) _).setCell (by simp) _).setCell (by simp; omega) _
  generalize (((W.setCell { block := w.heap.size + 1, off := 0 } (Value.int IntKind.i64 0)).setCell { block := w.heap.size + 1, off := 1 } (Value.int IntKind.i64 0)).setCell { block := w.heap.size + 1 + 1, off := 0 } (Value.int IntKind.i64 0)) = V at VB ⊢
  clear GB c20 c21 e0 e1 e2 f0 f1 f2 lb lq lz
  refine (default_any _).mono ?_
  rintro e v1 ⟨rfl, hz, h1, h2, hb⟩
  go_wp2_with (refine wpList_store_row rfl 26 (.tmp 4) (.tmp 40) rfl v1.heap.size (dpc (V.heap.size + 1) (V.heap.size + 1 + 1)) rfl rfl 26 z26 (heap_alloc_last _ _) (by rw [dpc_size]; exact info26) (by rw [dpc_size]; exact z26_size) (dpc_one _ _) ?_; refine Hid.out ?_)
  refine hidden ?_
  rw [setRow_new]
  have GB := got hz h1 h2 hb
  clear hz h1 h2 hb
  generalize v1.alloc (.cells (dpc (V.heap.size + 1) (V.heap.size + 1 + 1)) 26) = X at GB ⊢
  generalize v1.heap.size = qb at GB ⊢
  go_wp2_with fail
  refine (default_any _).mono ?_
  rintro e x1 ⟨rfl, hz, h1, h2, hb⟩
  go_wp2_with (refine wpList_store_row rfl 26 (.tmp 5) (.tmp 41) rfl x1.heap.size (dpc (X.heap.size + 1) (X.heap.size + 1 + 1)) rfl rfl 26 z26 (heap_alloc_last _ _) (by rw [dpc_size]; exact info26) (by rw [dpc_size]; exact z26_size) (dpc_one _ _) ?_; refine Hid.out ?_)
  refine hidden ?_
  rw [setRow_new]
  have GC := got hz h1 h2 hb
  clear hz h1 h2 hb
  generalize x1.alloc (.cells (dpc (X.heap.size + 1) (X.heap.size + 1 + 1)) 26) = Y at GC ⊢
  generalize x1.heap.size = qc at GC ⊢
  have l1 := GB.lt
  have l2 := GB.sz
  have l3 := GC.lt
  have l4 := GC.sz
  have k1 := (GC.be.block qb (by omega)).trans GB.st
  have k2 := (GC.be.block (V.heap.size + 1) (by omega)).trans GB.s1
  have k3 := (GC.be.block (V.heap.size + 1 + 1) (by omega)).trans GB.s2
  have k4 := GC.st
  have k5 := GC.s1
  have k6 := GC.s2
  have a0 : Y.cell? ⟨V.heap.size + 1, 0, none⟩ = some (.int .i64 60000000000) := cell_of_row Y _ 0 _ _ _ k2
  have a1 : Y.cell? ⟨V.heap.size + 1, 1, none⟩ = some (.int .i64 600000000000) := cell_of_row Y _ 1 _ _ _ k2
  have a2 : Y.cell? ⟨V.heap.size + 1 + 1, 0, none⟩ = some (.int .i64 600000000000) := cell_of_row Y _ 0 _ _ _ k3
  have b0 : Y.cell? ⟨X.heap.size + 1, 0, none⟩ = some (.int .i64 60000000000) := cell_of_row Y _ 0 _ _ _ k5
  have b1 : Y.cell? ⟨X.heap.size + 1, 1, none⟩ = some (.int .i64 600000000000) := cell_of_row Y _ 1 _ _ _ k5
  have b2 : Y.cell? ⟨X.heap.size + 1 + 1, 0, none⟩ = some (.int .i64 600000000000) := cell_of_row Y _ 0 _ _ _ k6
  have hsz := VB.size
  have hszb := GB.be.size
  have YB : Below w.heap.size w Y := (VB.trans (GB.be.mono hsz)).trans (GC.be.mono (by omega))
  have K1 := hidden k1
  have K4 := hidden k4
  have YB := hidden YB
  clear GB GC VB k1 k2 k3 k4 k5 k6
  go_wp2_with (refine wpList_load_row rfl 26 (.tmp 4) rfl qb rfl 26 (dpc (V.heap.size + 1) (V.heap.size + 1 + 1)) (0, 0) _ K1.out Try.underlying26 rfl (by rw [dpc_size]; exact info26) ?_)
  refine (doc_any _ _ _ a0 a1 a2 (by omega) (by omega)).mono ?_
  rintro e y1 ⟨rfl, rfl⟩
  go_wp2_with (refine load_row_guarded rfl 26 (.tmp 5) rfl qc rfl 26 (dpc (X.heap.size + 1) (X.heap.size + 1 + 1)) (0, 0) _ ((Below.heap_alloc _ _ _ l4).trans K4.out) Try.underlying26 rfl (by rw [dpc_size]; exact info26) ?_)
  refine (doc_any _ _ _ ((((Below.refl Y.heap.size Y).alloc (Nat.le_refl _) _).cell (show _ < _ by simp; omega)).trans b0) ((((Below.refl Y.heap.size Y).alloc (Nat.le_refl _) _).cell (show _ < _ by simp; omega)).trans b1) ((((Below.refl Y.heap.size Y).alloc (Nat.le_refl _) _).cell (show _ < _ by simp; omega)).trans b2) (by simp; omega) (by simp; omega)).mono ?_
  rintro e y1 ⟨rfl, rfl⟩
  have z1 : ((Y.alloc (Obj.cells (dpc (V.heap.size + 1) (V.heap.size + 1 + 1)) 26)).alloc (Obj.cells (dpc (X.heap.size + 1) (X.heap.size + 1 + 1)) 26)).heap[qb]? = some (.cells (dpc (V.heap.size + 1) (V.heap.size + 1 + 1)) 26 (0, 0)) :=
    (Below.heap_alloc _ _ _ (by simp; omega)).trans ((Below.heap_alloc _ _ _ (by omega)).trans K1.out)
  have z2 : ((Y.alloc (Obj.cells (dpc (V.heap.size + 1) (V.heap.size + 1 + 1)) 26)).alloc (Obj.cells (dpc (X.heap.size + 1) (X.heap.size + 1 + 1)) 26)).heap[qc]? = some (.cells (dpc (X.heap.size + 1) (X.heap.size + 1 + 1)) 26 (0, 0)) :=
    (Below.heap_alloc _ _ _ (by simp; omega)).trans ((Below.heap_alloc _ _ _ (by omega)).trans K4.out)
  have yb := YB.out
  have zb : Below w.heap.size w ((Y.alloc (Obj.cells (dpc (V.heap.size + 1) (V.heap.size + 1 + 1)) 26)).alloc (Obj.cells (dpc (X.heap.size + 1) (X.heap.size + 1 + 1)) 26)) := (yb.alloc yb.size _).alloc (by have := yb.size; simp; omega) _
  generalize (Y.alloc (Obj.cells (dpc (V.heap.size + 1) (V.heap.size + 1 + 1)) 26)).alloc (Obj.cells (dpc (X.heap.size + 1) (X.heap.size + 1 + 1)) 26) = Z at z1 z2 zb ⊢
  have Z1 := hidden z1
  have Z2 := hidden z2
  have ZB := hidden zb
  clear z1 z2 zb yb YB K1 K4 a0 a1 a2 b0 b1 b2
  go_wp2
  go_loopw [6] (fun i wr => ∃ k n : Nat, k ≤ 19 ∧ i = .int .i64 k ∧ wr = Z.drewN n) (fun i _ => 19 - (intOf i).toNat)
  case atStart => exact ⟨0, 0, Nat.zero_le _, rfl, rfl⟩
  case round =>
    obtain ⟨k, n, hk, rfl, rfl⟩ := hrel
    by_cases hlt : k < 19
    · obtain ⟨x, hx1, hx2, heq⟩ := wt_eq _ _ _ _ Z qb qc Z1.out Z2.out k hlt
      have hi : (k : Int) < 19 := by omega
      go_wp2
      go_quiet (fail)
      go_wp2
      go_roundw
      case rel => exact ⟨k + 1, _, by omega, by go_num, rfl⟩
      case measure => simp [intOf]; omega
    · go_wp2
      go_ret
      exact ⟨rfl, below_drewN ZB.out _⟩
end Go.Proofs.Qxb6630417a
