import Derived.Test.Qxb6630490aDoorList
import Derived.Laws.IdiomStrings
import Derived.Deep.DeepCutAuto
namespace Go.Proofs.Qxb6630490aDoor
open Go.RowKit

/-- zzItoa's loop: c is left to write, the digits written lie in buf[i:]. -/
def ItInv (w : World) (u c : Nat) (i : Nat) (wr : World) : Prop :=
  ∃ (ds : List UInt8) (cs : Array Value), i + ds.length = 20 ∧ Lib.decDigits u = Lib.decDigits c ++ ds ∧
    wr.heap[w.heap.size]? = some (.cells cs 40 (0, 0)) ∧ cs.size = 20 ∧ (∀ j (hj : j < ds.length), cs[i + j]? = some (.int .u8 (ds[j].toNat : Int))) ∧ Below w.heap.size w wr ∧ wr.heap.size = w.heap.size + 1

theorem digits_len (u : Nat) (h : u ≤ 9223372036854775808) : (Lib.decDigits u).length ≤ 19 := by
  rw [Lib.decDigits_length]
  rcases Nat.lt_or_ge (Lib.nDigits u) 20 with h1 | h1
  · omega
  · exfalso
    have hp := Lib.nDigits_pos u
    have key : ∀ v : Nat, 10 ^ (Lib.nDigits v - 1) ≤ v ∨ v = 0 := by
      intro v
      induction v using Nat.strongRecOn with
      | _ v ih =>
        by_cases hv : v < 10
        · rw [Lib.nDigits_small hv]; simp; omega
        · rw [Lib.nDigits_big hv]
          have h2 := ih (v / 10) (by omega)
          have h3 := Lib.nDigits_pos (v / 10)
          rcases h2 with h2 | h2
          · left
            obtain ⟨m, hm⟩ : ∃ m, Lib.nDigits (v / 10) = m + 1 := ⟨Lib.nDigits (v / 10) - 1, by omega⟩
            rw [hm] at h2 ⊢
            simp only [Nat.add_sub_cancel] at h2 ⊢
            rw [Nat.pow_succ]; omega
          · omega
    rcases key u with h2 | h2
    · have h3 : 10 ^ 19 ≤ 10 ^ (Lib.nDigits u - 1) := Nat.pow_le_pow_right (by omega) (by omega)
      have h4 : (10 : Nat) ^ 19 = 10000000000000000000 := by decide +kernel
      omega
    · rw [h2, Lib.nDigits_small (by omega)] at h1; omega

theorem digits_pos (u : Nat) : 1 ≤ (Lib.decDigits u).length := by
  rw [Lib.decDigits_length]; exact Lib.nDigits_pos u

theorem ItInv.start (w : World) (u : Nat) (cs : Array Value) (hcs : cs.size = 20) : ItInv w u u 20 (w.alloc (.cells cs 40)) :=
  ⟨[], cs, rfl, by simp, heap_alloc_new _ _, hcs, fun j hj => by simp at hj, (Below.refl _ _).alloc (Nat.le_refl _) _, by simp⟩

theorem ItInv.room {w wr : World} {u c : Nat} {i : Nat} (h : ItInv w u c i wr) (hu : u ≤ 9223372036854775808) : ∃ m, i = m + 1 ∧ 1 ≤ m ∧ m < 20 ∧ (∃ v, wr.cell? ⟨w.heap.size, m, none⟩ = some v) ∧ wr.frozen? ⟨w.heap.size, m, none⟩ = false := by
  obtain ⟨ds, cs, h1, h2, h5, h6, h7, h8, h9⟩ := h
  have hr := digits_len u hu
  rw [h2, List.length_append] at hr
  have hp := digits_pos c
  refine ⟨i - 1, by omega, by omega, by omega, ⟨cs[i - 1]'(by omega), ?_⟩, frozen_of_row _ _ _ _ _ h5⟩
  rw [cell_of_row _ _ _ _ _ _ h5]
  exact Array.getElem?_eq_getElem _

/-- The digit is written. -/
def ItMid (w : World) (u c : Nat) (i : Nat) (wr : World) : Prop :=
  ∃ (ds : List UInt8) (cs : Array Value), i + ds.length = 20 ∧ (10 ≤ c → Lib.decDigits u = Lib.decDigits (c / 10) ++ ds) ∧ (c < 10 → Lib.decDigits u = ds) ∧
    wr.heap[w.heap.size]? = some (.cells cs 40 (0, 0)) ∧ cs.size = 20 ∧ (∀ j (hj : j < ds.length), cs[i + j]? = some (.int .u8 (ds[j].toNat : Int))) ∧ Below w.heap.size w wr ∧ wr.heap.size = w.heap.size + 1

theorem digit_val (c : Nat) : ((UInt8.ofNat (48 + c % 10)).toNat : Int) = 48 + (c : Int) % 10 := by
  have : (UInt8.ofNat (48 + c % 10)).toNat = 48 + c % 10 := by simp; omega
  omega

theorem ItInv.step {w wr : World} {u c : Nat} {m : Nat} (h : ItInv w u c (m + 1) wr) (hm : m < 20) : ItMid w u c m (wr.setCell ⟨w.heap.size, m, none⟩ (.int .u8 (48 + (c : Int) % 10))) := by
  obtain ⟨ds, cs, h1, h2, h5, h6, h7, h8, h9⟩ := h
  refine ⟨UInt8.ofNat (48 + c % 10) :: ds, cs.setIfInBounds m (.int .u8 (48 + (c : Int) % 10)), by simp; omega, fun hc => ?_, fun hc => ?_, heap_setCell_same _ _ _ _ _ _ h5, by simp [h6], ?_, h8.setCell (Nat.le_refl _) _, by simpa [World.setCell] using h9⟩
  · rw [h2, Lib.decDigits, dif_neg (by omega)]; simp
  · rw [h2, Lib.decDigits, dif_pos hc, Nat.mod_eq_of_lt hc]; simp
  · intro j hj
    rw [Array.getElem?_setIfInBounds]
    cases j with
    | zero => rw [if_pos (by simp), if_pos (by omega), ← digit_val]; simp
    | succ j =>
      rw [if_neg (by omega), show m + (j + 1) = m + 1 + j by omega, h7 j (by simpa using hj)]
      simp
theorem ItMid.more {w wr : World} {u c i : Nat} (h : ItMid w u c i wr) (hc : 10 ≤ c) : ItInv w u (c / 10) i wr := by
  obtain ⟨ds, cs, h1, h2, h3, h5, h6, h7, h8, h9⟩ := h
  exact ⟨ds, cs, h1, h2 hc, h5, h6, h7, h8, h9⟩

/-- The text lies in buf[i:]. -/
def ItDone (w : World) (t : List UInt8) (i : Nat) (wr : World) : Prop :=
  ∃ cs : Array Value, i + t.length = 20 ∧ wr.heap[w.heap.size]? = some (.cells cs 40 (0, 0)) ∧ cs.size = 20 ∧ (∀ j (hj : j < t.length), cs[i + j]? = some (.int .u8 (t[j].toNat : Int))) ∧ Below w.heap.size w wr
theorem ItMid.done {w wr : World} {u c i : Nat} (h : ItMid w u c i wr) (hc : c < 10) : ItDone w (Lib.decDigits u) i wr := by
  obtain ⟨ds, cs, h1, h2, h3, h5, h6, h7, h8, h9⟩ := h
  rw [h3 hc]
  exact ⟨cs, h1, h5, h6, h7, h8⟩
theorem ItDone.look {w wr : World} {t : List UInt8} {m : Nat} (h : ItDone w t (m + 1) wr) (hm : m < 20) : (∃ v, wr.cell? ⟨w.heap.size, m, none⟩ = some v) ∧ wr.frozen? ⟨w.heap.size, m, none⟩ = false := by
  obtain ⟨cs, h1, h5, h6, h7, h8⟩ := h
  refine ⟨⟨cs[m]'(by omega), ?_⟩, frozen_of_row _ _ _ _ _ h5⟩
  rw [cell_of_row _ _ _ _ _ _ h5]
  exact Array.getElem?_eq_getElem _
theorem ItDone.minus {w wr : World} {t : List UInt8} {m : Nat} (h : ItDone w t (m + 1) wr) (hm : m < 20) : ItDone w (45 :: t) m (wr.setCell ⟨w.heap.size, m, none⟩ (.int .u8 45)) := by
  obtain ⟨cs, h1, h5, h6, h7, h8⟩ := h
  refine ⟨cs.setIfInBounds m (.int .u8 45), by simp; omega, heap_setCell_same _ _ _ _ _ _ h5, by simp [h6], ?_, h8.setCell (Nat.le_refl _) _⟩
  intro j hj
  rw [Array.getElem?_setIfInBounds]
  cases j with
  | zero => rw [if_pos (by simp), if_pos (by omega)]; simp
  | succ j =>
    rw [if_neg (by omega), show m + (j + 1) = m + 1 + j by omega, h7 j (by simpa using hj)]
    simp
/-- 'string(buf[i:])'. -/
theorem ItDone.conv {w wr : World} {t : List UInt8} {i : Nat} (h : ItDone w t i wr) : (convert 30 9 (.slice (some ⟨w.heap.size, i, none⟩) t.length t.length)).run Tryd.prog wr = .ok (.string ⟨t.toArray⟩) wr := by
  obtain ⟨cs, h1, h5, h6, h7, h8⟩ := h
  refine run_convert_bytes_back wr 30 9 5 ⟨w.heap.size, i, none⟩ _ t Tryd.underlying30 Tryd.underlying5 Tryd.underlying9 (fun j hj => ?_)
  have hadd : (⟨w.heap.size, i, none⟩ : Addr).add j = ⟨w.heap.size, i + j, none⟩ := by unfold Addr.add; split <;> simp_all
  rw [hadd, cell_of_row _ _ _ _ _ _ h5]
  exact h7 j hj

theorem ItInv.step' {w wr : World} {u m : Nat} {c : Int} (h : ItInv w u c.toNat (m + 1) wr) (hm : m < 20) (hc : 0 ≤ c) : ItMid w u c.toNat m (wr.setCell ⟨w.heap.size, m, none⟩ (.int .u8 (48 + c % 10))) := by
  have := h.step hm
  rwa [Int.toNat_of_nonneg hc] at this

/-- 'buf[i:]', buf the array in block b. -/
theorem buf_from (b i n : Nat) (hi : i < 20) (hn : i + n = 20) (W : World) : (Instr.sliceAt 40 (.pointer (some ⟨b, 0, none⟩)) (some (.int .i64 (i : Int))) none none).run Tryd.prog W = .ok (.slice (some ⟨b, i, none⟩) n n) W := by
  have hal : Tryd.prog.arrayLen 40 = 20 := by kernel_rfl
  have hel : Tryd.prog.elem 40 = 5 := by kernel_rfl
  have hu : Tryd.prog.underlying 40 = some (.array (Tryd.prog.arrayLen 40) (Tryd.prog.elem 40)) := by rw [hal, hel]; exact Tryd.underlying40
  have hadd : (⟨b, 0, none⟩ : Addr).add i = ⟨b, i, none⟩ := by unfold Addr.add; split <;> simp_all
  rw [run_sliceAt_array_l W 40 ⟨b, 0, none⟩ hu .i64 (i : Int) (by omega) (by rw [hal]; omega), hal, hel, Tryd.sizeOf5]
  simp only [Result.andThen, slicedAt, Int.toNat_natCast, Nat.mul_one, hadd]
  rw [if_neg (by omega), show 20 - i = n by omega]

set_option maxHeartbeats 400000 in
theorem itoa_pos (t : Int) (w : World) (h0 : 0 ≤ t) (h1 : t ≤ 9223372036854775807) :
    Calls Tryd.prog 7 #[.int .i64 t] w fun e w' => e = .returned (.string ⟨(Lib.itoa t).toArray⟩) ∧ Below w.heap.size w w' := by
  go_enter Tryd.func7, Tryd.ntmps7
  go_wp2
  go_loopw [5, 7] (fun uv iv wr => ∃ (c : Int) (i : Nat), uv = .int .u64 c ∧ iv = .int .i64 i ∧ 0 ≤ c ∧ c ≤ 9223372036854775807 ∧ i ≤ 20 ∧ Hid (ItInv w t.toNat c.toNat i wr)) (fun uv _ _ => (intOf uv).toNat)
  case atStart => exact ⟨t, 20, rfl, rfl, h0, h1, Nat.le_refl _, ItInv.start w _ _ rfl⟩
  case round =>
    obtain ⟨c, i, rfl, rfl, c0, c1, hi, hinv⟩ := hrel
    obtain ⟨m, rfl, hm1, hm, ⟨v, hcell⟩, hfr⟩ := hinv.out.room (by omega)
    have hst := hidden (hinv.out.step' hm c0)
    clear hinv
    by_cases hc : 10 ≤ c
    · have hq : ((c / 10) == 0) = false := by rw [beq_eq_false_iff_ne]; omega
      go_wp2
      go_roundw
      case rel =>
        refine ⟨_, m, rfl, rfl, by omega, by omega, by omega, ?_⟩
        have := hst.out.more (by omega)
        rw [show (c / 10).toNat = c.toNat / 10 by omega]; exact this
      case measure => simp [intOf]; omega
    · have hq : ((c / 10) == 0) = true := by rw [beq_iff_eq]; omega
      have hd := hst.out.done (by omega)
      obtain ⟨n, hn⟩ : ∃ n, (Lib.decDigits t.toNat).length = n := ⟨_, rfl⟩
      have hcv := hd.conv
      have hmn : m + n = 20 := by obtain ⟨cs, e1, _⟩ := hd; omega
      rw [hn] at hcv
      have hbl := hd.choose_spec.2.2.2.2
      have hsl := buf_from w.heap.size m n hm hmn
      have HT : Hid (Lib.itoa t = Lib.decDigits t.toNat) := by unfold Lib.itoa; rw [if_neg (by omega)]; rfl
      clear hd hn
      go_wp2
      go_ret
      exact ⟨ret_str (by rw [HT.out]), hbl⟩

theorem neg_wrap (t : Int) (h0 : -9223372036854775808 ≤ t) (h1 : t < 0) : IntKind.u64.wrap (-IntKind.u64.wrap t) = -t := by
  simp only [IntKind.wrap, IntKind.signed, IntKind.bits]
  simp
  omega

set_option maxHeartbeats 400000 in
theorem itoa_neg (t : Int) (w : World) (h0 : -9223372036854775808 ≤ t) (h1 : t < 0) :
    Calls Tryd.prog 7 #[.int .i64 t] w fun e w' => e = .returned (.string ⟨(Lib.itoa t).toArray⟩) ∧ Below w.heap.size w w' := by
  go_enter Tryd.func7, Tryd.ntmps7
  go_wp2
  go_loopw [5, 7] (fun uv iv wr => ∃ (c : Int) (i : Nat), uv = .int .u64 c ∧ iv = .int .i64 i ∧ 0 ≤ c ∧ c ≤ 9223372036854775808 ∧ i ≤ 20 ∧ Hid (ItInv w t.natAbs c.toNat i wr)) (fun uv _ _ => (intOf uv).toNat)
  case atStart => exact ⟨-t, 20, by rw [neg_wrap t h0 h1], rfl, by omega, by omega, Nat.le_refl _, by rw [show (-t).toNat = t.natAbs by omega]; exact ItInv.start w _ _ rfl⟩
  case round =>
    obtain ⟨c, i, rfl, rfl, c0, c1, hi, hinv⟩ := hrel
    obtain ⟨m, rfl, hm1, hm, ⟨v, hcell⟩, hfr⟩ := hinv.out.room (by omega)
    have hst := hidden (hinv.out.step' hm c0)
    clear hinv
    by_cases hc : 10 ≤ c
    · have hq : ((c / 10) == 0) = false := by rw [beq_eq_false_iff_ne]; omega
      go_wp2
      go_roundw
      case rel =>
        refine ⟨_, m, rfl, rfl, by omega, by omega, by omega, ?_⟩
        have := hst.out.more (by omega)
        rw [show (c / 10).toNat = c.toNat / 10 by omega]; exact this
      case measure => simp [intOf]; omega
    · have hq : ((c / 10) == 0) = true := by rw [beq_iff_eq]; omega
      have hd := hst.out.done (by omega)
      obtain ⟨q, rfl⟩ : ∃ q, m = q + 1 := ⟨m - 1, by omega⟩
      obtain ⟨⟨v2, hcell2⟩, hfr2⟩ := hd.look (by omega)
      have hd2 := hd.minus (by omega)
      obtain ⟨n, hn⟩ : ∃ n, (45 :: Lib.decDigits t.natAbs : List UInt8).length = n := ⟨_, rfl⟩
      have hcv := hd2.conv
      have hmn : q + n = 20 := by obtain ⟨cs, e1, _⟩ := hd2; omega
      rw [hn] at hcv
      have hbl := hidden hd2.choose_spec.2.2.2.2
      have hsl := buf_from w.heap.size q n (by omega) hmn
      have HT : Hid (Lib.itoa t = 45 :: Lib.decDigits t.natAbs) := by unfold Lib.itoa; rw [if_pos (by omega)]; rfl
      clear hd hd2 hn
      go_wp2
      go_ret
      exact ⟨ret_str (by rw [HT.out]), hbl.out⟩

/-- zzItoa, at every int. -/
theorem itoa_any (t : Int) (w : World) (h : I64 t) : Calls Tryd.prog 7 #[.int .i64 t] w fun e w' => e = .returned (.string ⟨(Lib.itoa t).toArray⟩) ∧ Below w.heap.size w w' := by
  rcases Int.lt_or_le t 0 with h1 | h1
  · exact itoa_neg t w h.1 h1
  · exact itoa_pos t w h1 h.2
end Go.Proofs.Qxb6630490aDoor
