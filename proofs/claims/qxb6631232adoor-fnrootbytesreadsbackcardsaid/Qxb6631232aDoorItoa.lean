import Derived.Test.Qxb6631232aDoorCount
import Derived.Laws.IdiomStrings
import Derived.Lib.Zigzag
import Derived.Deep.DeepCutAuto
namespace Go.Proofs.Qxb6631232aDoor
open Go.RowKit

/-- namingB1Itoa's loop: c is left to write, the digits written lie in buf[i:]. -/
def ItInv (w : World) (u c : Nat) (i : Nat) (wr : World) : Prop :=
  ∃ (ds : List UInt8) (cs : Array Value), i + ds.length = 21 ∧ Lib.decDigits u = Lib.decDigits c ++ ds ∧
    wr.heap[w.heap.size]? = some (.cells cs 44 (0, 0)) ∧ cs.size = 21 ∧ (∀ j (hj : j < ds.length), cs[i + j]? = some (.int .u8 (ds[j].toNat : Int))) ∧ Below w.heap.size w wr ∧ wr.heap.size = w.heap.size + 1

theorem digits_len (u : Nat) (h : u ≤ 9223372036854775808) : (Lib.decDigits u).length ≤ 19 := by
  rw [Lib.decDigits_length]
  rcases Nat.lt_or_ge (Lib.nDigits u) 20 with h1 | h1
  · omega
  · exfalso
    have hp := Lib.nDigits_pos u
    have key : ∀ v : Nat, 10 ^ (Lib.nDigits v - 1) ≤ v ∨ v = 0 := by
      intro v
      induction v using Nat.strongRecOn with
      | _ v ih =>
        by_cases hv : v < 10
        · rw [Lib.nDigits_small hv]; simp; omega
        · rw [Lib.nDigits_big hv]
          have h2 := ih (v / 10) (by omega)
          have h3 := Lib.nDigits_pos (v / 10)
          rcases h2 with h2 | h2
          · left
            obtain ⟨m, hm⟩ : ∃ m, Lib.nDigits (v / 10) = m + 1 := ⟨Lib.nDigits (v / 10) - 1, by omega⟩
            rw [hm] at h2 ⊢
            simp only [Nat.add_sub_cancel] at h2 ⊢
            rw [Nat.pow_succ]; omega
          · omega
    rcases key u with h2 | h2
    · have h3 : 10 ^ 19 ≤ 10 ^ (Lib.nDigits u - 1) := Nat.pow_le_pow_right (by omega) (by omega)
      have h4 : (10 : Nat) ^ 19 = 10000000000000000000 := by decide +kernel
      omega
    · rw [h2, Lib.nDigits_small (by omega)] at h1; omega

theorem digits_pos (u : Nat) : 1 ≤ (Lib.decDigits u).length := by
  rw [Lib.decDigits_length]; exact Lib.nDigits_pos u

theorem ItInv.start (w : World) (u : Nat) (cs : Array Value) (hcs : cs.size = 21) : ItInv w u u 21 (w.alloc (.cells cs 44)) :=
  ⟨[], cs, rfl, by simp, heap_alloc_new _ _, hcs, fun j hj => by simp at hj, (Below.refl _ _).alloc (Nat.le_refl _) _, by simp⟩

theorem ItInv.room {w wr : World} {u c : Nat} {i : Nat} (h : ItInv w u c i wr) (hu : u ≤ 9223372036854775808) : ∃ m, i = m + 1 ∧ 1 ≤ m ∧ m < 21 ∧ (∃ v, wr.cell? ⟨w.heap.size, m, none⟩ = some v) ∧ wr.frozen? ⟨w.heap.size, m, none⟩ = false := by
  obtain ⟨ds, cs, h1, h2, h5, h6, h7, h8, h9⟩ := h
  have hr := digits_len u hu
  rw [h2, List.length_append] at hr
  have hp := digits_pos c
  refine ⟨i - 1, by omega, by omega, by omega, ⟨cs[i - 1]'(by omega), ?_⟩, frozen_of_row _ _ _ _ _ h5⟩
  rw [cell_of_row _ _ _ _ _ _ h5]
  exact Array.getElem?_eq_getElem _

/-- The digit is written. -/
def ItMid (w : World) (u c : Nat) (i : Nat) (wr : World) : Prop :=
  ∃ (ds : List UInt8) (cs : Array Value), i + ds.length = 21 ∧ (10 ≤ c → Lib.decDigits u = Lib.decDigits (c / 10) ++ ds) ∧ (c < 10 → Lib.decDigits u = ds) ∧
    wr.heap[w.heap.size]? = some (.cells cs 44 (0, 0)) ∧ cs.size = 21 ∧ (∀ j (hj : j < ds.length), cs[i + j]? = some (.int .u8 (ds[j].toNat : Int))) ∧ Below w.heap.size w wr ∧ wr.heap.size = w.heap.size + 1

theorem digit_val (c : Nat) : ((UInt8.ofNat (48 + c % 10)).toNat : Int) = 48 + (c : Int) % 10 := by
  have : (UInt8.ofNat (48 + c % 10)).toNat = 48 + c % 10 := by simp; omega
  omega

theorem ItInv.step {w wr : World} {u c : Nat} {m : Nat} (h : ItInv w u c (m + 1) wr) (hm : m < 21) : ItMid w u c m (wr.setCell ⟨w.heap.size, m, none⟩ (.int .u8 (48 + (c : Int) % 10))) := by
  obtain ⟨ds, cs, h1, h2, h5, h6, h7, h8, h9⟩ := h
  refine ⟨UInt8.ofNat (48 + c % 10) :: ds, cs.setIfInBounds m (.int .u8 (48 + (c : Int) % 10)), by simp; omega, fun hc => ?_, fun hc => ?_, heap_setCell_same _ _ _ _ _ _ h5, by simp [h6], ?_, h8.setCell (Nat.le_refl _) _, by simpa [World.setCell] using h9⟩
  · rw [h2, Lib.decDigits, dif_neg (by omega)]; simp
  · rw [h2, Lib.decDigits, dif_pos hc, Nat.mod_eq_of_lt hc]; simp
  · intro j hj
    rw [Array.getElem?_setIfInBounds]
    cases j with
    | zero => rw [if_pos (by simp), if_pos (by omega), ← digit_val]; simp
    | succ j =>
      rw [if_neg (by omega), show m + (j + 1) = m + 1 + j by omega, h7 j (by simpa using hj)]
      simp
theorem ItMid.more {w wr : World} {u c i : Nat} (h : ItMid w u c i wr) (hc : 10 ≤ c) : ItInv w u (c / 10) i wr := by
  obtain ⟨ds, cs, h1, h2, h3, h5, h6, h7, h8, h9⟩ := h
  exact ⟨ds, cs, h1, h2 hc, h5, h6, h7, h8, h9⟩

/-- The text lies in buf[i:]. -/
def ItDone (w : World) (t : List UInt8) (i : Nat) (wr : World) : Prop :=
  ∃ cs : Array Value, i + t.length = 21 ∧ wr.heap[w.heap.size]? = some (.cells cs 44 (0, 0)) ∧ cs.size = 21 ∧ (∀ j (hj : j < t.length), cs[i + j]? = some (.int .u8 (t[j].toNat : Int))) ∧ Below w.heap.size w wr
theorem ItMid.done {w wr : World} {u c i : Nat} (h : ItMid w u c i wr) (hc : c < 10) : ItDone w (Lib.decDigits u) i wr := by
  obtain ⟨ds, cs, h1, h2, h3, h5, h6, h7, h8, h9⟩ := h
  rw [h3 hc]
  exact ⟨cs, h1, h5, h6, h7, h8⟩
theorem ItDone.look {w wr : World} {t : List UInt8} {m : Nat} (h : ItDone w t (m + 1) wr) (hm : m < 21) : (∃ v, wr.cell? ⟨w.heap.size, m, none⟩ = some v) ∧ wr.frozen? ⟨w.heap.size, m, none⟩ = false := by
  obtain ⟨cs, h1, h5, h6, h7, h8⟩ := h
  refine ⟨⟨cs[m]'(by omega), ?_⟩, frozen_of_row _ _ _ _ _ h5⟩
  rw [cell_of_row _ _ _ _ _ _ h5]
  exact Array.getElem?_eq_getElem _
theorem ItDone.minus {w wr : World} {t : List UInt8} {m : Nat} (h : ItDone w t (m + 1) wr) (hm : m < 21) : ItDone w (45 :: t) m (wr.setCell ⟨w.heap.size, m, none⟩ (.int .u8 45)) := by
  obtain ⟨cs, h1, h5, h6, h7, h8⟩ := h
  refine ⟨cs.setIfInBounds m (.int .u8 45), by simp; omega, heap_setCell_same _ _ _ _ _ _ h5, by simp [h6], ?_, h8.setCell (Nat.le_refl _) _⟩
  intro j hj
  rw [Array.getElem?_setIfInBounds]
  cases j with
  | zero => rw [if_pos (by simp), if_pos (by omega)]; simp
  | succ j =>
    rw [if_neg (by omega), show m + (j + 1) = m + 1 + j by omega, h7 j (by simpa using hj)]
    simp
/-- 'string(buf[i:])'. -/
theorem ItDone.conv {w wr : World} {t : List UInt8} {i : Nat} (h : ItDone w t i wr) : (convert 27 9 (.slice (some ⟨w.heap.size, i, none⟩) t.length t.length)).run Tryd.prog wr = .ok (.string ⟨t.toArray⟩) wr := by
  obtain ⟨cs, h1, h5, h6, h7, h8⟩ := h
  refine run_convert_bytes_back wr 27 9 5 ⟨w.heap.size, i, none⟩ _ t Tryd.underlying27 Tryd.underlying5 Tryd.underlying9 (fun j hj => ?_)
  have hadd : (⟨w.heap.size, i, none⟩ : Addr).add j = ⟨w.heap.size, i + j, none⟩ := by unfold Addr.add; split <;> simp_all
  rw [hadd, cell_of_row _ _ _ _ _ _ h5]
  exact h7 j hj

theorem ItInv.step' {w wr : World} {u m : Nat} {c : Int} (h : ItInv w u c.toNat (m + 1) wr) (hm : m < 21) (hc : 0 ≤ c) : ItMid w u c.toNat m (wr.setCell ⟨w.heap.size, m, none⟩ (.int .u8 (48 + c % 10))) := by
  have := h.step hm
  rwa [Int.toNat_of_nonneg hc] at this

/-- 'buf[i:]', buf the array in block b. -/
theorem buf_from (b i n : Nat) (hi : i < 21) (hn : i + n = 21) (W : World) : (Instr.sliceAt 44 (.pointer (some ⟨b, 0, none⟩)) (some (.int .i64 (i : Int))) none none).run Tryd.prog W = .ok (.slice (some ⟨b, i, none⟩) n n) W := by
  have hal : Tryd.prog.arrayLen 44 = 21 := by kernel_rfl
  have hel : Tryd.prog.elem 44 = 5 := by kernel_rfl
  have hu : Tryd.prog.underlying 44 = some (.array (Tryd.prog.arrayLen 44) (Tryd.prog.elem 44)) := by rw [hal, hel]; exact Tryd.underlying44
  have hadd : (⟨b, 0, none⟩ : Addr).add i = ⟨b, i, none⟩ := by unfold Addr.add; split <;> simp_all
  rw [run_sliceAt_array_l W 44 ⟨b, 0, none⟩ hu .i64 (i : Int) (by omega) (by rw [hal]; omega), hal, hel, Tryd.sizeOf5]
  simp only [Result.andThen, slicedAt, Int.toNat_natCast, Nat.mul_one, hadd]
  rw [if_neg (by omega), show 21 - i = n by omega]

theorem ret_str {x y : ByteArray} (h : x = y) : Ending.returned (.string x) = Ending.returned (.string y) := by rw [h]

theorem ItMid.first (w : World) (c : Int) (hc : 0 ≤ c) (cs : Array Value) (hcs : cs.size = 21) (h : cs[20]? = some (.int .u8 (48 + c % 10))) : ItMid w c.toNat c.toNat 20 (w.alloc (.cells cs 44)) := by
  obtain ⟨n, rfl⟩ : ∃ n : Nat, c = n := ⟨c.toNat, by omega⟩
  refine ⟨[UInt8.ofNat (48 + n % 10)], cs, rfl, fun h1 => ?_, fun h1 => ?_, heap_alloc_new _ _, hcs, ?_, (Below.refl _ _).alloc (Nat.le_refl _) _, by simp⟩
  · simp only [Int.toNat_natCast] at h1 ⊢
    rw [Lib.decDigits, dif_neg (by omega)]
  · simp only [Int.toNat_natCast] at h1 ⊢
    rw [Lib.decDigits, dif_pos h1, Nat.mod_eq_of_lt h1]
  · intro j hj
    obtain rfl : j = 0 := by simpa using hj
    rw [Nat.add_zero, h]
    show some (Value.int .u8 _) = some (Value.int .u8 _)
    rw [← digit_val]; rfl

set_option maxHeartbeats 400000 in
theorem itoa_pos (t : Int) (w : World) (h0 : 0 ≤ t) (h1 : t ≤ 9223372036854775807) :
    Calls Tryd.prog 9 #[.int .i64 t] w fun e w' => e = .returned (.string ⟨(Lib.itoa t).toArray⟩) ∧ Below w.heap.size w w' := by
  go_enter Tryd.func9, Tryd.ntmps9
  go_wp2
  go_loopw [3, 5] (fun uv iv wr => ∃ (c : Int) (c0 i : Nat), uv = .int .u64 c ∧ iv = .int .i64 i ∧ 0 ≤ c ∧ c ≤ 9223372036854775807 ∧ i < 21 ∧ Hid (c.toNat = c0 / 10 ∧ ItMid w t.toNat c0 i wr)) (fun uv _ _ => (intOf uv).toNat)
  case atStart => exact ⟨t / 10, t.toNat, 20, rfl, rfl, by omega, by omega, by omega, by omega, ItMid.first w t h0 _ rfl rfl⟩
  case round =>
    obtain ⟨c, c0, i, rfl, rfl, d0, d1, hi, hinv⟩ := hrel
    by_cases hc : 0 < c
    · have hii := hinv.out.2.more (by have := hinv.out.1; omega)
      rw [← hinv.out.1] at hii
      obtain ⟨m, rfl, hm1, hm, ⟨v, hcell⟩, hfr⟩ := hii.room (by omega)
      have hst := hidden (hii.step' hm d0)
      clear hinv hii
      go_wp2
      go_roundw
      case rel => exact ⟨_, c.toNat, m, rfl, rfl, by omega, by omega, by omega, by omega, hst.out⟩
      case measure => simp [intOf]; omega
    · have h10 : c0 < 10 := by have := hinv.out.1; omega
      have hd := hinv.out.2.done h10
      obtain ⟨n, hn⟩ : ∃ n, (Lib.decDigits t.toNat).length = n := ⟨_, rfl⟩
      have hcv := hd.conv
      have hmn : i + n = 21 := by obtain ⟨cs, e1, _⟩ := hd; omega
      rw [hn] at hcv
      have hbl := hd.choose_spec.2.2.2.2
      have hsl := buf_from w.heap.size i n hi hmn
      have HT : Hid (Lib.itoa t = Lib.decDigits t.toNat) := by unfold Lib.itoa; rw [if_neg (by omega)]; rfl
      clear hd hn hinv
      go_wp2
      go_ret
      exact ⟨ret_str (by rw [HT.out]), hbl⟩

theorem neg_wrap (t : Int) (h0 : -9223372036854775808 ≤ t) (h1 : t < 0) : IntKind.u64.wrap (bits .xor .u64 IntKind.u64.max (IntKind.u64.wrap t) + 1) = -t := by
  have hm : IntKind.u64.max = ((18446744073709551615 : Nat) : Int) := by decide +kernel
  have hx : ∀ n : Nat, n < 18446744073709551616 → 18446744073709551615 ^^^ n = 18446744073709551615 - n := by
    intro n hn
    have := Lib.xor_ones64 n (by simpa using hn)
    simpa using this
  rw [IntKind.wrap_u64 t, show t % 18446744073709551616 = ((t + 18446744073709551616).toNat : Int) by omega, hm, bits_xor_u64_nat _ _ (by omega) (by omega), hx _ (by omega), IntKind.wrap_u64]
  omega

set_option maxHeartbeats 400000 in
theorem itoa_neg (t : Int) (w : World) (h0 : -9223372036854775808 ≤ t) (h1 : t < 0) :
    Calls Tryd.prog 9 #[.int .i64 t] w fun e w' => e = .returned (.string ⟨(Lib.itoa t).toArray⟩) ∧ Below w.heap.size w w' := by
  obtain ⟨p, hp⟩ : ∃ p : Int, p = -t := ⟨_, rfl⟩
  have hnw := neg_wrap t h0 h1
  rw [← hp] at hnw
  have p1 : 0 < p := by omega
  have p2 : p ≤ 9223372036854775808 := by omega
  have HP := hidden hp
  clear hp
  go_enter Tryd.func9, Tryd.ntmps9
  go_wp2
  go_loopw [3, 5] (fun uv iv wr => ∃ (c : Int) (c0 i : Nat), uv = .int .u64 c ∧ iv = .int .i64 i ∧ 0 ≤ c ∧ c ≤ 9223372036854775808 ∧ i < 21 ∧ Hid (c.toNat = c0 / 10 ∧ ItMid w p.toNat c0 i wr)) (fun uv _ _ => (intOf uv).toNat)
  case atStart =>
    have v1 : IntKind.u64.wrap (48 + p.tmod 10) % 256 = 48 + p % 10 := by rw [Int.tmod_eq_emod_of_nonneg (by omega), IntKind.wrap_u64]; omega
    have v2 : IntKind.u64.wrap (p.tdiv 10) = p / 10 := by rw [Int.tdiv_eq_ediv_of_nonneg (by omega), IntKind.wrap_u64]; omega
    exact ⟨p / 10, p.toNat, 20, by rw [v2], rfl, by omega, by omega, by omega, by omega, ItMid.first w p (by omega) _ rfl (by rw [v1]; rfl)⟩
  case round =>
    obtain ⟨c, c0, i, rfl, rfl, d0, d1, hi, hinv⟩ := hrel
    by_cases hc : 0 < c
    · have hii := hinv.out.2.more (by have := hinv.out.1; omega)
      rw [← hinv.out.1] at hii
      obtain ⟨m, rfl, hm1, hm, ⟨v, hcell⟩, hfr⟩ := hii.room (by omega)
      have hst := hidden (hii.step' hm d0)
      clear hinv hii
      go_wp2
      go_roundw
      case rel => exact ⟨_, c.toNat, m, rfl, rfl, by omega, by omega, by omega, by omega, hst.out⟩
      case measure => simp [intOf]; omega
    · have h10 : c0 < 10 := by have := hinv.out.1; omega
      have hd := hinv.out.2.done h10
      have hlen := digits_len p.toNat (by omega)
      obtain ⟨q, rfl⟩ : ∃ q, i = q + 1 := ⟨i - 1, by obtain ⟨cs, e1, _⟩ := hd; omega⟩
      obtain ⟨⟨v2, hcell2⟩, hfr2⟩ := hd.look (by omega)
      have hd2 := hd.minus (by omega)
      obtain ⟨n, hn⟩ : ∃ n, (45 :: Lib.decDigits p.toNat : List UInt8).length = n := ⟨_, rfl⟩
      have hcv := hd2.conv
      have hmn : q + n = 21 := by obtain ⟨cs, e1, _⟩ := hd2; omega
      rw [hn] at hcv
      have hbl := hidden hd2.choose_spec.2.2.2.2
      have hsl := buf_from w.heap.size q n (by omega) hmn
      have HT : Hid (Lib.itoa t = 45 :: Lib.decDigits p.toNat) := by
        have e : p.toNat = t.natAbs := by have := HP.out; omega
        rw [e]; unfold Lib.itoa; rw [if_pos (by omega)]; rfl
      clear hd hd2 hn hinv hlen
      go_wp2
      go_ret
      exact ⟨ret_str (by rw [HT.out]), hbl.out⟩

/-- namingB1Itoa, at every int64. -/
theorem itoa_any (t : Int) (w : World) (h : I64 t) : Calls Tryd.prog 9 #[.int .i64 t] w fun e w' => e = .returned (.string ⟨(Lib.itoa t).toArray⟩) ∧ Below w.heap.size w w' := by
  rcases Int.lt_or_le t 0 with h1 | h1
  · exact itoa_neg t w h.1 h1
  · exact itoa_pos t w h1 h.2
end Go.Proofs.Qxb6631232aDoor
