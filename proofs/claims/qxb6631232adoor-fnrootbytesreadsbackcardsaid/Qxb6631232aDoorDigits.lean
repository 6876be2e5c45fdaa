import Derived.Test.Qxb6631232aDoorPlain
namespace Go.Proofs.Qxb6631232aDoor

/-- The number that the digits write. -/
def dv (l : List UInt8) : Int := l.foldl (fun a c => a * 10 + ((c.toNat : Int) - 48)) 0
theorem dv_snoc (l : List UInt8) (c : UInt8) : dv (l ++ [c]) = dv l * 10 + ((c.toNat : Int) - 48) := by simp [dv]
def isDig (c : UInt8) : Prop := 48 ≤ (c.toNat : Int) ∧ (c.toNat : Int) ≤ 57

theorem ofNat_digit (d : Nat) (h : d < 10) : ((UInt8.ofNat (48 + d)).toNat : Int) = 48 + d := by
  have : (UInt8.ofNat (48 + d)).toNat = 48 + d := by simp; omega
  omega

theorem digits_all (u : Nat) : ∀ c ∈ Lib.decDigits u, isDig c := by
  induction u using Nat.strongRecOn with
  | _ u ih =>
    intro c hc
    rw [Lib.decDigits] at hc
    split at hc
    · rename_i h
      simp only [List.mem_singleton] at hc
      subst hc
      have := ofNat_digit u h
      unfold isDig; omega
    · rename_i h
      rcases List.mem_append.1 hc with h1 | h1
      · exact ih (u / 10) (by omega) c h1
      · simp only [List.mem_singleton] at h1
        subst h1
        have := ofNat_digit (u % 10) (by omega)
        unfold isDig; omega

theorem digits_val (u : Nat) : dv (Lib.decDigits u) = u := by
  induction u using Nat.strongRecOn with
  | _ u ih =>
    rw [Lib.decDigits]
    split
    · rename_i h
      have := ofNat_digit u h
      rw [show [UInt8.ofNat (48 + u)] = [] ++ [UInt8.ofNat (48 + u)] from rfl, dv_snoc, this]
      simp [dv]
      omega
    · rename_i h
      have := ofNat_digit (u % 10) (by omega)
      rw [dv_snoc, ih (u / 10) (by omega), this]
      omega

theorem digits_head (u : Nat) (hu : 1 ≤ u) : ∀ c, (Lib.decDigits u)[0]? = some c → (c.toNat : Int) ≠ 48 := by
  induction u using Nat.strongRecOn with
  | _ u ih =>
    intro c hc
    rw [Lib.decDigits] at hc
    split at hc
    · rename_i h
      obtain rfl := Option.some.inj (show some (UInt8.ofNat (48 + u)) = some c from hc)
      have := ofNat_digit u h
      omega
    · rename_i h
      refine ih (u / 10) (by omega) (by omega) c ?_
      have hp : 0 < (Lib.decDigits (u / 10)).length := by rw [Lib.decDigits_length]; exact Lib.nDigits_pos _
      rwa [List.getElem?_append_left hp] at hc

theorem dv_bounds {l : List UInt8} (h : ∀ c ∈ l, isDig c) : ∀ a : Int, 0 ≤ a → a ≤ l.foldl (fun a c => a * 10 + ((c.toNat : Int) - 48)) a := by
  induction l with
  | nil => intro a _; exact Int.le_refl _
  | cons c l ih =>
    intro a ha
    have hc := h c (by simp)
    unfold isDig at hc
    have := ih (fun c hc => h c (by simp [hc])) (a * 10 + ((c.toNat : Int) - 48)) (by omega)
    simp only [List.foldl_cons]
    omega
theorem dv_nonneg {l : List UInt8} (h : ∀ c ∈ l, isDig c) : 0 ≤ dv l := dv_bounds h 0 (Int.le_refl _)
theorem dv_append_le {l m : List UInt8} (hl : ∀ c ∈ l, isDig c) (hm : ∀ c ∈ m, isDig c) : dv l ≤ dv (l ++ m) := by
  unfold dv
  rw [List.foldl_append]
  exact dv_bounds hm _ (dv_nonneg hl)
theorem dv_take {l : List UInt8} (h : ∀ c ∈ l, isDig c) (j : Nat) : 0 ≤ dv (l.take j) ∧ dv (l.take j) ≤ dv l := by
  have h1 : ∀ c ∈ l.take j, isDig c := fun c hc => h c (List.mem_of_mem_take hc)
  have h2 : ∀ c ∈ l.drop j, isDig c := fun c hc => h c (List.mem_of_mem_drop hc)
  refine ⟨dv_nonneg h1, ?_⟩
  have := dv_append_le h1 h2
  rwa [List.take_append_drop] at this
theorem dv_step {l : List UInt8} {j : Nat} (hj : j < l.length) : dv (l.take (j + 1)) = dv (l.take j) * 10 + ((l[j].toNat : Int) - 48) := by
  rw [List.take_succ_eq_append_getElem hj, dv_snoc]

end Go.Proofs.Qxb6631232aDoor
