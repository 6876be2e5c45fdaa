namespace Go.Proofs.Qxb6630458a

/-- Powers of ten. -/
def p10 : Nat → Int
  | 0 => 1
  | n + 1 => 10 * p10 n

/-- The number that the bytes write in decimal, read from the left behind 'acc'. -/
def vl (acc : Int) : List Int → Int
  | [] => acc
  | b :: t => vl (acc * 10 + (b - 48)) t

/-- All bytes are ASCII digits. -/
def alld (l : List Int) : Prop := ∀ b ∈ l, 48 ≤ b ∧ b ≤ 57

theorem p10_pos (n : Nat) : 1 ≤ p10 n := by
  induction n with
  | zero => simp [p10]
  | succ n ih => simp only [p10]; omega

theorem p10_add (m n : Nat) : p10 (m + n) = p10 m * p10 n := by
  induction m with
  | zero => simp [p10]
  | succ m ih => rw [Nat.succ_add]; simp only [p10]; rw [ih, Int.mul_assoc]

theorem p10_mono {m n : Nat} (h : m ≤ n) : p10 m ≤ p10 n := by
  obtain ⟨k, rfl⟩ := Nat.exists_eq_add_of_le h
  rw [p10_add]
  have h1 := p10_pos m
  have h2 := p10_pos k
  have := Int.mul_le_mul_of_nonneg_left h2 (show 0 ≤ p10 m by omega)
  omega

theorem vl_append (acc : Int) (l m : List Int) : vl acc (l ++ m) = vl (vl acc l) m := by
  induction l generalizing acc with
  | nil => rfl
  | cons b t ih => simp only [List.cons_append, vl]; exact ih _

theorem vl_acc (acc : Int) (l : List Int) : vl acc l = acc * p10 l.length + vl 0 l := by
  induction l generalizing acc with
  | nil => simp [vl, p10]
  | cons b t ih =>
    simp only [vl, List.length_cons, p10]
    rw [ih, ih (0 * 10 + (b - 48)), ← Int.add_assoc]
    congr 1
    have e : acc * (10 * p10 t.length) = (acc * 10) * p10 t.length := by rw [Int.mul_assoc]
    rw [e, ← Int.add_mul]; congr 1; omega

theorem alld_nil : alld [] := fun _ h => by cases h
theorem alld_cons {b : Int} {t : List Int} : alld (b :: t) ↔ (48 ≤ b ∧ b ≤ 57) ∧ alld t := by
  unfold alld; simp
theorem alld_append {l m : List Int} : alld (l ++ m) ↔ alld l ∧ alld m := by
  unfold alld; simp only [List.mem_append]
  exact ⟨fun h => ⟨fun b hb => h b (Or.inl hb), fun b hb => h b (Or.inr hb)⟩, fun h b hb => hb.elim (h.1 b) (h.2 b)⟩

theorem vl_bounds {l : List Int} (h : alld l) : 0 ≤ vl 0 l ∧ vl 0 l < p10 l.length := by
  induction l with
  | nil => simp [vl, p10]
  | cons b t ih =>
    obtain ⟨hb, ht⟩ := alld_cons.1 h
    have := ih ht
    simp only [vl, List.length_cons, p10]
    rw [vl_acc]
    have hp := p10_pos t.length
    have h1 : 0 ≤ (0 * 10 + (b - 48)) * p10 t.length := Int.mul_nonneg (by omega) (by omega)
    have h2 : (0 * 10 + (b - 48)) * p10 t.length ≤ 9 * p10 t.length := Int.mul_le_mul_of_nonneg_right (by omega) (by omega)
    omega

theorem vl_ge {l : List Int} (h : alld l) {acc : Int} (ha : 0 ≤ acc) : acc ≤ vl acc l := by
  rw [vl_acc]
  have h1 := p10_pos l.length
  have h2 := (vl_bounds h).1
  have := Int.mul_le_mul_of_nonneg_left h1 ha
  omega

/-- What parseNumber accepts. -/
def pnB (l : List Int) (L : Int) : Bool := decide (l ≠ []) && l.all (fun b => decide (48 ≤ b) && decide (b ≤ 57)) && decide (vl 0 l ≤ L)
/-- What parseNumber answers. -/
def pnV (l : List Int) (L : Int) : Int := if pnB l L = true then vl 0 l else 0

theorem pnB_iff {l : List Int} {L : Int} : pnB l L = true ↔ l ≠ [] ∧ alld l ∧ vl 0 l ≤ L := by
  unfold pnB alld
  simp [and_assoc]

theorem pnV_of_true {l : List Int} {L : Int} (h : pnB l L = true) : pnV l L = vl 0 l := by simp [pnV, h]
theorem pnV_of_false {l : List Int} {L : Int} (h : pnB l L = false) : pnV l L = 0 := by simp [pnV, h]

theorem pn_nil (L : Int) : pnB [] L = false := by simp [pnB]

theorem pn_mk {l : List Int} {L : Int} (h0 : l ≠ []) (h1 : alld l) (h2 : vl 0 l ≤ L) : pnB l L = true := pnB_iff.2 ⟨h0, h1, h2⟩

/-- A byte that is no digit. -/
theorem pn_bad {l : List Int} {L : Int} (h : ¬ alld l) : pnB l L = false := by
  rw [Bool.eq_false_iff]; intro hc; exact h (pnB_iff.1 hc).2.1
theorem pn_big {l : List Int} {L : Int} (h : L < vl 0 l) : pnB l L = false := by
  rw [Bool.eq_false_iff]; intro hc; have := (pnB_iff.1 hc).2.2; omega

theorem take_snoc {l : List Int} {k : Nat} (h : k < l.length) : l.take (k + 1) = l.take k ++ [l[k]?.getD 0] := by
  rw [List.take_succ_eq_append_getElem h]; simp [h]

theorem vl_snoc (l : List Int) (b : Int) : vl 0 (l ++ [b]) = vl 0 l * 10 + (b - 48) := by
  rw [vl_append]; rfl

theorem alld_take_step {l : List Int} {k : Nat} (h : k < l.length) (ha : alld (l.take k)) (hb : 48 ≤ l[k]?.getD 0 ∧ l[k]?.getD 0 ≤ 57) : alld (l.take (k + 1)) := by
  rw [take_snoc h]; exact alld_append.2 ⟨ha, alld_cons.2 ⟨hb, alld_nil⟩⟩

theorem vl_take_step {l : List Int} {k : Nat} (h : k < l.length) : vl 0 (l.take (k + 1)) = vl 0 (l.take k) * 10 + (l[k]?.getD 0 - 48) := by
  rw [take_snoc h, vl_snoc]

theorem pn_stop_digit {l : List Int} {L : Int} {k : Nat} (h : k < l.length) (hb : ¬ (48 ≤ l[k]?.getD 0 ∧ l[k]?.getD 0 ≤ 57)) : pnB l L = false := by
  apply pn_bad; intro ha
  apply hb
  have : l[k]?.getD 0 = l[k] := by simp [h]
  rw [this]; exact ha _ (List.getElem_mem h)

theorem pn_stop_big {l : List Int} {L : Int} {k : Nat} (h : k < l.length) (hb : L < vl 0 (l.take k) * 10 + (l[k]?.getD 0 - 48)) : pnB l L = false := by
  by_cases ha : alld l
  · apply pn_big
    have e : l = l.take (k + 1) ++ l.drop (k + 1) := (List.take_append_drop _ _).symm
    have hs := alld_append.1 (by rw [← e]; exact ha : alld (l.take (k + 1) ++ l.drop (k + 1)))
    have h1 := vl_take_step h
    have h0 := (vl_bounds hs.1).1
    have h2 := vl_ge hs.2 h0
    rw [e, vl_append]
    omega
  · exact pn_bad ha

/-- Canonical decimal: digits, at least one, no leading zero but in the lone zero. -/
def Canon (l : List Int) : Prop := l ≠ [] ∧ alld l ∧ (l.head? = some 48 → l = [48])

theorem lt_of_canon {l : List Int} (h : Canon l) (h2 : 2 ≤ l.length) : p10 (l.length - 1) ≤ vl 0 l := by
  obtain ⟨h0, h1, hz⟩ := h
  match l, h0 with
  | b :: t, _ =>
    obtain ⟨hb, ht⟩ := alld_cons.1 h1
    have hne : b ≠ 48 := by
      intro e; subst e
      have := hz rfl
      simp at this; subst this; simp at h2
    simp only [List.length_cons, Nat.add_sub_cancel, vl]
    rw [vl_acc]
    have h3 := (vl_bounds ht).1
    have h4 := p10_pos t.length
    have h5 : 1 * p10 t.length ≤ (0 * 10 + (b - 48)) * p10 t.length := Int.mul_le_mul_of_nonneg_right (by omega) (by omega)
    omega

/-- A shorter canonical numeral is the smaller number. -/
theorem canon_shorter {l m : List Int} (hl : alld l) (hm : Canon m) (h1 : 1 ≤ l.length) (h : l.length < m.length) : vl 0 l < vl 0 m := by
  have a := (vl_bounds hl).2
  have b := lt_of_canon hm (by omega)
  have c := p10_mono (show l.length ≤ m.length - 1 by omega)
  omega

/-- Two lists of digits of one length: the first place at which they part decides. -/
theorem vl_part {l m : List Int} (hl : alld l) (hm : alld m) (he : l.length = m.length) {k : Nat} (hk : k < l.length)
    (hsame : l.take k = m.take k) (hlt : l[k]?.getD 0 < m[k]?.getD 0) : vl 0 l < vl 0 m := by
  have el : l = l.take (k + 1) ++ l.drop (k + 1) := (List.take_append_drop _ _).symm
  have em : m = m.take (k + 1) ++ m.drop (k + 1) := (List.take_append_drop _ _).symm
  have h1 := (alld_append.1 (by rw [← el]; exact hl : alld (l.take (k + 1) ++ l.drop (k + 1)))).2
  have h2 := (alld_append.1 (by rw [← em]; exact hm : alld (m.take (k + 1) ++ m.drop (k + 1)))).2
  rw [el, em, vl_append, vl_append, vl_take_step hk, vl_take_step (by omega : k < m.length), hsame]
  rw [vl_acc _ (l.drop (k + 1)), vl_acc _ (m.drop (k + 1))]
  have len : (l.drop (k + 1)).length = (m.drop (k + 1)).length := by simp [he]
  have b1 := (vl_bounds h1).2
  have b2 := (vl_bounds h2).1
  rw [len] at b1 ⊢
  generalize (m.drop (k + 1)).length = q at *
  generalize vl 0 (m.take k) = x
  have hp := p10_pos q
  have : (x * 10 + (l[k]?.getD 0 - 48) + 1) * p10 q ≤ (x * 10 + (m[k]?.getD 0 - 48)) * p10 q := Int.mul_le_mul_of_nonneg_right (by omega) (by omega)
  rw [Int.add_mul] at this
  omega

theorem take_step_eq {l m : List Int} {k : Nat} (h1 : k < l.length) (h2 : k < m.length) (h : l.take k = m.take k) (e : l[k]?.getD 0 = m[k]?.getD 0) : l.take (k + 1) = m.take (k + 1) := by
  rw [take_snoc h1, take_snoc h2, h, e]

/-- A number has one canonical numeral. -/
theorem canon_unique {l m : List Int} (hl : Canon l) (hm : Canon m) (h : vl 0 l = vl 0 m) : l = m := by
  have hlen : l.length = m.length := by
    rcases Nat.lt_trichotomy l.length m.length with c | c | c
    · have := canon_shorter hl.2.1 hm (by have := List.length_pos_iff.2 hl.1; omega) c; omega
    · exact c
    · have := canon_shorter hm.2.1 hl (by have := List.length_pos_iff.2 hm.1; omega) c; omega
  have key : ∀ k, k ≤ l.length → l.take k = m.take k := by
    intro k
    induction k with
    | zero => intro _; rfl
    | succ k ih =>
      intro hk
      have hs := ih (by omega)
      apply take_step_eq (by omega) (by omega) hs
      rcases Int.lt_trichotomy (l[k]?.getD 0) (m[k]?.getD 0) with c | c | c
      · have := vl_part hl.2.1 hm.2.1 hlen (by omega) hs c; omega
      · exact c
      · have := vl_part hm.2.1 hl.2.1 hlen.symm (by omega) hs.symm c; omega
  have := key l.length (Nat.le_refl _)
  rw [List.take_length, hlen, List.take_length] at this
  exact this

/-- Leading zeros count for nothing. -/
theorem vl_zeros {l : List Int} {i : Nat} (h : ∀ j, j < i → l[j]?.getD 0 = 48) (hi : i ≤ l.length) : vl 0 (l.drop i) = vl 0 l := by
  induction i with
  | zero => rfl
  | succ i ih =>
    rw [← ih (fun j hj => h j (by omega)) (by omega)]
    rw [List.drop_eq_getElem_cons (show i < l.length by omega)]
    have e := h i (by omega)
    simp [show i < l.length by omega] at e
    simp [vl, e]

theorem canon_drop {l : List Int} (ha : alld l) {i : Nat} (hi : i < l.length) (h : i = l.length - 1 ∨ l[i]?.getD 0 ≠ 48) : Canon (l.drop i) := by
  refine ⟨by intro e; have := congrArg List.length e; simp at this; omega, fun b hb => ha b (List.mem_of_mem_drop hb), ?_⟩
  intro hh
  rcases h with h | h
  · rw [List.drop_eq_getElem_cons hi] at hh ⊢
    simp at hh
    rw [List.getElem?_eq_getElem hi] at hh
    rw [Option.some.inj hh, List.drop_eq_nil_of_le (by omega)]
  · exfalso; apply h
    rw [List.drop_eq_getElem_cons hi] at hh
    simp at hh
    rw [hh]; rfl

/-! The joined word -/
theorem pn_join_true {a b : List Int} {L : Int} (h : pnB (a ++ b) L = true) (ha : a ≠ []) (hb : b ≠ []) : pnB a L = true ∧ pnB b L = true := by
  obtain ⟨_, h1, h2⟩ := pnB_iff.1 h
  obtain ⟨da, db⟩ := alld_append.1 h1
  rw [vl_append, vl_acc] at h2
  have a0 := (vl_bounds da).1
  have b0 := (vl_bounds db).1
  have hp := p10_pos b.length
  have := Int.mul_le_mul_of_nonneg_left hp a0
  have hn := Int.mul_nonneg a0 (show 0 ≤ p10 b.length by omega)
  exact ⟨pn_mk ha da (by omega), pn_mk hb db (by omega)⟩

theorem pn_join_iff {a b : List Int} {L : Int} (ha : pnB a L = true) (hb : pnB b L = true) : pnB (a ++ b) L = decide (vl 0 a * p10 b.length + vl 0 b ≤ L) := by
  obtain ⟨a0, a1, _⟩ := pnB_iff.1 ha
  obtain ⟨_, b1, _⟩ := pnB_iff.1 hb
  rw [Bool.eq_iff_iff, pnB_iff, decide_eq_true_iff, vl_append, vl_acc (vl 0 a) b]
  exact ⟨fun h => h.2.2, fun h => ⟨by simp [a0], alld_append.2 ⟨a1, b1⟩, h⟩⟩

theorem vl_join (a b : List Int) : vl 0 (a ++ b) = vl 0 a * p10 b.length + vl 0 b := by rw [vl_append, vl_acc]

/-! Writing a number from the right -/
theorem dec_step {u c : Int} {ds : List Int} (h : u = c * p10 ds.length + vl 0 ds) : u = (c / 10) * p10 (ds.length + 1) + vl 0 ((48 + c % 10) :: ds) := by
  simp only [vl, p10]
  rw [vl_acc, h, ← Int.add_assoc]
  congr 1
  have e : c / 10 * (10 * p10 ds.length) = (c / 10 * 10) * p10 ds.length := by rw [Int.mul_assoc]
  rw [e, ← Int.add_mul]; congr 1; omega

theorem dec_room {u c : Int} {ds : List Int} (h : u = c * p10 ds.length + vl 0 ds) (hd : alld ds) (hu : u ≤ 18446744073709551615) (hc : 1 ≤ c) : ds.length < 20 := by
  rcases Nat.lt_or_ge ds.length 20 with h2 | h2
  · exact h2
  · exfalso
    have h3 := p10_mono h2
    have h4 : p10 20 = 100000000000000000000 := by simp [p10]
    have h5 := (vl_bounds hd).1
    have h6 : 1 * p10 ds.length ≤ c * p10 ds.length := Int.mul_le_mul_of_nonneg_right hc (by have := p10_pos ds.length; omega)
    omega

theorem dec_alld {c : Int} {ds : List Int} (h : alld ds) : alld ((48 + c % 10) :: ds) := alld_cons.2 ⟨by omega, h⟩

theorem dec_end {u : Int} {ds : List Int} (h : u = 0 * p10 ds.length + vl 0 ds) (hu : 1 ≤ u) (hd : alld ds) (hz : ds.head? ≠ some 48) : Canon ds ∧ vl 0 ds = u := by
  have e : vl 0 ds = u := by omega
  refine ⟨⟨?_, hd, fun h => absurd h hz⟩, e⟩
  rintro rfl; simp [vl] at e; omega

theorem dec_head {c : Int} {ds : List Int} (hc : 1 ≤ c) (h : c / 10 = 0) : ((48 + c % 10) :: ds).head? ≠ some 48 := by
  simp; omega

theorem canon_zero : Canon [48] ∧ vl 0 [48] = 0 := ⟨⟨by simp, by simp [alld], by simp⟩, by simp [vl]⟩

end Go.Proofs.Qxb6630458a
