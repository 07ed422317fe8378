import Derived.Test.YbulkdgjyAdd
namespace Go.Proofs.Ybulkdgjy

def bitOf (xs : List Nat) (ln : Nat) : Bool := (xs.getD (ln / 64) 0).testBit (ln % 64)

theorem getD_padded (xs : List Nat) (ln q : Nat) : (padded xs ln).getD q 0 = xs.getD q 0 := by
  rw [padded, List.getD_eq_getElem?_getD, List.getD_eq_getElem?_getD]
  by_cases h : q < xs.length
  · rw [List.getElem?_append_left h]
  · rw [List.getElem?_append_right (by omega), List.getElem?_replicate, List.getElem?_eq_none (l := xs) (by omega)]
    split <;> rfl

theorem and_pow_ne (x r : Nat) : ((x &&& 2 ^ r) != 0) = x.testBit r := by
  rw [nat_bit, Nat.testBit_eq_decide_div_mod_eq]
  have h2 : 0 < 2 ^ r := Nat.pow_pos (by decide)
  rcases Nat.mod_two_eq_zero_or_one (x / 2 ^ r) with h | h
  · rw [h]; simp
  · rw [h]; simp

theorem has_bit (xs : List Nat) (ln : Nat) : has xs ln = bitOf xs ln := by
  rw [has, getD_padded, and_pow_ne, bitOf]

theorem added_length (xs : List Nat) (ln : Nat) : (added xs ln).length = max xs.length (ln / 64 + 1) := by
  unfold added; split <;> simp [padded_length]

theorem bitOf_padded (xs : List Nat) (ln q : Nat) : bitOf (padded xs ln) q = bitOf xs q := by
  rw [bitOf, getD_padded, bitOf]

theorem bitOf_added (xs : List Nat) (ln q : Nat) : bitOf (added xs ln) q = (bitOf xs q || decide (q = ln)) := by
  unfold added
  split
  · rename_i h
    rw [has_bit] at h
    rw [bitOf_padded]
    by_cases e : q = ln
    · subst e; rw [h]; rfl
    · simp [e]
  · rw [bitOf, List.getD_eq_getElem?_getD, List.getElem?_set, getD_padded]
    by_cases e : ln / 64 = q / 64
    · rw [if_pos e, if_pos (by rw [padded_length]; omega)]
      rw [Option.getD_some, Nat.testBit_or, Nat.testBit_two_pow, e, bitOf]
      congr 1
      by_cases e2 : ln % 64 = q % 64
      · have : q = ln := by omega
        simp [this]
      · have : ¬ q = ln := fun e => e2 (by rw [e])
        simp [e2, this]
    · rw [if_neg e, ← List.getD_eq_getElem?_getD, getD_padded, bitOf]
      have : ¬ q = ln := fun h => e (by rw [h])
      simp [this]

theorem added_lt {xs : List Nat} {ln : Nat} (h : ∀ x ∈ xs, x < 18446744073709551616) : ∀ x ∈ added xs ln, x < 18446744073709551616 := by
  have hp : ∀ x ∈ padded xs ln, x < 18446744073709551616 := by
    intro x hx
    rw [padded, List.mem_append] at hx
    rcases hx with hx | hx
    · exact h x hx
    · rw [(List.mem_replicate.1 hx).2]; decide
  unfold added
  split
  · exact hp
  · intro x hx
    rcases List.mem_or_eq_of_mem_set hx with hx | rfl
    · exact hp x hx
    · have h1 : (padded xs ln).getD (ln / 64) 0 < 2 ^ 64 := by
        rw [List.getD_eq_getElem?_getD, List.getElem?_eq_getElem (by rw [padded_length]; omega)]
        exact hp _ (List.getElem_mem _)
      have h2 : 2 ^ (ln % 64) < 2 ^ 64 := Nat.pow_lt_pow_right (by decide) (by omega)
      exact Nat.or_lt_two_pow h1 h2

theorem bitOf_lt {xs : List Nat} {ln : Nat} (h : bitOf xs ln = true) : ln / 64 < xs.length := by
  rcases Nat.lt_or_ge (ln / 64) xs.length with h1 | h1
  · exact h1
  · rw [bitOf, List.getD_eq_getElem?_getD, List.getElem?_eq_none h1] at h
    simp at h

/-- The words that the law counts. -/
def need (M : Nat → Bool) (l : Nat) : Nat → Nat
  | 0 => 0
  | k + 1 => if M (l * 4096 + k) then k / 64 + 1 else need M l k

structure Plain (n : Nat) (X : Nat → List Nat) (M : Nat → Bool) : Prop where
  len : ∀ l, l < n → (X l).length ≤ 64
  word : ∀ l, l < n → ∀ x ∈ X l, x < 18446744073709551616
  bit : ∀ l, l < n → ∀ ln, ln < 4096 → M (l * 4096 + ln) = bitOf (X l) ln
  top : ∀ l, l < n → 0 < (X l).length → ∃ ln, ln < 4096 ∧ ln / 64 + 1 = (X l).length ∧ bitOf (X l) ln = true

theorem Plain.start (n : Nat) : Plain n (fun _ => []) (fun _ => false) :=
  ⟨fun _ _ => Nat.zero_le _, fun _ _ x hx => by simp at hx, fun _ _ ln _ => by simp [bitOf], fun _ _ h => by simp at h⟩

theorem Plain.step {n l ln : Nat} {X : Nat → List Nat} {M : Nat → Bool} (h : Plain n X M) (hl : l < n) (hln : ln < 4096) : Plain n (upd X l (added (X l) ln)) (upd M (l * 4096 + ln) true) := by
  refine ⟨?_, ?_, ?_, ?_⟩
  · intro j hj
    by_cases e : j = l
    · subst e; rw [upd_same, added_length]; have := h.len j hj; omega
    · rw [upd_other _ _ e]; exact h.len j hj
  · intro j hj
    by_cases e : j = l
    · subst e; rw [upd_same]; exact added_lt (h.word j hj)
    · rw [upd_other _ _ e]; exact h.word j hj
  · intro j hj q hq
    by_cases e : j = l
    · subst e
      rw [upd_same, bitOf_added]
      by_cases e2 : q = ln
      · subst e2; rw [upd_same]; simp
      · rw [upd_other _ _ (by omega), h.bit j hj q hq]; simp [e2]
    · rw [upd_other _ _ (by omega), upd_other _ _ e]; exact h.bit j hj q hq
  · intro j hj hpos
    by_cases e : j = l
    · subst e
      rw [upd_same] at hpos ⊢
      by_cases h2 : (X j).length < ln / 64 + 1
      · exact ⟨ln, hln, by rw [added_length]; omega, by rw [bitOf_added]; simp⟩
      · obtain ⟨q, q1, q2, q3⟩ := h.top j hj (by omega)
        exact ⟨q, q1, by rw [added_length]; omega, by rw [bitOf_added, q3]; rfl⟩
    · rw [upd_other _ _ e] at hpos ⊢
      exact h.top j hj hpos

theorem need_le (M : Nat → Bool) (l k : Nat) : need M l k ≤ (k + 63) / 64 := by
  induction k with
  | zero => exact Nat.zero_le _
  | succ k ih => simp only [need]; split <;> omega

theorem need_mono (M : Nat → Bool) (l k d : Nat) : need M l k ≤ need M l (k + d) := by
  induction d with
  | zero => exact Nat.le_refl _
  | succ d ih =>
    refine Nat.le_trans ih ?_
    have := need_le M l (k + d)
    rw [← Nat.add_assoc]
    simp only [need]; split <;> omega

theorem Plain.need {n l : Nat} {X : Nat → List Nat} {M : Nat → Bool} (h : Plain n X M) (hl : l < n) : need M l 4096 = (X l).length := by
  have h1 : ∀ k, k ≤ 4096 → Ybulkdgjy.need M l k ≤ (X l).length := by
    intro k
    induction k with
    | zero => intro _; exact Nat.zero_le _
    | succ k ih =>
      intro hk
      simp only [Ybulkdgjy.need]
      split
      · rename_i hb
        rw [h.bit l hl k (by omega)] at hb
        have := bitOf_lt hb
        omega
      · exact ih (by omega)
  rcases Nat.eq_zero_or_pos (X l).length with h0 | h0
  · have := h1 4096 (Nat.le_refl _); omega
  · obtain ⟨ln, q1, q2, q3⟩ := h.top l hl h0
    have e : Ybulkdgjy.need M l (ln + 1) = (X l).length := by
      simp only [Ybulkdgjy.need]
      rw [h.bit l hl ln q1, q3, if_pos rfl, q2]
    have := need_mono M l (ln + 1) (4096 - (ln + 1))
    rw [Nat.add_sub_cancel' (by omega)] at this
    have := h1 4096 (Nat.le_refl _)
    omega

theorem Lines.setOther {w : World} {S n B b o : Nat} {v : Value} {R : Nat → Value} {X : Nat → List Nat} (h : Lines w S n B R X) (hb : b < B) (hne : b ≠ S) : Lines (w.setCell ⟨b, o, none⟩ v) S n B R X := by
  have gs := grown_setCell w ⟨b, o, none⟩ v
  refine ⟨h.lt, Nat.le_trans h.bsz gs.size, h.row.setOther (fun e => hne e.symm) _, fun j hj => (h.own j hj).kept gs ?_, h.apart⟩
  cases hv : (R j).ownBlock with
  | none => exact .inl rfl
  | some k =>
    have := (h.own j hj).lt k hv
    exact .inr (by simp; omega)
end Go.Proofs.Ybulkdgjy
