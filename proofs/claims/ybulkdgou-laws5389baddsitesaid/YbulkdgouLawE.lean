import Derived.Test.YbulkdgouLawD
namespace Go.Proofs.Ybulkdgou
open Go.RowKit
namespace SortA

theorem below_grown {w w' : World} (h : Below w.heap.size w w') : w.grownBy w' none := ⟨h.os, h.tape, h.output, h.size, fun k hk _ => h.block k hk⟩
theorem Sl.below {w w' : World} {v : Value} {l : List Nat} (h : Sl 0 w v l) (hb : Below w.heap.size w w') : Sl 0 w' v l := h.kept (below_grown hb) (fun j hj => by cases hj)
theorem HZ.below' {w w' : World} {v : Value} {l : List Nat} (h : HZ 0 w v l) (hb : Below w.heap.size w w') : HZ 0 w' v l := h.below hb (fun B hB => (h.lt B hB).2)
theorem Sl.holds {lo : Nat} {w : World} {v : Value} {l : List Nat} (h : Sl lo w v l) : ∃ p c, v = .slice p l.length c ∧ Holds w p l := by
  obtain ⟨p, c, e, h1⟩ := h
  exact ⟨p, c, e, fun h0 => by obtain ⟨b, e1, _, _, h2⟩ := h1 h0; exact ⟨b, e1, h2⟩⟩
theorem HZ.holds {lo : Nat} {w : World} {v : Value} {l : List Nat} (h : HZ lo w v l) : ∃ p c, v = .slice p l.length c ∧ Holds w p l := by
  rcases h with ⟨rfl, rfl⟩ | ⟨B, L, n, cap, d, rfl, h1, h2, h3, h4, h5, rfl⟩
  · exact ⟨none, 0, rfl, fun h => by simp at h⟩
  · refine ⟨some ⟨B, 0, none⟩, cap, by rw [seg_len], fun _ => ⟨B, rfl, fun i hi => ?_⟩⟩
    rw [seg_len] at hi
    rw [h5.cell (by omega), getD_at (by rw [seg_len]; exact hi)]
    simp [seg]
theorem Holds.below {w w' : World} {p : Option Addr} {l : List Nat} (h : Holds w p l) (hb : Below w.heap.size w w') : Holds w' p l := fun h0 => by
  obtain ⟨b, e, hc⟩ := h h0
  exact ⟨b, e, fun i hi => (hb.cell (p := ⟨b, i, none⟩) (World.block_lt_of_cell? w _ (hc i hi))).trans (hc i hi)⟩
theorem Fin.below {w E F : World} {n L id g0 ma moff sv ab ob rp sb tb : Nat} {M : Nat → Nat} {O : List Nat} (h : Fin w E n L id g0 ma moff sv ab ob rp sb tb M O) (hb : Below E.heap.size E F) : Fin w F n L id g0 ma moff sv ab ob rp sb tb M O := by
  have hc : ∀ (a : Addr) (v : Value), E.cell? a = some v → F.cell? a = some v := fun a v e => (hb.cell (World.block_lt_of_cell? E a e)).trans e
  refine ⟨h.bel.trans (hb.mono h.bel.size), fun i hi => hc _ _ (h.mask i hi), fun i hi => hc _ _ (h.seen i hi), fun i hi => hc _ _ (h.ord i hi), fun i hi => hc _ _ (h.at0 i hi), fun i hi => hc _ _ (h.at1 i hi), hc _ _ h.r1, hc _ _ h.r2, fun x hx => ?_, ?_, ?_⟩
  · obtain ⟨b, c, h1, h2, h3⟩ := h.site x hx
    exact ⟨b, c, hc _ _ h1, hc _ _ h2, fun e => hc _ _ (h3 e)⟩
  · obtain ⟨G, gc, h1, h2, h3⟩ := h.grp
    refine ⟨G, gc, hc _ _ h1, fun g hg => ?_, fun j hj => ?_⟩
    · obtain ⟨b, h4, h5⟩ := h2 g hg
      exact ⟨b, hc _ _ h4, hc _ _ h5⟩
    · obtain ⟨v, h4, h5⟩ := h3 j hj
      exact ⟨v, hc _ _ h4, h5.below hb⟩
  · obtain ⟨items, zv, wb, n2, f, h1, h2, h3, h4, h5, h6⟩ := h.st
    exact ⟨items, zv, wb, n2, f, h1.of_block (hb.block _ h1.lt), h2.below hb, h3.of_block (hb.block _ h3.lt), h4, fun z v hz hv => (h5 z v hz hv).below hb, h6.below' hb⟩
/-- The wanted groups and masks, as they lie. -/
structure Want (F : World) (M : Nat → Nat) (O : List Nat) (K wt wmb : Nat) : Prop where
  len : (Gs M O).length = K
  wm : ∀ j, j < K → F.cell? ⟨wmb, j, none⟩ = some (.int .i64 (((WMb M O 256).getD j 0 : Nat) : Int))
  wt : ∀ j, j < K → ∃ v, F.cell? ⟨wt, j, none⟩ = some v ∧ Sl 0 F v ((Gs M O).getD j [])
theorem W14.want {E F : World} {M : Nat → Nat} {O : List Nat} {s29 s30 : Value} {val : Nat → Value} (h : W14 E M O 256 s29 s30 val F) (hK : 0 < (Gs M O).length) : ∃ wt c29 wmb c30, s29 = .slice (some ⟨wt, 0, none⟩) (Gs M O).length c29 ∧ s30 = .slice (some ⟨wmb, 0, none⟩) (Gs M O).length c30 ∧ Want F M O (Gs M O).length wt wmb := by
  have hl := Gs_len M O
  rw [hl] at hK
  obtain ⟨wt, c29, e1, _, _⟩ := h.wt.form hK
  obtain ⟨wmb, c30, e2, _, _⟩ := h.wm.form hK
  have h1 := h.wt
  have h2 := h.wm
  rw [e1] at h1
  rw [e2] at h2
  refine ⟨wt, c29, wmb, c30, by rw [hl]; exact e1, by rw [hl]; exact e2, rfl, fun j hj => ?_, fun j hj => ⟨val j, ?_, ?_⟩⟩
  · exact (prow_of_owns rfl h2).1.cell (by rw [← hl]; exact hj)
  · rw [hl] at hj
    rw [h1.cellAt j (by omega), List.getElem?_map, List.getElem?_range hj]
    rfl
  · rw [Gs_at hj]
    rw [hl] at hj
    exact Sl.of_owns rfl (h.each j hj) (Nat.zero_le _)
theorem Want.below {F X : World} {M : Nat → Nat} {O : List Nat} {K wt wmb : Nat} (h : Want F M O K wt wmb) (hb : Below F.heap.size F X) : Want X M O K wt wmb := by
  have hc : ∀ (a : Addr) (v : Value), F.cell? a = some v → X.cell? a = some v := fun a v e => (hb.cell (World.block_lt_of_cell? F a e)).trans e
  refine ⟨h.len, fun j hj => hc _ _ (h.wm j hj), fun j hj => ?_⟩
  obtain ⟨v, h1, h2⟩ := h.wt j hj
  exact ⟨v, hc _ _ h1, h2.below hb⟩
theorem Gs_elem_le {M : Nat → Nat} {O : List Nat} {j : Nat} (hj : j < (Gs M O).length) : ((Gs M O).getD j []).length ≤ O.length := by
  refine Gs_short (key := M) ?_
  simp only [List.getD, List.getElem?_eq_getElem hj, Option.getD_some]
  exact List.getElem_mem hj
/-- The masks' conjunction. -/
def andTo (f : Nat → Nat) : Nat → Nat
  | 0 => 255
  | j + 1 => andTo f j &&& f j
theorem andTo_le (f : Nat → Nat) : ∀ j, andTo f j ≤ 255 := by
  intro j
  induction j with
  | zero => exact Nat.le_refl _
  | succ j ih => exact Nat.le_trans Nat.and_le_left ih
theorem andTo_bit (f : Nat → Nat) (z : Nat) (hz : z < 8) : ∀ j, (andTo f j).testBit z = (List.range j).all fun i => (f i).testBit z := by
  intro j
  induction j with
  | zero =>
    have : z = 0 ∨ z = 1 ∨ z = 2 ∨ z = 3 ∨ z = 4 ∨ z = 5 ∨ z = 6 ∨ z = 7 := by omega
    simp only [andTo, List.range_zero, List.all_nil]
    rcases this with e | e | e | e | e | e | e | e <;> subst e <;> decide
  | succ j ih =>
    show (andTo f j &&& f j).testBit z = _
    rw [Nat.testBit_and, ih, List.range_succ, List.all_append]
    simp
theorem zones_all (f : Nat → Nat) (K : Nat) (hK : 1 ≤ K) : ((zlist (f 0) 8).filter fun z => (List.range (K - 1)).all fun i => (f (i + 1)).testBit z) = zlist (andTo f K) 8 := by
  unfold zlist
  rw [List.filter_filter]
  apply List.filter_congr
  intro z hz
  have hz8 := List.mem_range.1 hz
  rw [andTo_bit f z hz8 K]
  have e1 : List.range K = 0 :: (List.range (K - 1)).map (· + 1) := by
    have : K = (K - 1) + 1 := by omega
    rw [this, List.range_succ_eq_map]
    rfl
  rw [e1, List.all_cons, List.all_map, Bool.and_comm]
  rfl
theorem ofInt_i64' (a : Nat) (ha : a < 256) : (BitVec.ofInt 64 (a : Int)).toNat = a := by
  rw [BitVec.ofInt_natCast, BitVec.toNat_ofNat]; exact Nat.mod_eq_of_lt (by omega)
theorem i64_and_nat (a b : Nat) (ha : a < 256) (hb : b < 256) : bits .and .i64 (a : Int) (b : Int) = ((a &&& b : Nat) : Int) := by
  have hx : a &&& b < 2 ^ 8 := Nat.and_lt_two_pow _ (by omega)
  show IntKind.i64.wrap ((BitVec.ofInt 64 (a : Int) &&& BitVec.ofInt 64 (b : Int)).toNat : Int) = _
  rw [BitVec.toNat_and, ofInt_i64' a ha, ofInt_i64' b hb, IntKind.wrap_i64]
  omega
theorem bit_i64 (m z : Nat) (h : m ≤ 255) : bits .and .i64 ((m : Int) / 2 ^ z) 1 = ((m / 2 ^ z % 2 : Nat) : Int) := by
  have e1 : ((m : Int) / 2 ^ z) = ((m / 2 ^ z : Nat) : Int) := by simp
  have hl : m / 2 ^ z < 256 := Nat.lt_of_le_of_lt (Nat.div_le_self _ _) (by omega)
  rw [e1, show (1 : Int) = ((1 : Nat) : Int) from rfl, i64_and_nat (m / 2 ^ z) 1 (by omega) (by omega), Nat.and_one_is_mod]
theorem bit_val (m z : Nat) : m / 2 ^ z % 2 = if m.testBit z then 1 else 0 := by
  rw [Nat.testBit_eq_decide_div_mod_eq]
  by_cases h : m / 2 ^ z % 2 = 1
  · simp [h]
  · have : m / 2 ^ z % 2 = 0 := by omega
    simp [this]
theorem cnt_succ (p : Nat → Bool) (z : Nat) : ((List.range (z + 1)).filter p).length = ((List.range z).filter p).length + if p z then 1 else 0 := by
  rw [List.range_succ, List.filter_append, List.length_append]
  by_cases h : p z <;> simp [h]
theorem WM_le (M : Nat → Nat) (O : List Nat) (j : Nat) : (WMb M O 256).getD j 0 ≤ 255 := by
  by_cases h : j < (WMb M O 256).length
  · rw [getD_at h]
    have := (mem_WMb.1 (List.getElem_mem h)).1
    omega
  · simp [List.getD, List.getElem?_eq_none (Nat.le_of_not_lt h)]
end SortA
end Go.Proofs.Ybulkdgou
