import Derived.Test.YbulkdgjyPlain
namespace Go.Proofs.Ybulkdgjy
open Go.RowKit
attribute [local go_sem ↓] Go.wp_at_zero Go.wp_at_succ

/-- What the walk is told of a slice of words. -/
def IsU (w : World) (a : Option Addr) (n : Nat) (Z : Nat → Nat) : Prop :=
  0 < n → ∃ b off, a = some ⟨b, off, none⟩ ∧ b < w.heap.size ∧ ∀ j, j < n → w.cell? ⟨b, off + j, none⟩ = some (.int .u64 (Z j : Int)) ∧ Z j < 18446744073709551616

theorem IsU.below {w w' : World} {a : Option Addr} {n : Nat} {Z : Nat → Nat} (h : IsU w a n Z) (hb : Below w.heap.size w w') : IsU w' a n Z := by
  intro h0
  obtain ⟨b, off, e, hlt, hc⟩ := h h0
  refine ⟨b, off, e, Nat.lt_of_lt_of_le hlt hb.size, fun i hi => ?_⟩
  rw [hb.cell (p := ⟨b, off + i, none⟩) hlt]
  exact hc i hi

/-- The slice of slices. -/
structure Init (w : World) (a : Option Addr) (len : Nat) (A : Nat → Option Addr) (L C : Nat → Nat) (Z : Nat → Nat → Nat) : Prop where
  head : 0 < len → ∃ b off, a = some ⟨b, off, none⟩ ∧ b < w.heap.size ∧ ∀ i, i < len → w.cell? ⟨b, off + i, none⟩ = some (.slice (A i) (L i) (C i))
  each : ∀ i, i < len → IsU w (A i) (L i) (Z i)
  none : ∀ i, i < len → A i = Option.none → L i = 0

def words (L : Nat → Nat) (Z : Nat → Nat → Nat) (i j : Nat) : List Nat := if j < i then (List.range (L j)).map (Z j) else []

theorem words_length {L : Nat → Nat} {Z : Nat → Nat → Nat} {i j : Nat} (h : j < i) : (words L Z i j).length = L j := by simp [words, h]
theorem words_getD {L : Nat → Nat} {Z : Nat → Nat → Nat} {i j q : Nat} (h : j < i) (hq : q < L j) : (words L Z i j).getD q 0 = Z j q := by
  simp [words, h, List.getD_eq_getElem?_getD, hq]
theorem words_succ (L : Nat → Nat) (Z : Nat → Nat → Nat) (i : Nat) : upd (words L Z i) i ((List.range (L i)).map (Z i)) = words L Z (i + 1) := by
  funext j
  unfold upd words
  by_cases h : j = i
  · subst h; simp
  · by_cases h2 : j < i
    · rw [if_neg h, if_pos h2, if_pos (by omega)]
    · rw [if_neg h, if_neg h2, if_neg (by omega)]
theorem words_skip {L : Nat → Nat} {Z : Nat → Nat → Nat} {i : Nat} (h : L i = 0) : words L Z i = words L Z (i + 1) := by
  rw [← words_succ, h]
  funext j
  unfold upd words
  by_cases e : j = i
  · subst e; simp
  · simp [e]
theorem words_lt {w : World} {a : Option Addr} {len : Nat} {A : Nat → Option Addr} {L C : Nat → Nat} {Z : Nat → Nat → Nat} (h : Init w a len A L C Z) (l : Nat) : ∀ x ∈ words L Z len l, x < 18446744073709551616 := by
  intro x hx
  unfold words at hx
  split at hx
  · rename_i hl
    simp at hx
    obtain ⟨j, hj, rfl⟩ := hx
    obtain ⟨b, off, _, _, hc⟩ := h.each l hl (by omega)
    exact (hc j hj).2
  · simp at hx

theorem Lines.put {w w3 : World} {S n B l g d cap : Nat} {ys : List Nat} {R : Nat → Value} {X : Nat → List Nat} (h : Lines w S n B R X) (hl : l < n)
    (hown : w3.ownsRow B 31 1 (.slice (some ⟨g, 0, Option.none⟩) d cap) ys.length (ys.map wd)) (hgr : w.grownBy w3 Option.none) (hat : w.heap.size ≤ g) :
    Lines (w3.setCell ⟨S, l, Option.none⟩ (.slice (some ⟨g, 0, Option.none⟩) d cap)) S n B (upd R l (.slice (some ⟨g, 0, Option.none⟩) d cap)) (upd X l ys) ∧
    Kept B S w (w3.setCell ⟨S, l, Option.none⟩ (.slice (some ⟨g, 0, Option.none⟩) d cap)) := by
  have hS := h.row.lt
  have hSB := h.lt
  have hB := h.bsz
  have hrow3 : w3.rowIs S 30 n R := h.row.of_block (hgr.block S (by omega) (by simp))
  have gs := grown_setCell w3 ⟨S, l, Option.none⟩ (.slice (some ⟨g, 0, Option.none⟩) d cap)
  have hsz := hgr.size
  refine ⟨⟨hSB, ?_, ?_, ?_, ?_⟩, ?_⟩
  · have := gs.size; omega
  · exact (hrow3.set l _).congr fun i hi => by unfold upd; rfl
  · intro j hj
    by_cases hjl : j = l
    · subst hjl
      rw [upd_same, upd_same]
      exact hown.kept gs (.inr (by simp [Value.ownBlock]; omega))
    · rw [upd_other _ _ hjl, upd_other _ _ hjl]
      refine ((h.own j hj).kept hgr (by cases hv : (R j).ownBlock <;> simp)).kept gs ?_
      cases hv : (R j).ownBlock with
      | none => exact .inl rfl
      | some k =>
        have := (h.own j hj).lt k hv
        exact .inr (by simp; omega)
  · have key : ∀ j, j < n → j ≠ l → (R j).ownBlock = Option.none ∨ (R j).ownBlock ≠ some g := by
      intro j hj hjl
      cases hv : (R j).ownBlock with
      | none => exact .inl rfl
      | some k =>
        have := (h.own j hj).lt k hv
        exact .inr (by simp; omega)
    intro i j hi hj hij
    by_cases hil : i = l
    · subst hil
      have hji : j ≠ i := fun e => hij e.symm
      rw [upd_same, upd_other _ _ hji]
      rcases key j hj hji with h1 | h1
      · exact .inr (by rw [h1]; simp [Value.ownBlock])
      · exact .inr (fun e => h1 e.symm)
    · rw [upd_other _ _ hil]
      by_cases hjl : j = l
      · subst hjl
        rw [upd_same]
        exact key i hi hil
      · rw [upd_other _ _ hjl]
        exact h.apart i j hi hj hij
  · refine (Kept.of_grown hgr (by omega) (fun k hk => by cases hk)).trans (Kept.of_grown gs (by omega) (fun k hk => .inl ?_))
    simpa using hk.symm

theorem own_of_row {w : World} {B g d : Nat} {Z : Nat → Nat} (h : w.rowIs g 31 d (fun m => .int .u64 (Z m : Int))) (hB : B ≤ g) (hd : d ≤ maxLen) :
    w.ownsRow B 31 1 (.slice (some ⟨g, 0, Option.none⟩) d d) ((List.range d).map Z).length (((List.range d).map Z).map wd) := by
  obtain ⟨c, hg, hc1, hc2⟩ := h
  refine ⟨by simp, .inr ⟨g, d, c, by simp, hB, hg, by simp, hd, by omega, ?_⟩⟩
  apply List.ext_getElem?
  intro j
  by_cases hj : j < d
  · have := hc2 j hj
    rw [List.getElem?_take, if_pos (by simpa using hj)]
    simp [hj, wd]
    simpa [Array.getElem?_eq_some_iff] using this
  · rw [List.getElem?_eq_none (by simp; omega), List.getElem?_eq_none (by simp; omega)]

theorem or_set {x r : Nat} (h : x.testBit r = true) : x ||| 2 ^ r = x := by
  apply Nat.eq_of_testBit_eq
  intro i
  rw [Nat.testBit_or, Nat.testBit_two_pow]
  by_cases e : r = i
  · subst e; simp [h]
  · simp [e]

theorem getD_added (xs : List Nat) (ln i : Nat) : (added xs ln).getD i 0 = if i = ln / 64 then xs.getD i 0 ||| 2 ^ (ln % 64) else xs.getD i 0 := by
  unfold added
  split
  · rename_i h
    rw [has_bit, bitOf] at h
    rw [getD_padded]
    split
    · rename_i e; rw [e, or_set h]
    · rfl
  · rw [List.getD_eq_getElem?_getD, List.getElem?_set, getD_padded]
    by_cases e : ln / 64 = i
    · subst e
      rw [if_pos rfl, if_pos (by rw [padded_length]; omega), if_pos rfl]; rfl
    · rw [if_neg e, if_neg (fun h => e h.symm), ← List.getD_eq_getElem?_getD, getD_padded]

theorem wpList_copyU {ops : Array Oper} {rest : List Oper} {o : Oper} {a : Act} {w : World} {Q : Exit → Act → World → Prop} (hgd : o.guard = Option.none) (ho : o.op = .call { callee := .builtin .copy, args := #[.tmp 59, .tmp 63], argTypes := #[30, 30] })
    (g d cap : Nat) (ad : Option Addr) (X : Nat → Nat) (hd : a.eval (.tmp 59) = .slice (some ⟨g, 0, Option.none⟩) d d) (hs : a.eval (.tmp 63) = .slice ad d cap) (hrow : w.rowIs g 31 d (fun _ => .int .u64 0)) (hsrc : IsU w ad d X)
    (h : ∀ w1, Below g w w1 → w1.heap.size = w.heap.size → w1.rowIs g 31 d (fun m => .int .u64 (X m : Int)) → wpList Yba.prog ops Q rest (a.put o.dst (goInt d)) w1) : wpList Yba.prog ops Q (o :: rest) a w := by
  rcases Nat.eq_zero_or_pos d with h0 | h0
  · subst h0
    refine wpList_copy_nothing hgd _ _ 30 30 ho 31 Yba.underlying30 size31 _ _ 0 0 0 cap hd hs rfl ?_
    exact h w (Below.refl _ _) rfl (hrow.congr fun i hi => by omega)
  · obtain ⟨b, off, rfl, hb, hc⟩ := hsrc h0
    obtain ⟨c, hg, hc1, hc2⟩ := hrow
    have hlen : ((List.range d).map fun m => Value.int .u64 (X m : Int)).length = d := by simp
    refine wpList_copy_own hgd _ _ 30 30 ho 31 Yba.underlying30 size31 g 0 d d ⟨b, off, Option.none⟩ d cap hd hs c 31 hg ((List.range d).map fun m => .int .u64 (X m : Int)) (by simp) ?_ (by simp; omega) ?_ ?_
    · intro j v hj
      rw [List.getElem?_map] at hj
      obtain ⟨m, hm, rfl⟩ := Option.map_eq_some_iff.1 hj
      obtain ⟨hl, rfl⟩ := List.getElem?_eq_some_iff.1 hm
      simp at hl ⊢
      rw [Addr.add_lit]
      exact (hc j hl).1
    · intro v hv
      simp at hv
      obtain ⟨m, _, rfl⟩ := hv
      rfl
    · rw [hlen]
      refine h _ (below_setRow (Below.refl _ _) (Nat.le_refl _) _) (by simp) ⟨_, setRow_heap w g c _ 31 (0, 0) hg, ?_, ?_⟩
      · simp; omega
      · intro i hi
        simp
        rw [List.getElem?_append_left (by simpa using hi)]
        simp [hi]
end Go.Proofs.Ybulkdgjy
