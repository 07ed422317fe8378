import Derived.Test.YbulkdgouRows
namespace Go.Proofs.Ybulkdgou
namespace SortA

/-- A stretch of a row. -/
def seg (d : Nat → Nat) (a b : Nat) : List Nat := (List.range (b - a)).map fun i => d (a + i)
/-- Ascending by key. -/
def Asc (key : Nat → Nat) (d : Nat → Nat) (a b : Nat) : Prop := ∀ i j, a ≤ i → i ≤ j → j < b → key (d i) ≤ key (d j)
/-- The same elements, those of one key in the same order. -/
def Same (key : Nat → Nat) (l l' : List Nat) : Prop := ∀ v, l'.filter (fun x => key x == v) = l.filter (fun x => key x == v)
/-- Only the stretch is turned, and stably. -/
structure Merged (key d d' : Nat → Nat) (a b : Nat) : Prop where
  out : ∀ i, ¬ (a ≤ i ∧ i < b) → d' i = d i
  same : Same key (seg d a b) (seg d' a b)

theorem mem_seg {d : Nat → Nat} {a b x : Nat} : x ∈ seg d a b ↔ ∃ i, a ≤ i ∧ i < b ∧ d i = x := by
  simp only [seg, List.mem_map, List.mem_range]
  constructor
  · rintro ⟨i, hi, rfl⟩; exact ⟨a + i, by omega, by omega, rfl⟩
  · rintro ⟨i, h1, h2, rfl⟩; exact ⟨i - a, by omega, by rw [show a + (i - a) = i by omega]⟩
theorem seg_split (d : Nat → Nat) {a m b : Nat} (h1 : a ≤ m) (h2 : m ≤ b) : seg d a b = seg d a m ++ seg d m b := by
  unfold seg
  rw [show b - a = (m - a) + (b - m) by omega, List.range_add, List.map_append, List.map_map]
  congr 1
  apply List.map_congr_left
  intro i _
  show d (a + (m - a + i)) = d (m + i)
  rw [show a + (m - a + i) = m + i by omega]
theorem seg_congr {d d' : Nat → Nat} {a b : Nat} (h : ∀ i, a ≤ i → i < b → d i = d' i) : seg d a b = seg d' a b := by
  unfold seg
  apply List.map_congr_left
  intro i hi
  rw [List.mem_range] at hi
  exact h _ (by omega) (by omega)
theorem Same.refl (key : Nat → Nat) (l : List Nat) : Same key l l := fun _ => rfl
theorem Same.trans {key : Nat → Nat} {l m n : List Nat} (h : Same key l m) (k : Same key m n) : Same key l n := fun v => (k v).trans (h v)
theorem Same.append {key : Nat → Nat} {l l' m m' : List Nat} (h : Same key l l') (k : Same key m m') : Same key (l ++ m) (l' ++ m') := fun v => by
  rw [List.filter_append, List.filter_append, h v, k v]
theorem Same.mem {key : Nat → Nat} {l l' : List Nat} (h : Same key l l') {x : Nat} (hx : x ∈ l') : x ∈ l := by
  have : x ∈ l'.filter (fun y => key y == key x) := List.mem_filter.2 ⟨hx, by simp⟩
  rw [h (key x)] at this
  exact (List.mem_filter.1 this).1
/-- Two runs of which every key of the second is less than every key of the first, exchanged. -/
theorem Same.swap {key : Nat → Nat} {l m : List Nat} (h : ∀ x ∈ l, ∀ y ∈ m, key y < key x) : Same key (l ++ m) (m ++ l) := fun v => by
  rw [List.filter_append, List.filter_append]
  by_cases hl : l.filter (fun x => key x == v) = []
  · rw [hl]; simp
  · have hm : m.filter (fun x => key x == v) = [] := by
      rw [List.filter_eq_nil_iff]
      intro y hy e
      apply hl
      rw [List.filter_eq_nil_iff]
      intro x hx e2
      have := h x hx y hy
      simp at e e2
      omega
    rw [hm]; simp

theorem Merged.refl (key d : Nat → Nat) (a b : Nat) : Merged key d d a b := ⟨fun _ _ => rfl, Same.refl _ _⟩
theorem Merged.trans {key d e f : Nat → Nat} {a b : Nat} (h : Merged key d e a b) (k : Merged key e f a b) : Merged key d f a b := ⟨fun i hi => (k.out i hi).trans (h.out i hi), h.same.trans k.same⟩
theorem Merged.wider {key d e : Nat → Nat} {s t a b : Nat} (h : Merged key d e s t) (h1 : a ≤ s) (h2 : s ≤ t) (h3 : t ≤ b) : Merged key d e a b := by
  refine ⟨fun i hi => h.out i (by omega), ?_⟩
  rw [seg_split d h1 (by omega : s ≤ b), seg_split d h2 h3, seg_split e h1 (by omega : s ≤ b), seg_split e h2 h3]
  refine Same.append ?_ (Same.append h.same ?_)
  · rw [seg_congr (d := e) (d' := d) (fun i h4 h5 => h.out i (by omega))]; exact Same.refl _ _
  · rw [seg_congr (d := e) (d' := d) (fun i h4 h5 => h.out i (by omega))]; exact Same.refl _ _
theorem Merged.val {key d e : Nat → Nat} {a b : Nat} (h : Merged key d e a b) {i : Nat} (h1 : a ≤ i) (h2 : i < b) : ∃ j, a ≤ j ∧ j < b ∧ d j = e i :=
  mem_seg.1 (h.same.mem (mem_seg.2 ⟨i, h1, h2, rfl⟩))
theorem Asc.sub {key d : Nat → Nat} {a b s t : Nat} (h : Asc key d a b) (h1 : a ≤ s) (h2 : t ≤ b) : Asc key d s t := fun i j p q r => h i j (by omega) q (by omega)
theorem Asc.congr {key d e : Nat → Nat} {a b : Nat} (h : Asc key d a b) (he : ∀ i, a ≤ i → i < b → e i = d i) : Asc key e a b := fun i j p q r => by
  rw [he i p (by omega), he j (by omega) r]; exact h i j p q r
/-- Two ascending stretches, none of the first above any of the second. -/
theorem Asc.join {key d : Nat → Nat} {a m b : Nat} (h : Asc key d a m) (k : Asc key d m b) (hx : ∀ i j, a ≤ i → i < m → m ≤ j → j < b → key (d i) ≤ key (d j)) : Asc key d a b := fun i j p q r => by
  by_cases h1 : j < m
  · exact h i j p q h1
  · by_cases h2 : i < m
    · exact hx i j p h2 (by omega) r
    · exact k i j (by omega) q r

/-- The stretches [s, m) and [m, e) exchanged. -/
structure Rot (d d' : Nat → Nat) (s m e : Nat) : Prop where
  out : ∀ i, ¬ (s ≤ i ∧ i < e) → d' i = d i
  lo : ∀ i, i < e - m → d' (s + i) = d (m + i)
  hi : ∀ i, i < m - s → d' (s + (e - m) + i) = d (s + i)
theorem Rot.seg {d d' : Nat → Nat} {s m e : Nat} (h : Rot d d' s m e) (h1 : s ≤ m) (h2 : m ≤ e) : SortA.seg d' s e = SortA.seg d m e ++ SortA.seg d s m := by
  rw [seg_split d' (a := s) (m := s + (e - m)) (b := e) (by omega) (by omega)]
  congr 1
  · unfold SortA.seg
    rw [show s + (e - m) - s = e - m by omega]
    apply List.map_congr_left
    intro i hi
    exact h.lo i (List.mem_range.1 hi)
  · unfold SortA.seg
    rw [show e - (s + (e - m)) = m - s by omega]
    apply List.map_congr_left
    intro i hi
    exact h.hi i (List.mem_range.1 hi)
theorem Rot.merged {key d d' : Nat → Nat} {s m e : Nat} (h : Rot d d' s m e) (h1 : s ≤ m) (h2 : m ≤ e) (hlt : ∀ i j, s ≤ i → i < m → m ≤ j → j < e → key (d j) < key (d i)) : Merged key d d' s e := by
  refine ⟨h.out, ?_⟩
  rw [h.seg h1 h2, seg_split d h1 h2]
  refine Same.swap ?_
  intro x hx y hy
  obtain ⟨i, a1, a2, rfl⟩ := mem_seg.1 hx
  obtain ⟨j, b1, b2, rfl⟩ := mem_seg.1 hy
  exact hlt i j a1 a2 b1 b2

/-- symMerge's step: rotate [s, m) and [m, e), then merge [a, c) and [c, b), c = s + (e - m). -/
theorem step {key d d1 d2 d3 : Nat → Nat} {a m b s e c : Nat} (has : a ≤ s) (hsm : s ≤ m) (hme : m ≤ e) (heb : e ≤ b) (hc : c = s + (e - m)) (A1 : Asc key d a m) (A2 : Asc key d m b)
    (hlt : ∀ i j, s ≤ i → i < m → m ≤ j → j < e → key (d j) < key (d i)) (hle : ∀ i j, a ≤ i → i < s → e ≤ j → j < b → key (d i) ≤ key (d j))
    (R : Rot d d1 s m e) (M2 : Merged key d1 d2 a c) (S2 : Asc key d2 a c) (M3 : Merged key d2 d3 c b) (S3 : Asc key d3 c b) : Merged key d d3 a b ∧ Asc key d3 a b := by
  have R1 := R.merged hsm hme hlt
  refine ⟨((R1.wider has (by omega) heb).trans (M2.wider (by omega) (by omega) (by omega))).trans (M3.wider (by omega) (by omega) (by omega)), ?_⟩
  have S2' : Asc key d3 a c := S2.congr fun i p q => M3.out i (by omega)
  refine S2'.join S3 ?_
  intro i j p q r t
  obtain ⟨i1, u1, u2, u3⟩ := M2.val p q
  obtain ⟨j2, v1, v2, v3⟩ := M3.val r t
  rw [M3.out i (by omega), ← u3, ← v3, M2.out j2 (by omega)]
  -- d1 at i1 (< c) is of [a, s) or [m, e); at j2 (>= c) of [s, m) or [e, b)
  have X : (∃ x, a ≤ x ∧ x < s ∧ d1 i1 = d x) ∨ (∃ x, m ≤ x ∧ x < e ∧ d1 i1 = d x) := by
    by_cases h : i1 < s
    · exact .inl ⟨i1, u1, h, R.out i1 (by omega)⟩
    · refine .inr ⟨m + (i1 - s), by omega, by omega, ?_⟩
      have := R.lo (i1 - s) (by omega)
      rw [show s + (i1 - s) = i1 by omega] at this
      exact this
  have Y : (∃ z, s ≤ z ∧ z < m ∧ d1 j2 = d z) ∨ (∃ z, e ≤ z ∧ z < b ∧ d1 j2 = d z) := by
    by_cases h : j2 < e
    · refine .inl ⟨s + (j2 - c), by omega, by omega, ?_⟩
      have := R.hi (j2 - c) (by omega)
      rw [show s + (e - m) + (j2 - c) = j2 by omega] at this
      exact this
    · exact .inr ⟨j2, by omega, v2, R.out j2 (by omega)⟩
  rcases X with ⟨x, x1, x2, hx⟩ | ⟨x, x1, x2, hx⟩ <;> rcases Y with ⟨z, z1, z2, hz⟩ | ⟨z, z1, z2, hz⟩ <;> rw [hx, hz]
  · exact A1 x z x1 (by omega) z2
  · exact hle x z x1 x2 z1 z2
  · exact Nat.le_of_lt (hlt z x z1 z2 x1 x2)
  · exact A2 x z x1 (by omega) z2
end SortA
end Go.Proofs.Ybulkdgou
