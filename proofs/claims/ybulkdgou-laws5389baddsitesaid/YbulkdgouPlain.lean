import Derived.Test.YbulkdgouShort
namespace Go.Proofs.Ybulkdgou
namespace SortA

/-- The members of l whose key is v. -/
def fv (key : Nat → Nat) (l : List Nat) (v : Nat) : List Nat := l.filter fun x => key x == v
/-- The keys below m that occur, ascending. -/
def WMb (key : Nat → Nat) (l : List Nat) (m : Nat) : List Nat := (List.range m).filter fun v => !(fv key l v).isEmpty
/-- The groups. -/
def Gs (key : Nat → Nat) (l : List Nat) : List (List Nat) := (WMb key l 256).map (fv key l)

theorem WMb_succ (key : Nat → Nat) (l : List Nat) (m : Nat) : WMb key l (m + 1) = if fv key l m = [] then WMb key l m else WMb key l m ++ [m] := by
  unfold WMb
  rw [List.range_succ, List.filter_append]
  by_cases h : fv key l m = [] <;> simp [h]
theorem WMb_same {key : Nat → Nat} {l l' : List Nat} (h : Same key l l') (m : Nat) : WMb key l' m = WMb key l m := by
  unfold WMb
  apply List.filter_congr
  intro v _
  have : fv key l' v = fv key l v := h v
  rw [this]
theorem Gs_same {key : Nat → Nat} {l l' : List Nat} (h : Same key l l') : Gs key l' = Gs key l := by
  unfold Gs
  rw [WMb_same h]
  apply List.map_congr_left
  intro v _
  exact h v
theorem mem_WMb {key : Nat → Nat} {l : List Nat} {m v : Nat} : v ∈ WMb key l m ↔ v < m ∧ fv key l v ≠ [] := by
  simp [WMb]
theorem fv_snoc_ne {key : Nat → Nat} {l : List Nat} {x v : Nat} (h : v ≠ key x) : fv key (l ++ [x]) v = fv key l v := by
  unfold fv
  rw [List.filter_append]
  have : (key x == v) = false := by simp; omega
  simp [this]
theorem fv_snoc_eq {key : Nat → Nat} {l : List Nat} {x : Nat} : fv key (l ++ [x]) (key x) = fv key l (key x) ++ [x] := by
  unfold fv
  rw [List.filter_append]
  simp
theorem fv_high {key : Nat → Nat} {l : List Nat} {v u : Nat} (h : ∀ y ∈ l, key y ≤ v) (hu : v < u) : fv key l u = [] := by
  unfold fv
  rw [List.filter_eq_nil_iff]
  intro y hy
  have := h y hy
  simp
  omega
theorem WMb_high {key : Nat → Nat} {l : List Nat} {v : Nat} (h : ∀ y ∈ l, key y ≤ v) : ∀ m, v < m → WMb key l m = WMb key l (v + 1) := by
  intro m
  induction m with
  | zero => intro h; omega
  | succ m ih =>
    intro hm
    by_cases e : v = m
    · rw [e]
    · rw [WMb_succ, if_pos (fv_high h (by omega)), ih (by omega)]
theorem WMb_low {key : Nat → Nat} {l : List Nat} {x m : Nat} (h : m ≤ key x) : WMb key (l ++ [x]) m = WMb key l m := by
  unfold WMb
  apply List.filter_congr
  intro v hv
  rw [fv_snoc_ne (by have := List.mem_range.1 hv; omega)]
theorem le_snoc {key : Nat → Nat} {l : List Nat} {x : Nat} (h : ∀ y ∈ l, key y ≤ key x) : ∀ y ∈ l ++ [x], key y ≤ key x := by
  intro y hy
  rcases List.mem_append.1 hy with hy | hy
  · exact h y hy
  · simp at hy; rw [hy]; exact Nat.le_refl _
theorem WMb_snoc {key : Nat → Nat} {l : List Nat} {x : Nat} (h : ∀ y ∈ l, key y ≤ key x) (hx : key x < 256) : WMb key (l ++ [x]) 256 = WMb key l (key x) ++ [key x] := by
  rw [WMb_high (le_snoc h) 256 hx, WMb_succ, if_neg (by rw [fv_snoc_eq]; simp), WMb_low (Nat.le_refl _)]
theorem WMb_old {key : Nat → Nat} {l : List Nat} {x : Nat} (h : ∀ y ∈ l, key y ≤ key x) (hx : key x < 256) : WMb key l 256 = if fv key l (key x) = [] then WMb key l (key x) else WMb key l (key x) ++ [key x] := by
  rw [WMb_high h 256 hx, WMb_succ]
theorem fv_map_low {key : Nat → Nat} {l : List Nat} {x : Nat} : (WMb key l (key x)).map (fv key (l ++ [x])) = (WMb key l (key x)).map (fv key l) := by
  apply List.map_congr_left
  intro v hv
  exact fv_snoc_ne (by have := (mem_WMb.1 hv).1; omega)
/-- A new key. -/
theorem Gs_new {key : Nat → Nat} {l : List Nat} {x : Nat} (h : ∀ y ∈ l, key y ≤ key x) (hx : key x < 256) (hn : fv key l (key x) = []) : WMb key (l ++ [x]) 256 = WMb key l 256 ++ [key x] ∧ Gs key (l ++ [x]) = Gs key l ++ [[x]] := by
  have e1 := WMb_snoc h hx
  have e2 := WMb_old h hx
  rw [if_pos hn] at e2
  refine ⟨by rw [e1, e2], ?_⟩
  unfold Gs
  rw [e1, e2, List.map_append, fv_map_low]
  simp [fv_snoc_eq, hn]
/-- A key that is there. -/
theorem Gs_old {key : Nat → Nat} {l : List Nat} {x : Nat} (h : ∀ y ∈ l, key y ≤ key x) (hx : key x < 256) (hn : fv key l (key x) ≠ []) :
    WMb key (l ++ [x]) 256 = WMb key l 256 ∧ ∃ A, Gs key l = A ++ [fv key l (key x)] ∧ Gs key (l ++ [x]) = A ++ [fv key l (key x) ++ [x]] := by
  have e1 := WMb_snoc h hx
  have e2 := WMb_old h hx
  rw [if_neg hn] at e2
  refine ⟨by rw [e1, e2], (WMb key l (key x)).map (fv key l), ?_, ?_⟩
  · unfold Gs
    rw [e2, List.map_append]
    rfl
  · unfold Gs
    rw [e1, List.map_append, fv_map_low]
    simp [fv_snoc_eq]
theorem Gs_len (key : Nat → Nat) (l : List Nat) : (Gs key l).length = (WMb key l 256).length := by simp [Gs]
theorem asc_le {key d : Nat → Nat} {L i : Nat} (h : Asc key d 0 L) (hi : i < L) : ∀ y ∈ seg d 0 i, key y ≤ key (d i) := by
  intro y hy
  obtain ⟨j, _, hj, rfl⟩ := mem_seg.1 hy
  exact h j i (Nat.zero_le _) (by omega) hi
theorem new_iff {key d : Nat → Nat} {L i : Nat} (h : Asc key d 0 L) (hi : i < L) : fv key (seg d 0 i) (key (d i)) = [] ↔ (i = 0 ∨ key (d i) ≠ key (d (i - 1))) := by
  constructor
  · intro hn
    by_cases h0 : i = 0
    · exact .inl h0
    · right
      intro e
      have : d (i - 1) ∈ fv key (seg d 0 i) (key (d i)) := by
        unfold fv
        rw [List.mem_filter]
        exact ⟨mem_seg.2 ⟨i - 1, Nat.zero_le _, by omega, rfl⟩, by simp [e]⟩
      rw [hn] at this
      cases this
  · intro hc
    unfold fv
    rw [List.filter_eq_nil_iff]
    intro y hy
    obtain ⟨j, _, hj, rfl⟩ := mem_seg.1 hy
    rcases hc with h0 | h0
    · omega
    · have h1 := h j (i - 1) (Nat.zero_le _) (by omega) (by omega)
      have h2 := h (i - 1) i (Nat.zero_le _) (by omega) hi
      simp
      omega
theorem Gs_ne {key : Nat → Nat} {l g : List Nat} (h : g ∈ Gs key l) : g ≠ [] := by
  unfold Gs at h
  obtain ⟨v, hv, rfl⟩ := List.mem_map.1 h
  exact (mem_WMb.1 hv).2
end SortA
end Go.Proofs.Ybulkdgou
