import Derived.Test.YbulkdgouIndex
import Derived.Lib.SliceRun
namespace Go.Proofs.Ybulkdgou
open Go.RowKit
namespace SortA

/-- The head of a row of ints. -/
def PRow (B L : Nat) (d : Nat → Nat) (w : World) : Prop :=
  ∃ c : Array Value, w.heap[B]? = some (.cells c 3 (0, 0)) ∧ L ≤ c.size ∧ ∀ i, i < L → c[i]? = some (.int .i64 (d i : Int))
theorem PRow.cell {B L : Nat} {d : Nat → Nat} {w : World} (h : PRow B L d w) {i : Nat} (hi : i < L) : w.cell? ⟨B, i, none⟩ = some (.int .i64 (d i : Int)) := by
  obtain ⟨c, hb, _, hc⟩ := h
  simp [World.cell?, hb, hc i hi]
theorem PRow.frozen {B L : Nat} {d : Nat → Nat} {w : World} (h : PRow B L d w) (i : Nat) : w.frozen? ⟨B, i, none⟩ = false := by
  obtain ⟨c, hb, _, _⟩ := h
  simp [World.frozen?, hb]
theorem PRow.lt {B L : Nat} {d : Nat → Nat} {w : World} (h : PRow B L d w) : B < w.heap.size := by
  obtain ⟨c, hb, _, _⟩ := h
  obtain ⟨hlt, _⟩ := Array.getElem?_eq_some_iff.1 hb
  exact hlt
theorem PRow.congr {B L : Nat} {d e : Nat → Nat} {w : World} (h : PRow B L d w) (he : ∀ i, i < L → d i = e i) : PRow B L e w := by
  obtain ⟨c, hb, hn, hc⟩ := h
  exact ⟨c, hb, hn, fun i hi => by rw [hc i hi, he i hi]⟩
theorem PRow.of_block {B L : Nat} {d : Nat → Nat} {w w' : World} (h : PRow B L d w) (e : w'.heap[B]? = w.heap[B]?) : PRow B L d w' := by
  obtain ⟨c, hb, hn, hc⟩ := h
  exact ⟨c, e.trans hb, hn, hc⟩
theorem PRow.set {B L : Nat} {d : Nat → Nat} {w : World} (h : PRow B L d w) (i v : Nat) : PRow B L (fun j => if j = i then v else d j) (w.setCell ⟨B, i, none⟩ (.int .i64 (v : Int))) := by
  obtain ⟨c, hb, hn, hc⟩ := h
  refine ⟨c.setIfInBounds i (.int .i64 (v : Int)), ?_, by simpa using hn, fun j hj => ?_⟩
  · simp [World.setCell, Array.getElem?_modify, hb]
  · rw [Array.getElem?_setIfInBounds]
    by_cases e : j = i
    · subst e
      have : j < c.size := by omega
      simp [this]
    · rw [if_neg (fun h => e h.symm)]
      show c[j]? = some (.int .i64 ((if j = i then v else d j : Nat) : Int))
      rw [if_neg e]
      exact hc j hj

/-- A run of zeros laid over the row. -/
theorem PRow.clear {B L : Nat} : ∀ (n o : Nat) (d : Nat → Nat) (w : World), PRow B L d w → PRow B L (fun x => if o ≤ x ∧ x < o + n then 0 else d x) (w.setCells B o (List.replicate n (.int .i64 0))) := by
  intro n
  induction n with
  | zero => intro o d w h; exact h.congr fun i _ => by rw [if_neg (by omega)]
  | succ n ih =>
    intro o d w h
    have h1 := h.set o 0
    have h2 := ih (o + 1) _ _ h1
    refine PRow.congr (w := w.setCells B o (List.replicate (n + 1) (.int .i64 0))) h2 ?_
    intro i _
    by_cases e1 : o + 1 ≤ i ∧ i < o + 1 + n
    · rw [if_pos e1, if_pos (by omega)]
    · rw [if_neg e1]
      by_cases e2 : i = o
      · rw [if_pos e2, if_pos (by omega)]
      · rw [if_neg e2, if_neg (by omega)]
theorem But.setCells {b : Nat} : ∀ (vs : List Value) (o : Nat) (w w' : World), But b w w' → But b w (w'.setCells b o vs) := by
  intro vs
  induction vs with
  | nil => intro o w w' h; exact h
  | cons v vs ih => intro o w w' h; exact ih (o + 1) w _ (h.setCell o v)
end SortA
end Go.Proofs.Ybulkdgou
