import Derived.Test.YbulkdghgModelD
import Derived.Laws.CopyOwn
namespace Go.Proofs.Ybulkdghg.Model
open Go.RowKit
attribute [local go_sem ↓] Go.wp_at_zero Go.wp_at_succ
attribute [local go_sem] run_store_float

/-- The slice of floats that came in. -/
def IsF (w : World) (a : Option Addr) (d : Nat) (X : Nat → Nat) : Prop :=
  0 < d → ∃ b off, a = some ⟨b, off, none⟩ ∧ b < w.heap.size ∧ ∀ m, m < d → w.cell? ⟨b, off + m, none⟩ = some (.float .f64 (X m))

theorem size38 : (Yba.prog.info? 38).map (·.size) = some 1 := by kernel_rfl

theorem wpList_copyF {ops : Array Oper} {rest : List Oper} {o : Oper} {a : Act} {w : World} {Q : Exit → Act → World → Prop} (hgd : o.guard = none) (ho : o.op = .call { callee := .builtin .copy, args := #[.tmp 33, .tmp 34], argTypes := #[40, 39] })
    (g d cap : Nat) (ad : Option Addr) (X : Nat → Nat) (hd : a.eval (.tmp 33) = .slice (some ⟨g, 0, none⟩) d d) (hs : a.eval (.tmp 34) = .slice ad d cap) (hrow : w.rowIs g 38 d (fun _ => .float .f64 0)) (hsrc : IsF w ad d X)
    (h : ∀ w1, Below g w w1 → w1.heap.size = w.heap.size → w1.rowIs g 38 d (fun m => .float .f64 (X m)) → wpList Yba.prog ops Q rest (a.put o.dst (goInt d)) w1) : wpList Yba.prog ops Q (o :: rest) a w := by
  rcases Nat.eq_zero_or_pos d with h0 | h0
  · subst h0
    refine wpList_copy_nothing hgd _ _ 40 39 ho 38 Yba.underlying40 size38 _ _ 0 0 0 cap hd hs rfl ?_
    exact h w (Below.refl _ _) rfl (hrow.congr fun i hi => by omega)
  · obtain ⟨b, off, rfl, hb, hc⟩ := hsrc h0
    obtain ⟨c, hg, hc1, hc2⟩ := hrow
    have hlen : ((List.range d).map fun m => Value.float .f64 (X m)).length = d := by simp
    refine wpList_copy_own hgd _ _ 40 39 ho 38 Yba.underlying40 size38 g 0 d d ⟨b, off, none⟩ d cap hd hs c 38 hg ((List.range d).map fun m => .float .f64 (X m)) (by simp) ?_ (by simp; omega) ?_ ?_
    · intro j v hj
      rw [List.getElem?_map] at hj
      obtain ⟨m, hm, rfl⟩ := Option.map_eq_some_iff.1 hj
      obtain ⟨hl, rfl⟩ := List.getElem?_eq_some_iff.1 hm
      simp at hl ⊢
      rw [Addr.add_lit]
      exact hc j hl
    · intro v hv
      simp at hv
      obtain ⟨m, _, rfl⟩ := hv
      rfl
    · rw [hlen]
      refine h _ (below_setRow (Below.refl _ _) (Nat.le_refl _) _) (by simp) ⟨_, setRow_heap w g c _ 38 (0, 0) hg, ?_, ?_⟩
      · simp; omega
      · intro i hi
        simp
        rw [List.getElem?_append_left (by simpa using hi)]
        simp [hi]

set_option maxHeartbeats 400000 in
set_option maxRecDepth 100000 in
theorem law_neg (a : Option Addr) (d cap : Nat) (lv : Int) (w : World) (h : lv < 0) :
    Calls Yba.prog 4 #[.slice a d cap, .int .i64 lv] w fun e w' => e = .returned (.bool true) ∧ Below w.heap.size w w' := by
  have hnil := fun w => Lib.run_eql_slice_nil (P := Yba.prog) w 102 40 none 0 0 0 0 Yba.underlying102
  go_enter Yba.func4, Yba.ntmps4
  go_wp2_with (go_at_call 7; refine (contact_neg _ _ _ _ h _).mono ?_; rintro e w' ⟨rfl, rfl⟩)
  go_ret
  exact ⟨rfl, Below.refl _ _⟩

set_option maxHeartbeats 400000 in
set_option maxRecDepth 100000 in
theorem law_big (a : Option Addr) (d cap : Nat) (lv : Int) (w : World) (h0 : 0 ≤ lv) (h : 8 < d ∨ 40 < lv) :
    Calls Yba.prog 4 #[.slice a d cap, .int .i64 lv] w fun e w' => e = .returned (.bool true) ∧ Below w.heap.size w w' := by
  have hn : ¬ lv < 0 := by omega
  by_cases h8 : 8 < d
  · have h8' : (8 : Int) < (d : Int) := by omega
    clear h
    go_enter Yba.func4, Yba.ntmps4
    go_wp2
    go_ret
    exact ⟨rfl, Below.refl _ _⟩
  · have h8' : ¬ (8 : Int) < (d : Int) := by omega
    have h40 : 40 < lv := by omega
    clear h
    go_enter Yba.func4, Yba.ntmps4
    go_wp2
    go_ret
    exact ⟨rfl, Below.refl _ _⟩
end Go.Proofs.Ybulkdghg.Model
