import Derived.Test.YbulkdgouSortA
import Derived.WalkKit
import Derived.WalkSpells
import Derived.WalkLawsBesides
import Derived.Deep.OwnRows
import Derived.Deep.DeepCutAuto
import Derived.Deep.QuietTactic
import Derived.Deep.CutBlock
import Derived.Deep.DrawnRows
import Derived.Laws.CopyOwn
import Derived.BigRegion
import Derived.BigQuiet
import Derived.Below
namespace Go.Proofs.Ybulkdgou
open Go.RowKit
attribute [local go_sem ↓] Go.wp_at_zero Go.wp_at_succ
namespace SortA

/-- The row of ints that is sorted. -/
def Row (B L : Nat) (d : Nat → Nat) (w : World) : Prop := w.rowIs B 3 L (fun i => .int .i64 (d i : Int))
/-- All blocks but one are as before. -/
structure But (b : Nat) (w w' : World) : Prop where
  os : w'.os = w.os
  tape : w'.tape = w.tape
  output : w'.output = w.output
  size : w'.heap.size = w.heap.size
  block : ∀ k, k ≠ b → w'.heap[k]? = w.heap[k]?
theorem But.refl (b : Nat) (w : World) : But b w w := ⟨rfl, rfl, rfl, rfl, fun _ _ => rfl⟩
theorem But.trans {b : Nat} {u v w : World} (h : But b u v) (k : But b v w) : But b u w :=
  ⟨k.os.trans h.os, k.tape.trans h.tape, k.output.trans h.output, k.size.trans h.size, fun i hi => (k.block i hi).trans (h.block i hi)⟩
theorem But.setCell {b : Nat} {w w' : World} (h : But b w w') (o : Nat) (v : Value) : But b w (w'.setCell ⟨b, o, none⟩ v) :=
  ⟨h.os, h.tape, h.output, by simpa using h.size, fun k hk => (Go.heap_setCell_other w' ⟨b, o, none⟩ k v hk).trans (h.block k hk)⟩
theorem But.drewN {b : Nat} {w w' : World} (h : But b w w') (n : Nat) : But b w (w'.drewN n) := ⟨h.os, h.tape, h.output, h.size, h.block⟩
theorem But.drew {b : Nat} {w w' : World} (h : But b w w') : But b w w'.drew := ⟨h.os, h.tape, h.output, h.size, h.block⟩
theorem But.cell {b : Nat} {w w' : World} (h : But b w w') {p : Addr} (hp : p.block ≠ b) : w'.cell? p = w.cell? p := World.cell?_of_block (w := w) (h.block p.block hp)

/-- The first i of two stretches exchanged. -/
def sw (d : Nat → Nat) (a b i x : Nat) : Nat := if a ≤ x ∧ x < a + i then d (x - a + b) else if b ≤ x ∧ x < b + i then d (x - b + a) else d x
theorem Row.cell {B L : Nat} {d : Nat → Nat} {w : World} (h : Row B L d w) {i : Nat} (hi : i < L) : w.cell? ⟨B, i, none⟩ = some (.int .i64 (d i : Int)) := World.rowIs.cell h hi
theorem Row.frozen {B L : Nat} {d : Nat → Nat} {w : World} (h : Row B L d w) (i : Nat) : w.frozen? ⟨B, i, none⟩ = false := World.rowIs.frozen h i
theorem Row.set {B L : Nat} {d : Nat → Nat} {w : World} (h : Row B L d w) (i v : Nat) : Row B L (fun j => if j = i then v else d j) (w.setCell ⟨B, i, none⟩ (.int .i64 (v : Int))) :=
  (World.rowIs.set h i (.int .i64 (v : Int))).congr fun j _ => by by_cases e : j = i <;> simp [e]
theorem Row.congr {B L : Nat} {d e : Nat → Nat} {w : World} (h : Row B L d w) (he : ∀ i, i < L → d i = e i) : Row B L e w := World.rowIs.congr h fun i hi => by rw [he i hi]

set_option maxHeartbeats 1000000 in
set_option maxRecDepth 100000 in
theorem swapRange_any (B L cap a b n : Nat) (d : Nat → Nat) (f : Value) (w : World) (hL : L ≤ 1024) (hab : a + n ≤ b) (hb : b + n ≤ L) (R : Hid (Row B L d w)) :
    Calls Yba.prog 30 #[.slice (some ⟨B, 0, none⟩) L cap, .int .i64 (a : Int), .int .i64 (b : Int), .int .i64 (n : Int), f] w fun e w' => e = .returned (.tuple #[]) ∧ But B w w' ∧ Row B L (sw d a b n) w' := by
  go_enter Yba.func30, Yba.ntmps30
  go_wp2_with fail
  go_loopg [10] n (fun gk s10 wr => ∃ i : Nat, i ≤ n ∧ gk = n - i ∧ s10 = .int .i64 (i : Int) ∧ But B w wr ∧ Row B L (sw d a b i) wr)
  case atStart => exact ⟨0, Nat.zero_le _, rfl, rfl, But.refl _ _, Row.congr R.out fun i hi => by simp only [sw]; rw [if_neg (by omega), if_neg (by omega)]⟩
  case round =>
    obtain ⟨i, hi, rfl, rfl, hbut, hrow⟩ := hrel
    have HB : Hid (But B w wr ∧ Row B L (sw d a b i) wr) := ⟨hbut, hrow⟩
    by_cases hlt : i < n
    · have hlti : (i : Int) < (n : Int) := by omega
      have ca := hrow.cell (i := a + i) (by omega)
      have cb := hrow.cell (i := b + i) (by omega)
      have fa := hrow.frozen (a + i)
      have fb := hrow.frozen (b + i)
      have e1 : (a : Int) + (i : Int) < (L : Int) := by omega
      have e2 : (b : Int) + (i : Int) < (L : Int) := by omega
      have e3 : ¬ a + i = b + i := by omega
      have e4 : ¬ b + i = a + i := by omega
      clear hbut hrow
      go_wp2_with fail
      go_region
      all_goals go_wp2_with fail
      go_roundg (n - (i + 1))
      case measure => omega
      case rel =>
        refine ⟨i + 1, by omega, rfl, by go_num, ?_, ?_⟩
        · exact ((HB.out.1.setCell _ _).setCell _ _).drew
        · refine Row.congr (w := _) ((HB.out.2.set (a + i) _).set (b + i) _) ?_
          intro x hx
          have ea : sw d a b i (a + i) = d (a + i) := by unfold sw; rw [if_neg (by omega), if_neg (by omega)]
          have eb : sw d a b i (b + i) = d (b + i) := by unfold sw; rw [if_neg (by omega), if_neg (by omega)]
          rw [ea, eb]
          show (if x = b + i then d (a + i) else if x = a + i then d (b + i) else sw d a b i x) = sw d a b (i + 1) x
          by_cases h1 : x = b + i
          · subst h1
            unfold sw
            rw [if_pos rfl, if_neg (by omega), if_pos (by omega), show b + i - b + a = a + i by omega]
          rw [if_neg h1]
          by_cases h2 : x = a + i
          · subst h2
            unfold sw
            rw [if_pos rfl, if_pos (by omega), show a + i - a + b = b + i by omega]
          rw [if_neg h2]
          unfold sw
          by_cases h3 : a ≤ x ∧ x < a + i
          · rw [if_pos h3, if_pos (by omega)]
          rw [if_neg h3, if_neg (by omega : ¬ (a ≤ x ∧ x < a + (i + 1)))]
          by_cases h4 : b ≤ x ∧ x < b + i
          · rw [if_pos h4, if_pos (by omega)]
          · rw [if_neg h4, if_neg (by omega)]
    · obtain rfl : i = n := by omega
      have hlti : ¬ (i : Int) < (i : Int) := by omega
      go_wp2
      go_end0
      exact ⟨rfl, HB.out.1, HB.out.2⟩
end SortA
end Go.Proofs.Ybulkdgou
