import Derived.Test.YbulkdgjkDoorCount
import Derived.BigRegion
import Derived.Deep.RegionLaw
import Derived.Laws.StructEq
import Derived.ChangeKeysEq
namespace Go.Proofs.YbulkdgjkDoor
open Go.RowKit
attribute [local go_sem ↓] Go.wp_at_zero Go.wp_at_succ

theorem info141 : (Ybad.prog.info? 141).map (fun i => (i.zero, i.size, i.bytes)) = some (some (.agg #[.int .u64 0, .int .u64 0, .int .u64 0]), 3, 24) := by kernel_rfl
theorem info141_parts : ∃ i, Ybad.prog.info? 141 = some i ∧ i.zero = some (.agg #[.int .u64 0, .int .u64 0, .int .u64 0]) ∧ i.size = 3 ∧ i.bytes = 24 := by
  have h := info141
  cases hi : Ybad.prog.info? 141 with
  | none => rw [hi] at h; simp at h
  | some i => rw [hi] at h; simp at h; exact ⟨i, rfl, h.1, h.2.1, h.2.2⟩

theorem blk_new_at {w : World} {o : Obj} {n : Nat} (h : w.heap.size = n) : (w.alloc o).heap[n]? = some o := by subst h; exact Go.Deep.blk_alloc_new _ _

/-- The history's cells. -/
def HF (yb ch b1 b2 b3 n : Nat) (mu : Int) (ended : Value) (total : Int) : Nat → Value
  | 0 => .pointer (some ⟨yb, 0, none⟩)
  | 1 => .int .i64 1
  | 2 => .pointer (some ⟨ch, 0, none⟩)
  | 3 => .int .i32 mu
  | 4 => .int .u32 0
  | 5 => ended
  | 6 => .int .i64 total
  | 7 => .slice (some ⟨b1, 0, none⟩) n n
  | 8 => .slice (some ⟨b2, 0, none⟩) n n
  | _ => .slice (some ⟨b3, 0, none⟩) n n

/-- The blocks that record turns. -/
structure Four (hb b1 b2 b3 : Nat) (w w' : World) : Prop where
  os : w'.os = w.os
  tape : w'.tape = w.tape
  output : w'.output = w.output
  size : w.heap.size ≤ w'.heap.size
  block : ∀ k, k < w.heap.size → k ≠ hb → k ≠ b1 → k ≠ b2 → k ≠ b3 → w'.heap[k]? = w.heap[k]?

theorem Four.refl (hb b1 b2 b3 : Nat) (w : World) : Four hb b1 b2 b3 w w := ⟨rfl, rfl, rfl, Nat.le_refl _, fun _ _ _ _ _ _ => rfl⟩
theorem Four.trans {hb b1 b2 b3 : Nat} {u v w : World} (h : Four hb b1 b2 b3 u v) (k : Four hb b1 b2 b3 v w) : Four hb b1 b2 b3 u w :=
  ⟨k.os.trans h.os, k.tape.trans h.tape, k.output.trans h.output, Nat.le_trans h.size k.size, fun i hi a b c d => (k.block i (Nat.lt_of_lt_of_le hi h.size) a b c d).trans (h.block i hi a b c d)⟩
theorem Four.of_grown {hb b1 b2 b3 : Nat} {u w : World} (h : u.grownBy w none) : Four hb b1 b2 b3 u w :=
  ⟨h.os, h.tape, h.output, h.size, fun i hi _ _ _ _ => h.block i hi (by simp)⟩
theorem Four.set {hb b1 b2 b3 : Nat} (u : World) (o : Nat) (v : Value) : Four hb b1 b2 b3 u (u.setCell ⟨hb, o, none⟩ v) :=
  ⟨rfl, rfl, rfl, by simp, fun i _ a _ _ _ => Go.heap_setCell_other u ⟨hb, o, none⟩ i v a⟩
theorem Four.alloc {hb b1 b2 b3 : Nat} (u : World) (o : Obj) : Four hb b1 b2 b3 u (u.alloc o) := Four.of_grown (World.grownBy_alloc u o none)
theorem Four.drewN {hb b1 b2 b3 : Nat} (u : World) (n : Nat) : Four hb b1 b2 b3 u (u.drewN n) := ⟨rfl, rfl, rfl, Nat.le_refl _, fun _ _ _ _ _ _ => rfl⟩

/-- Where record stands behind its append. -/
structure Rec (w wc : World) (hb yb ch b1 b2 b3 n met wai dea g cap : Nat) (total : Int) (f1 f2 f3 : Nat → Value) : Prop where
  four : Four hb b1 b2 b3 w wc
  hist : wc.rowIs hb 86 10 (HF yb ch b1 b2 b3 n 1 (.slice (some ⟨g, 0, none⟩) 1 cap) total)
  r1 : wc.rowIs b1 3 n f1
  r2 : wc.rowIs b2 3 n f2
  r3 : wc.rowIs b3 3 n f3
  g0 : w.heap.size ≤ g
  out : wc.cell? ⟨g, 0, none⟩ = some (.int .u64 (met : Int)) ∧ wc.cell? ⟨g, 1, none⟩ = some (.int .u64 (wai : Int)) ∧ wc.cell? ⟨g, 2, none⟩ = some (.int .u64 (dea : Int))
  box : wc.cell? ⟨w.heap.size, 0, none⟩ = some (.int .u64 (met : Int)) ∧ wc.cell? ⟨w.heap.size, 1, none⟩ = some (.int .u64 (wai : Int)) ∧ wc.cell? ⟨w.heap.size, 2, none⟩ = some (.int .u64 (dea : Int))

theorem rec_mk {w w3 : World} {hb yb ch b1 b2 b3 n met wai dea g cap m : Nat} (hne1 : b1 ≠ hb) (hne2 : b2 ≠ hb) (hne3 : b3 ≠ hb)
    (row : w.rowIs hb 86 10 (HF yb ch b1 b2 b3 n 0 (.slice none 0 0) 0)) (R1 : w.rowIs b1 3 n (fun _ => .int .i64 0)) (R2 : w.rowIs b2 3 n (fun _ => .int .i64 0)) (R3 : w.rowIs b3 3 n (fun _ => .int .i64 0))
    (hgrow : ((((w.setCell ⟨hb, 3, none⟩ (.int .i32 1)).alloc (.cells #[.int .u64 (met : Int), .int .u64 (wai : Int), .int .u64 (dea : Int)] 141)).drewN m).alloc (.cells #[.int .u64 (met : Int), .int .u64 (wai : Int), .int .u64 (dea : Int)] 141)).grownBy w3 none)
    (hown : w3.ownsRow w.heap.size 141 3 (.slice (some ⟨g, 0, none⟩) 1 cap) 1 [.int .u64 (met : Int), .int .u64 (wai : Int), .int .u64 (dea : Int)]) (hat : g = w.heap.size + 2)
    (x0 : w3.cell? ⟨w.heap.size, 0, none⟩ = some (.int .u64 (met : Int))) (x1 : w3.cell? ⟨w.heap.size, 1, none⟩ = some (.int .u64 (wai : Int))) (x2 : w3.cell? ⟨w.heap.size, 2, none⟩ = some (.int .u64 (dea : Int))) :
    Rec w (w3.setCell ⟨hb, 5, none⟩ (.slice (some ⟨g, 0, none⟩) 1 cap)) hb yb ch b1 b2 b3 n met wai dea g cap 0 (fun _ => .int .i64 0) (fun _ => .int .i64 0) (fun _ => .int .i64 0) := by
  have hb0 := row.lt
  have keep : ∀ {b t k : Nat} {f : Nat → Value}, ((((w.setCell ⟨hb, 3, none⟩ (.int .i32 1)).alloc (.cells #[.int .u64 (met : Int), .int .u64 (wai : Int), .int .u64 (dea : Int)] 141)).drewN m).alloc (.cells #[.int .u64 (met : Int), .int .u64 (wai : Int), .int .u64 (dea : Int)] 141)).rowIs b t k f → w3.rowIs b t k f :=
    fun h => h.of_block (hgrow.block _ h.lt (by simp))
  have other : ∀ {b : Nat}, b ≠ hb → w.rowIs b 3 n (fun _ => .int .i64 0) → (w3.setCell ⟨hb, 5, none⟩ (.slice (some ⟨g, 0, none⟩) 1 cap)).rowIs b 3 n (fun _ => .int .i64 0) := by
    intro b hne h
    refine (keep ?_).setOther hne _
    refine World.rowIs.alloc ?_ _
    exact (h.setOther (a := ⟨hb, 3, none⟩) hne _).alloc _
  refine ⟨?_, ?_, other hne1 R1, other hne2 R2, other hne3 R3, by omega, ?_, ?_⟩
  · exact (((((Four.set w 3 _).trans (Four.alloc _ _)).trans (Four.drewN _ m)).trans (Four.alloc _ _)).trans (Four.of_grown hgrow)).trans (Four.set _ 5 _)
  · refine ((keep (f := HF yb ch b1 b2 b3 n 1 (.slice none 0 0) 0) ?_).set 5 _).congr ?_
    · refine World.rowIs.alloc ?_ _
      refine World.rowIs.congr (((row.set 3 (.int .i32 1)).alloc _)) ?_
      intro i hi
      have : i = 0 ∨ i = 1 ∨ i = 2 ∨ i = 3 ∨ i = 4 ∨ i = 5 ∨ i = 6 ∨ i = 7 ∨ i = 8 ∨ i = 9 := by omega
      rcases this with rfl | rfl | rfl | rfl | rfl | rfl | rfl | rfl | rfl | rfl <;> rfl
    · intro i hi
      have : i = 0 ∨ i = 1 ∨ i = 2 ∨ i = 3 ∨ i = 4 ∨ i = 5 ∨ i = 6 ∨ i = 7 ∨ i = 8 ∨ i = 9 := by omega
      rcases this with rfl | rfl | rfl | rfl | rfl | rfl | rfl | rfl | rfl | rfl <;> rfl
  · have hg : hb ≠ g := by omega
    refine ⟨?_, ?_, ?_⟩
    · rw [World.cell?_setCell_far _ _ _ _ hg, hown.cellAt 0 (by omega)]; rfl
    · rw [World.cell?_setCell_far _ _ _ _ hg, hown.cellAt 1 (by omega)]; rfl
    · rw [World.cell?_setCell_far _ _ _ _ hg, hown.cellAt 2 (by omega)]; rfl
  · have hg : hb ≠ w.heap.size := by omega
    exact ⟨by rw [World.cell?_setCell_far _ _ _ _ hg]; exact x0, by rw [World.cell?_setCell_far _ _ _ _ hg]; exact x1, by rw [World.cell?_setCell_far _ _ _ _ hg]; exact x2⟩

theorem Rec.total1 {w wc : World} {hb yb ch b1 b2 b3 n met wai dea g cap : Nat} {f1 f2 f3 : Nat → Value} (hb0 : hb < w.heap.size) (hne1 : b1 ≠ hb) (hne2 : b2 ≠ hb) (hne3 : b3 ≠ hb) (h : Rec w wc hb yb ch b1 b2 b3 n met wai dea g cap 0 f1 f2 f3) :
    Rec w (wc.setCell ⟨hb, 6, none⟩ (.int .i64 1)) hb yb ch b1 b2 b3 n met wai dea g cap 1 f1 f2 f3 := by
  have hg : hb ≠ g := by have := h.g0; omega
  have hg2 : hb ≠ w.heap.size := by omega
  refine ⟨h.four.trans (Four.set _ 6 _), (h.hist.set 6 _).congr ?_, h.r1.setOther hne1 _, h.r2.setOther hne2 _, h.r3.setOther hne3 _, h.g0, ?_, ?_⟩
  · intro i hi
    have : i = 0 ∨ i = 1 ∨ i = 2 ∨ i = 3 ∨ i = 4 ∨ i = 5 ∨ i = 6 ∨ i = 7 ∨ i = 8 ∨ i = 9 := by omega
    rcases this with rfl | rfl | rfl | rfl | rfl | rfl | rfl | rfl | rfl | rfl <;> rfl
  · exact ⟨by rw [World.cell?_setCell_far _ _ _ _ hg]; exact h.out.1, by rw [World.cell?_setCell_far _ _ _ _ hg]; exact h.out.2.1, by rw [World.cell?_setCell_far _ _ _ _ hg]; exact h.out.2.2⟩
  · exact ⟨by rw [World.cell?_setCell_far _ _ _ _ hg2]; exact h.box.1, by rw [World.cell?_setCell_far _ _ _ _ hg2]; exact h.box.2.1, by rw [World.cell?_setCell_far _ _ _ _ hg2]; exact h.box.2.2⟩

theorem Four.but {hb b1 b2 b3 b m : Nat} {u w : World} (h : But b (u.drewN m) w) (hb' : b = b1 ∨ b = b2 ∨ b = b3) : Four hb b1 b2 b3 u w :=
  ⟨h.os, h.tape, h.output, Nat.le_of_eq h.size.symm, fun i _ _ c d e => h.block i (by omega)⟩
theorem rowIs_but {b c t k m : Nat} {f : Nat → Value} {u w : World} (h : But b (u.drewN m) w) (hne : c ≠ b) (r : u.rowIs c t k f) : w.rowIs c t k f := r.of_block (h.block c hne)
theorem cell_but {b m : Nat} {u w : World} (h : But b (u.drewN m) w) {c o : Nat} {v : Value} (hne : c ≠ b) (r : u.cell? ⟨c, o, none⟩ = some v) : w.cell? ⟨c, o, none⟩ = some v := by
  rw [h.cell (p := ⟨c, o, none⟩) hne]; exact r

/-- Behind one count: the counted row is named by the caller. -/
theorem Rec.count {w wc wd : World} {hb yb ch b1 b2 b3 n met wai dea g cap b m : Nat} {total : Int} {f1 f2 f3 g1 g2 g3 : Nat → Value} (hb' : b = b1 ∨ b = b2 ∨ b = b3) (hlt : b < w.heap.size) (hne : hb ≠ b)
    (h : Rec w wc hb yb ch b1 b2 b3 n met wai dea g cap total f1 f2 f3) (hbut : But b (wc.drewN m) wd) (k1 : wd.rowIs b1 3 n g1) (k2 : wd.rowIs b2 3 n g2) (k3 : wd.rowIs b3 3 n g3) :
    Rec w wd hb yb ch b1 b2 b3 n met wai dea g cap total g1 g2 g3 := by
  have hg : g ≠ b := by have := h.g0; omega
  have hs : w.heap.size ≠ b := by omega
  exact ⟨h.four.trans (Four.but hbut hb'), rowIs_but hbut hne h.hist, k1, k2, k3, h.g0, ⟨cell_but hbut hg h.out.1, cell_but hbut hg h.out.2.1, cell_but hbut hg h.out.2.2⟩, ⟨cell_but hbut hs h.box.1, cell_but hbut hs h.box.2.1, cell_but hbut hs h.box.2.2⟩⟩

theorem cnt_self (s c : Nat) : cnt s s c = .int .i64 0 := by
  unfold cnt; cases s.testBit c <;> rfl

/-- The choice that record works out. -/
def NF (bar : Nat) : Nat → Value
  | 0 => .bool false
  | 1 => .bool false
  | 2 => .bool false
  | _ => .int .u64 (bar : Int)
theorem nf_made (V : World) (m : Nat) : ((V.alloc (.cells #[.bool false, .bool false, .bool false, .int .u64 0] 90)).drewN m).rowIs V.heap.size 90 4 (NF 0) := by
  have := World.rowIs_alloc V #[.bool false, .bool false, .bool false, .int .u64 0] 90 (NF 0) (by
    intro i hi
    have : i = 0 ∨ i = 1 ∨ i = 2 ∨ i = 3 := by simp at hi; omega
    rcases this with rfl | rfl | rfl | rfl <;> rfl)
  exact this

theorem info4 : (Ybad.prog.info? 4).map (fun i => i.size) = some 1 := by kernel_rfl
theorem cellsOf4 : Ybad.prog.cellsOf 4 = 1 := by kernel_rfl
set_option maxRecDepth 100000 in
theorem eq88 (w : World) : (Op.equalIn 9999 88 (.agg #[.bool false, .bool false, .bool false]) (.agg #[.bool false, .bool false, .bool false])).run Ybad.prog w = .ok true w := by
  obtain ⟨i, hi⟩ := info_some info4
  rw [run_equalIn_array w 9998 _ _ Ybad.underlying88 hi, show List.range 3 = [0, 1, 2] from rfl, cellsOf4]
  have hp : ∀ k w, k < 3 → (part 4 #[Value.bool false, .bool false, .bool false] (k * 1)).run Ybad.prog w = .ok (.bool false) w := by
    intro k w hk
    have : k = 0 ∨ k = 1 ∨ k = 2 := by omega
    rcases this with rfl | rfl | rfl <;> go_simp
  simp only [Op.eqItems, Sem.run_bind, hp 0 w (by omega), hp 1 w (by omega), hp 2 w (by omega), Result.andThen_ok, run_equalIn_bool' w 9997 4 _ _ Ybad.underlying4, beq_self_eq_true, Bool.not_true, Bool.false_eq_true, if_false, Sem.run_pure]
set_option maxRecDepth 100000 in
theorem neq90 (x : Int) (w : World) : (binOp .neq 90 (.agg #[.bool false, .bool false, .bool false, .int .u64 x]) (.agg #[.bool false, .bool false, .bool false, .int .u64 0])).run Ybad.prog w = .ok (.bool (!(x == 0))) w := by
  have := eq88 w
  rw [run_neq_struct]
  go_simp
  by_cases h : x = 0 <;> simp [h]

/-- Record's end. -/
structure RecPost (w w' : World) (hb yb b1 b2 b3 n met wai dea : Nat) : Prop where
  four : Four hb b1 b2 b3 w w'
  rest : ∃ ch g cap : Nat, w.heap.size ≤ g ∧ w'.rowIs hb 86 10 (HF yb ch b1 b2 b3 n 0 (.slice (some ⟨g, 0, none⟩) 1 cap) 1) ∧ w'.cell? ⟨g, 0, none⟩ = some (.int .u64 (met : Int)) ∧ w'.cell? ⟨g, 1, none⟩ = some (.int .u64 (wai : Int)) ∧ w'.cell? ⟨g, 2, none⟩ = some (.int .u64 (dea : Int)) ∧ 1 ≤ cap
  r1 : w'.rowIs b1 3 n (cnt met 0)
  r2 : w'.rowIs b2 3 n (cnt wai 0)
  r3 : w'.rowIs b3 3 n (cnt dea 0)

theorem Rec.close {w V X : World} {hb yb ch ch' b1 b2 b3 n met wai dea g cap : Nat} (h : Rec w V hb yb ch b1 b2 b3 n met wai dea g cap 1 (cnt met 0) (cnt wai 0) (cnt dea 0)) (hcap : 1 ≤ cap)
    (hb0 : hb < w.heap.size) (hne1 : b1 ≠ hb) (hne2 : b2 ≠ hb) (hne3 : b3 ≠ hb) (hf : Four hb b1 b2 b3 V X) (hblk : ∀ k, k < V.heap.size → k ≠ hb → X.heap[k]? = V.heap[k]?)
    (hrow : X.rowIs hb 86 10 (HF yb ch' b1 b2 b3 n 1 (.slice (some ⟨g, 0, none⟩) 1 cap) 1)) : RecPost w (X.setCell ⟨hb, 3, none⟩ (.int .i32 0)) hb yb b1 b2 b3 n met wai dea := by
  have hg := h.g0
  have hgl : g < V.heap.size := World.block_lt_of_cell? V ⟨g, 0, none⟩ h.out.1
  have hgh : hb ≠ g := by omega
  have hc : ∀ {o : Nat} {v : Value}, V.cell? ⟨g, o, none⟩ = some v → (X.setCell ⟨hb, 3, none⟩ (.int .i32 0)).cell? ⟨g, o, none⟩ = some v := by
    intro o v hv
    rw [World.cell?_setCell_far _ _ _ _ hgh, World.cell?_of_block (w := V) (hblk g hgl (by omega))]; exact hv
  refine ⟨(h.four.trans hf).trans (Four.set _ 3 _), ⟨ch', g, cap, hg, ?_, hc h.out.1, hc h.out.2.1, hc h.out.2.2, hcap⟩, ?_, ?_, ?_⟩
  · refine (hrow.set 3 _).congr ?_
    intro i hi
    have : i = 0 ∨ i = 1 ∨ i = 2 ∨ i = 3 ∨ i = 4 ∨ i = 5 ∨ i = 6 ∨ i = 7 ∨ i = 8 ∨ i = 9 := by omega
    rcases this with rfl | rfl | rfl | rfl | rfl | rfl | rfl | rfl | rfl | rfl <;> rfl
  · exact (h.r1.of_block (hblk b1 h.r1.lt hne1)).setOther hne1 _
  · exact (h.r2.of_block (hblk b2 h.r2.lt hne2)).setOther hne2 _
  · exact (h.r3.of_block (hblk b3 h.r3.lt hne3)).setOther hne3 _

theorem HF_choice {w : World} {hb yb ch b1 b2 b3 n : Nat} {mu total : Int} {ended : Value} (ch' : Nat) (h : w.rowIs hb 86 10 (HF yb ch b1 b2 b3 n mu ended total)) :
    (w.setCell ⟨hb, 2, none⟩ (.pointer (some ⟨ch', 0, none⟩))).rowIs hb 86 10 (HF yb ch' b1 b2 b3 n mu ended total) := by
  refine (h.set 2 _).congr ?_
  intro i hi
  have : i = 0 ∨ i = 1 ∨ i = 2 ∨ i = 3 ∨ i = 4 ∨ i = 5 ∨ i = 6 ∨ i = 7 ∨ i = 8 ∨ i = 9 := by omega
  rcases this with rfl | rfl | rfl | rfl | rfl | rfl | rfl | rfl | rfl | rfl <;> rfl
theorem Four.of_below {hb b1 b2 b3 : Nat} {V X : World} (h : Below V.heap.size V X) : Four hb b1 b2 b3 V X := ⟨h.os, h.tape, h.output, h.size, fun k hk _ _ _ _ => h.block k hk⟩
end Go.Proofs.YbulkdgjkDoor
