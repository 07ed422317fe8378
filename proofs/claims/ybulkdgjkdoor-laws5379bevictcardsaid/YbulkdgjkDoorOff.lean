import Derived.Test.YbulkdgjkDoorRec
namespace Go.Proofs.YbulkdgjkDoor
open Go.RowKit

/-- All blocks but those of P are as before. -/
structure Off (P : Nat → Prop) (w w' : World) : Prop where
  os : w'.os = w.os
  tape : w'.tape = w.tape
  output : w'.output = w.output
  size : w.heap.size ≤ w'.heap.size
  block : ∀ k, k < w.heap.size → ¬ P k → w'.heap[k]? = w.heap[k]?

namespace Off
variable {P Q : Nat → Prop} {u v w : World}
theorem refl (P : Nat → Prop) (w : World) : Off P w w := ⟨rfl, rfl, rfl, Nat.le_refl _, fun _ _ _ => rfl⟩
theorem trans (h : Off P u v) (k : Off P v w) : Off P u w :=
  ⟨k.os.trans h.os, k.tape.trans h.tape, k.output.trans h.output, Nat.le_trans h.size k.size, fun i hi a => (k.block i (Nat.lt_of_lt_of_le hi h.size) a).trans (h.block i hi a)⟩
theorem mono (h : Off P u v) (hpq : ∀ k, k < u.heap.size → P k → Q k) : Off Q u v := ⟨h.os, h.tape, h.output, h.size, fun i hi a => h.block i hi (fun hp => a (hpq i hi hp))⟩
theorem setCell (h : Off P u v) (a : Addr) (x : Value) (ha : P a.block ∨ u.heap.size ≤ a.block) : Off P u (v.setCell a x) :=
  ⟨h.os, h.tape, h.output, by simpa using h.size, fun i hi hp => (Go.heap_setCell_other v a i x (fun e => by subst e; rcases ha with ha | ha; exact hp ha; omega)).trans (h.block i hi hp)⟩
theorem alloc (h : Off P u v) (o : Obj) : Off P u (v.alloc o) :=
  ⟨h.os, h.tape, h.output, Nat.le_trans h.size (by simp), fun i hi hp => (Go.Deep.blk_alloc_lt v o i (Nat.lt_of_lt_of_le hi h.size)).trans (h.block i hi hp)⟩
theorem drewN (h : Off P u v) (n : Nat) : Off P u (v.drewN n) := ⟨h.os, h.tape, h.output, h.size, h.block⟩
theorem drew (h : Off P u v) : Off P u v.drew := ⟨h.os, h.tape, h.output, h.size, h.block⟩
theorem cell (h : Off P u v) {b o : Nat} {x : Value} (hb : ¬ P b) (hc : u.cell? ⟨b, o, none⟩ = some x) : v.cell? ⟨b, o, none⟩ = some x := by
  rw [World.cell?_of_block (w := u) (h.block b (World.block_lt_of_cell? u ⟨b, o, none⟩ hc) hb)]; exact hc
theorem row (h : Off P u v) {b t n : Nat} {f : Nat → Value} (hb : ¬ P b) (r : u.rowIs b t n f) : v.rowIs b t n f := r.of_block (h.block b r.lt hb)
end Off

theorem Off.of_four {hb b1 b2 b3 : Nat} {w w' : World} (h : Four hb b1 b2 b3 w w') : Off (fun k => k = hb ∨ k = b1 ∨ k = b2 ∨ k = b3) w w' :=
  ⟨h.os, h.tape, h.output, h.size, fun k hk hp => h.block k hk (fun e => hp (.inl e)) (fun e => hp (.inr (.inl e))) (fun e => hp (.inr (.inr (.inl e)))) (fun e => hp (.inr (.inr (.inr e))))⟩

/-- The member's cells. -/
def MF (tb ob : Nat) (ended : Bool) (fl pr : Value) (met : Nat) (inten : Value) (wai dea : Nat) : Nat → Value
  | 0 => .pointer (some ⟨tb, 0, none⟩)
  | 1 => .pointer (some ⟨ob, 0, none⟩)
  | 2 => .bool ended
  | 3 => .int .u8 0
  | 4 => .slice none 0 0
  | 5 => fl
  | 6 => pr
  | 7 => .int .u64 (met : Int)
  | 8 => .slice none 0 0
  | 9 => inten
  | 10 => .int .u64 (wai : Int)
  | _ => .int .u64 (dea : Int)

theorem mf_ended {w : World} {mb tb ob met wai dea : Nat} {ended : Bool} {fl pr inten : Value} (h : w.rowIs mb 129 12 (MF tb ob ended fl pr met inten wai dea)) (x : Bool) :
    (w.setCell ⟨mb, 2, none⟩ (.bool x)).rowIs mb 129 12 (MF tb ob x fl pr met inten wai dea) := by
  refine (h.set 2 _).congr ?_
  intro i hi
  have : i = 0 ∨ i = 1 ∨ i = 2 ∨ i = 3 ∨ i = 4 ∨ i = 5 ∨ i = 6 ∨ i = 7 ∨ i = 8 ∨ i = 9 ∨ i = 10 ∨ i = 11 := by omega
  rcases this with rfl | rfl | rfl | rfl | rfl | rfl | rfl | rfl | rfl | rfl | rfl | rfl <;> rfl
theorem mf_flags {w : World} {mb tb ob met wai dea : Nat} {ended : Bool} {fl pr inten : Value} (h : w.rowIs mb 129 12 (MF tb ob ended fl pr met inten wai dea)) (x : Value) :
    (w.setCell ⟨mb, 5, none⟩ x).rowIs mb 129 12 (MF tb ob ended x pr met inten wai dea) := by
  refine (h.set 5 _).congr ?_
  intro i hi
  have : i = 0 ∨ i = 1 ∨ i = 2 ∨ i = 3 ∨ i = 4 ∨ i = 5 ∨ i = 6 ∨ i = 7 ∨ i = 8 ∨ i = 9 ∨ i = 10 ∨ i = 11 := by omega
  rcases this with rfl | rfl | rfl | rfl | rfl | rfl | rfl | rfl | rfl | rfl | rfl | rfl <;> rfl
theorem mf_private {w : World} {mb tb ob met wai dea : Nat} {ended : Bool} {fl pr inten : Value} (h : w.rowIs mb 129 12 (MF tb ob ended fl pr met inten wai dea)) (x : Value) :
    (w.setCell ⟨mb, 6, none⟩ x).rowIs mb 129 12 (MF tb ob ended fl x met inten wai dea) := by
  refine (h.set 6 _).congr ?_
  intro i hi
  have : i = 0 ∨ i = 1 ∨ i = 2 ∨ i = 3 ∨ i = 4 ∨ i = 5 ∨ i = 6 ∨ i = 7 ∨ i = 8 ∨ i = 9 ∨ i = 10 ∨ i = 11 := by omega
  rcases this with rfl | rfl | rfl | rfl | rfl | rfl | rfl | rfl | rfl | rfl | rfl | rfl <;> rfl
theorem mf_met {w : World} {mb tb ob met wai dea : Nat} {ended : Bool} {fl pr inten : Value} (h : w.rowIs mb 129 12 (MF tb ob ended fl pr met inten wai dea)) (x : Nat) :
    (w.setCell ⟨mb, 7, none⟩ (.int .u64 (x : Int))).rowIs mb 129 12 (MF tb ob ended fl pr x inten wai dea) := by
  refine (h.set 7 _).congr ?_
  intro i hi
  have : i = 0 ∨ i = 1 ∨ i = 2 ∨ i = 3 ∨ i = 4 ∨ i = 5 ∨ i = 6 ∨ i = 7 ∨ i = 8 ∨ i = 9 ∨ i = 10 ∨ i = 11 := by omega
  rcases this with rfl | rfl | rfl | rfl | rfl | rfl | rfl | rfl | rfl | rfl | rfl | rfl <;> rfl

/-- A resource's five cells. -/
def RF (rb mb ob q : Nat) (d : Bool) : Nat → Value
  | 0 => .int .u8 0
  | 1 => .bool false
  | 2 => .slice (some ⟨rb, 5 * q + 3, none⟩) (if d then 0 else 1) 1
  | 3 => if d then .pointer none else .pointer (some ⟨mb, 0, none⟩)
  | _ => .pointer (some ⟨ob, 19, none⟩)
/-- The resources' cells, those of 'done' dropped. -/
def RSF (rb mb ob : Nat) (done : Nat → Bool) (o : Nat) : Value := RF rb mb ob (o / 5) (done (o / 5)) (o % 5)

theorem rsf_cell {w : World} {rb mb ob k q r : Nat} {done : Nat → Bool} (h : w.rowIs rb 72 (5 * k) (RSF rb mb ob done)) (hq : q < k) (hr : r < 5) : w.cell? ⟨rb, 5 * q + r, none⟩ = some (RF rb mb ob q (done q) r) := by
  rw [h.cell (by omega), RSF, show (5 * q + r) / 5 = q by omega, show (5 * q + r) % 5 = r by omega]

theorem rsf_drop {w : World} {rb mb ob k q : Nat} {done : Nat → Bool} (h : w.rowIs rb 72 (5 * k) (RSF rb mb ob done)) :
    ((w.setCell ⟨rb, 5 * q + 3, none⟩ (.pointer none)).setCell ⟨rb, 5 * q + 2, none⟩ (.slice (some ⟨rb, 5 * q + 3, none⟩) 0 1)).rowIs rb 72 (5 * k) (RSF rb mb ob (fun x => done x || decide (x = q))) := by
  refine ((h.set _ _).set _ _).congr ?_
  intro i hi
  show (if i = 5 * q + 2 then _ else if i = 5 * q + 3 then _ else RSF rb mb ob done i) = _
  by_cases h2 : i = 5 * q + 2
  · rw [if_pos h2]; subst h2
    rw [RSF, show (5 * q + 2) / 5 = q by omega, show (5 * q + 2) % 5 = 2 by omega]; simp [RF]
  rw [if_neg h2]
  by_cases h3 : i = 5 * q + 3
  · rw [if_pos h3]; subst h3
    rw [RSF, show (5 * q + 3) / 5 = q by omega, show (5 * q + 3) % 5 = 3 by omega]; simp [RF]
  rw [if_neg h3]
  by_cases hq : i / 5 = q
  · have : i % 5 = 0 ∨ i % 5 = 1 ∨ i % 5 = 4 := by omega
    unfold RSF
    rcases this with e | e | e <;> rw [e] <;> rfl
  · simp [RSF, hq]
theorem rsf_congr {w : World} {rb mb ob k : Nat} {d1 d2 : Nat → Bool} (h : w.rowIs rb 72 (5 * k) (RSF rb mb ob d1)) (e : ∀ q, q < k → d1 q = d2 q) : w.rowIs rb 72 (5 * k) (RSF rb mb ob d2) :=
  h.congr fun i hi => by unfold RSF; rw [e (i / 5) (by omega)]
end Go.Proofs.YbulkdgjkDoor
