import Derived.Test.YbulkdgjkDoorLawB
namespace Go.Proofs.YbulkdgjkDoor
open Go.RowKit

def txCells (eb : Nat) (ev : Option Addr) : Array Value := #[.pointer (some ⟨eb, 0, none⟩), .nilIface, .bool false, .int .u64 0, .slice none 0 0, .int .i32 0, .int .u32 0, .int .u8 0, .bool false, .nilIface, .pointer ev, .int .u32 0,
  .nilFunc, .nilFunc, .slice none 0 0, .slice none 0 0, .chan none, .int .u32 0, .pointer none, .slice none 0 0, .int .u32 0, .pointer none, .int .u32 0, .chan none, .int .u64 0, .slice none 0 0, .pointer none, .int .u64 0, .bool false, .pointer none]
/-- The two transactions, the earlier eviction. -/
structure EnvT (X : World) (eb tb bb xb : Nat) (evicted : Bool) : Prop where
  t0 : X.cell? ⟨tb, 0, none⟩ = some (.pointer (some ⟨eb, 0, none⟩))
  t10 : X.cell? ⟨tb, 10, none⟩ = some (.pointer (if evicted then some ⟨xb, 0, none⟩ else none))
  ft : X.frozen? ⟨tb, 10, none⟩ = false
  t26 : X.cell? ⟨tb, 26, none⟩ = some (.pointer none)
  t27 : X.cell? ⟨tb, 27, none⟩ = some (.int .u64 0)
  t28 : X.cell? ⟨tb, 28, none⟩ = some (.bool false)
  b0 : X.cell? ⟨bb, 0, none⟩ = some (.pointer (some ⟨eb, 0, none⟩))
  xs : evicted = true → X.shape? xb = some (125, 5) ∧ xb < X.heap.size ∧ bb < xb
  ord : tb < bb
theorem Off.shape {P : Nat → Prop} {u v : World} (h : Off P u v) {b : Nat} {x : Nat × Nat} (hb : ¬ P b) (hlt : b < u.heap.size) (hf : u.shape? b = some x) : v.shape? b = some x := by
  rw [← hf]; simp [World.shape?, h.block b hlt hb]
theorem EnvT.off {P : Nat → Prop} {X X' : World} {eb tb bb xb : Nat} {evicted : Bool} (h : EnvT X eb tb bb xb evicted) (o : Off P X X') (h1 : ¬ P tb) (h2 : ¬ P bb) (h3 : evicted = true → ¬ P xb) : EnvT X' eb tb bb xb evicted :=
  ⟨o.cell h1 h.t0, o.cell h1 h.t10, o.frozen h1 (World.block_lt_of_cell? _ _ h.t0) h.ft, o.cell h1 h.t26, o.cell h1 h.t27, o.cell h1 h.t28, o.cell h2 h.b0, fun e => ⟨o.shape (h3 e) (h.xs e).2.1 (h.xs e).1, Nat.lt_of_lt_of_le (h.xs e).2.1 o.size, (h.xs e).2.2⟩, h.ord⟩

theorem envT_no (V : World) (eb : Nat) : EnvT ((V.alloc (.cells (txCells eb none) 118)).alloc (.cells (txCells eb none) 118)) eb V.heap.size (V.heap.size + 1) 0 false := by
  refine ⟨cell_grow (cell_new_at rfl rfl), cell_grow (cell_new_at rfl rfl), ?_, cell_grow (cell_new_at rfl rfl), cell_grow (cell_new_at rfl rfl), cell_grow (cell_new_at rfl rfl), cell_new_at (by simp) rfl, by simp, by omega⟩
  exact ((Off.refl (fun _ => False) _).alloc _).frozen id (by simp) (by rw [World.frozen?_alloc_at _ _ _ _ rfl])
theorem envT_yes (V : World) (eb ob : Nat) (a b : ByteArray) : EnvT ((((V.alloc (.cells (txCells eb (some ⟨V.heap.size + 1 + 1 + 1, 0, none⟩)) 118)).alloc (.cells (txCells eb none) 118)).alloc (.cells #[.string a, .string b] 121)).alloc (.cells #[.pointer (some ⟨V.heap.size + 1 + 1, 0, none⟩), .pointer none, .pointer (some ⟨ob, 0, none⟩), .int .u64 0, .int .u64 0] 125)) eb V.heap.size (V.heap.size + 1) (V.heap.size + 1 + 1 + 1) true := by
  refine ⟨cell_grow (cell_grow (cell_grow (cell_new_at rfl rfl))), cell_grow (cell_grow (cell_grow (cell_new_at rfl rfl))), ?_, cell_grow (cell_grow (cell_grow (cell_new_at rfl rfl))), cell_grow (cell_grow (cell_grow (cell_new_at rfl rfl))), cell_grow (cell_grow (cell_grow (cell_new_at rfl rfl))), cell_grow (cell_grow (cell_new_at (by simp) rfl)), fun _ => ⟨?_, by simp, by omega⟩, by omega⟩
  · exact ((((Off.refl (fun _ => False) _).alloc _).alloc _).alloc _).frozen id (by simp) (by rw [World.frozen?_alloc_at _ _ _ _ rfl])
  · rw [World.shape?, blk_new_at (by simp)]
    rfl

/-- A resource's cells as they are made. -/
def Z5 : Nat → Value
  | 0 => .int .u8 0
  | 1 => .bool false
  | 2 => .slice none 0 0
  | _ => .pointer none
/-- The resources' cells, the first i of them set. -/
def RSL (rb mb ob i : Nat) (o : Nat) : Value := if o / 5 < i then RF rb mb ob (o / 5) false (o % 5) else Z5 (o % 5)

theorem info72 : (Ybad.prog.info? 72).map (fun i => (i.zero, i.size, i.bytes)) = some (some (.agg #[.int .u8 0, .bool false, .slice none 0 0, .pointer none, .pointer none]), 5, 48) := by kernel_rfl
theorem info_parts5 {P : Program} {e : TypeId} {z : Value} {s b : Nat} (h : (P.info? e).map (fun i => (i.zero, i.size, i.bytes)) = some (some z, s, b)) : ∃ i, P.info? e = some i ∧ i.zero = some z ∧ i.size = s ∧ i.bytes = b := by
  cases hi : P.info? e with
  | none => rw [hi] at h; simp at h
  | some i => rw [hi] at h; simp at h; exact ⟨i, rfl, h.1, h.2.1, h.2.2⟩
theorem run_mk72 (k : Nat) (h : k ≤ 7) (w : World) :
    (Instr.makeSlice 130 (.int .i64 (k : Int)) (.int .i64 (k : Int))).run Ybad.prog w = .ok (.slice (some ⟨w.heap.size, 0, none⟩) k k) (w.alloc (.cells (madeCells #[.int .u8 0, .bool false, .slice none 0 0, .pointer none, .pointer none] (k * 5)) 72)) := by
  obtain ⟨i, hi, hz, hs, hb⟩ := info_parts5 info72
  have := run_make (P := Ybad.prog) w 130 72 i _ Ybad.underlying130 hi hz .i64 .i64 k k (by omega) (by omega) (by rw [hb]; omega) (by omega)
  simp only [Int.toNat_natCast, hs] at this
  exact this
theorem rsl_made (w : World) (rb mb ob k : Nat) (h : w.heap.size = rb) : (w.alloc (.cells (madeCells #[.int .u8 0, .bool false, .slice none 0 0, .pointer none, .pointer none] (k * 5)) 72)).rowIs rb 72 (5 * k) (RSL rb mb ob 0) := by
  subst h
  refine ⟨_, Go.Deep.blk_alloc_new _ _, by rw [size_madeCells]; omega, fun i hi => ?_⟩
  have h5 : i % 5 = 0 ∨ i % 5 = 1 ∨ i % 5 = 2 ∨ i % 5 = 3 ∨ i % 5 = 4 := by omega
  have hik : i < k * 5 := by omega
  simp only [madeCells, RSL]
  simp [hik]
  rcases h5 with e | e | e | e | e <;> simp [e, Z5]
theorem rsl_all {w : World} {rb mb ob k : Nat} (h : w.rowIs rb 72 (5 * k) (RSL rb mb ob k)) : w.rowIs rb 72 (5 * k) (RSF rb mb ob (fun _ => false)) :=
  h.congr fun i hi => by rw [RSL, if_pos (by omega)]; rfl
theorem rsl_zero {w : World} {rb mb ob k i r : Nat} (h : w.rowIs rb 72 (5 * k) (RSL rb mb ob i)) (hi : i < k) (hr : r < 5) :
    w.cell? ⟨rb, i * 5 + r, none⟩ = some (Z5 r) := by
  rw [h.cell (by omega), RSL, show (i * 5 + r) / 5 = i by omega, show (i * 5 + r) % 5 = r by omega, if_neg (by omega)]
theorem rsl_next {w : World} {rb mb ob k i : Nat} (h : w.rowIs rb 72 (5 * k) (RSL rb mb ob i)) :
    (((w.setCell ⟨rb, i * 5 + 4, none⟩ (.pointer (some ⟨ob, 19, none⟩))).setCell ⟨rb, i * 5 + 3, none⟩ (.pointer (some ⟨mb, 0, none⟩))).setCell ⟨rb, i * 5 + 2, none⟩ (.slice (some ⟨rb, i * 5 + 3, none⟩) 1 1)).rowIs rb 72 (5 * k) (RSL rb mb ob (i + 1)) := by
  refine (((h.set _ _).set _ _).set _ _).congr ?_
  intro o ho
  show (if o = i * 5 + 2 then _ else if o = i * 5 + 3 then _ else if o = i * 5 + 4 then _ else RSL rb mb ob i o) = _
  by_cases h2 : o = i * 5 + 2
  · rw [if_pos h2]; subst h2
    rw [RSL, show (i * 5 + 2) / 5 = i by omega, show (i * 5 + 2) % 5 = 2 by omega, if_pos (by omega)]
    simp [RF, Nat.mul_comm]
  rw [if_neg h2]
  by_cases h3 : o = i * 5 + 3
  · rw [if_pos h3]; subst h3
    rw [RSL, show (i * 5 + 3) / 5 = i by omega, show (i * 5 + 3) % 5 = 3 by omega, if_pos (by omega)]
    simp [RF]
  rw [if_neg h3]
  by_cases h4 : o = i * 5 + 4
  · rw [if_pos h4]; subst h4
    rw [RSL, show (i * 5 + 4) / 5 = i by omega, show (i * 5 + 4) % 5 = 4 by omega, if_pos (by omega)]
    simp [RF]
  rw [if_neg h4]
  by_cases hlt : o / 5 < i
  · rw [RSL, RSL, if_pos hlt, if_pos (by omega)]
  · by_cases he : o / 5 = i
    · have : o % 5 = 0 ∨ o % 5 = 1 := by omega
      rw [RSL, RSL, if_neg hlt, if_pos (by omega)]
      rcases this with e | e <;> rw [e] <;> rfl
    · rw [RSL, RSL, if_neg hlt, if_neg (by omega)]

/-- A list of flags as its cells. -/
def heldL (rb : Nat) (s : Nat → Nat) (n : Nat) : List Value := (List.range n).flatMap fun j => [.pointer (some ⟨rb, 5 * s j, none⟩), .int .u8 0]
theorem heldL_succ (rb : Nat) (s : Nat → Nat) (n : Nat) : heldL rb s (n + 1) = heldL rb s n ++ [.pointer (some ⟨rb, 5 * s n, none⟩), .int .u8 0] := by
  simp [heldL, List.range_succ, List.flatMap_append]
theorem heldL_len (rb : Nat) (s : Nat → Nat) (n : Nat) : (heldL rb s n).length = 2 * n := by
  induction n with
  | zero => simp [heldL]
  | succ n ih => rw [heldL_succ]; simp [ih]; omega
theorem heldL_get (rb : Nat) (s : Nat → Nat) (n : Nat) : ∀ j, j < n → (heldL rb s n)[2 * j]? = some (.pointer (some ⟨rb, 5 * s j, none⟩)) ∧ (heldL rb s n)[2 * j + 1]? = some (.int .u8 0) := by
  induction n with
  | zero => intro j hj; omega
  | succ n ih =>
    intro j hj
    rw [heldL_succ]
    by_cases h : j < n
    · rw [List.getElem?_append_left (by rw [heldL_len]; omega), List.getElem?_append_left (by rw [heldL_len]; omega)]
      exact ih j h
    · obtain rfl : j = n := by omega
      rw [List.getElem?_append_right (by rw [heldL_len]; omega), List.getElem?_append_right (by rw [heldL_len]; omega), heldL_len, show 2 * j - 2 * j = 0 by omega, show 2 * j + 1 - 2 * j = 1 by omega]
      exact ⟨rfl, rfl⟩
theorem held_of_owns {w : World} {base rb n g cap : Nat} {s : Nat → Nat} (h : w.ownsRow base 133 2 (.slice (some ⟨g, 0, none⟩) n cap) n (heldL rb s n)) : Held w g n rb s := by
  intro i hi
  have a := h.cells (g := g) rfl (2 * i) _ (heldL_get rb s n i hi).1
  have b := h.cells (g := g) rfl (2 * i + 1) _ (heldL_get rb s n i hi).2
  rw [Addr.add_lit, Nat.zero_add] at a b
  rw [Nat.mul_comm i 2]
  exact ⟨a, b⟩
theorem mf_made (V : World) (tb ob pm pw pd : Nat) (ended : Bool) (i : Value) :
    (V.alloc (.cells #[.pointer (some ⟨tb, 0, none⟩), .pointer (some ⟨ob, 0, none⟩), .bool ended, .int .u8 0, .slice none 0 0, .slice none 0 0, .slice none 0 0, .int .u64 (pm : Int), .slice none 0 0, i, .int .u64 (pw : Int), .int .u64 (pd : Int)] 129)).rowIs V.heap.size 129 12 (MF tb ob ended (.slice none 0 0) (.slice none 0 0) pm i pw pd) :=
  World.rowIs_alloc V #[.pointer (some ⟨tb, 0, none⟩), .pointer (some ⟨ob, 0, none⟩), .bool ended, .int .u8 0, .slice none 0 0, .slice none 0 0, .slice none 0 0, .int .u64 (pm : Int), .slice none 0 0, i, .int .u64 (pw : Int), .int .u64 (pd : Int)] 129 _ (by
    intro i hi
    have : i = 0 ∨ i = 1 ∨ i = 2 ∨ i = 3 ∨ i = 4 ∨ i = 5 ∨ i = 6 ∨ i = 7 ∨ i = 8 ∨ i = 9 ∨ i = 10 ∨ i = 11 := by simp at hi; omega
    rcases this with rfl | rfl | rfl | rfl | rfl | rfl | rfl | rfl | rfl | rfl | rfl | rfl <;> rfl)

/-- The loop that flags. -/
structure L2 (V wr : World) (mb rb ob tb pm pw pd k i : Nat) (ended : Bool) (y : Int) (fl pr : Value) : Prop where
  off : Off (fun b => b = rb ∨ b = mb) V wr
  rs : wr.rowIs rb 72 (5 * k) (RSL rb mb ob i)
  mem : wr.rowIs mb 129 12 (MF tb ob ended fl pr pm (.iface 3 (.int .i64 y)) pw pd)
  ofl : wr.ownsRow V.heap.size 133 2 fl ((i + 1) / 2) (heldL rb (fun j => 2 * j) ((i + 1) / 2))
  opr : wr.ownsRow V.heap.size 133 2 pr (i / 2) (heldL rb (fun j => 2 * j + 1) (i / 2))
  ne : ∀ g, fl.ownBlock = some g → pr.ownBlock = some g → False
  lt : mb < rb ∧ rb < V.heap.size

theorem owns_keep {base e size n : Nat} {v : Value} {xs : List Value} {u w : World} (h : u.ownsRow base e size v n xs) (hb : ∀ g, v.ownBlock = some g → w.heap[g]? = u.heap[g]?) : w.ownsRow base e size v n xs := by
  obtain ⟨h1, ⟨h2, h3⟩ | ⟨g, cap, cur, rfl, h3, h4, h5⟩⟩ := h
  · exact ⟨h1, .inl ⟨h2, h3⟩⟩
  · exact ⟨h1, .inr ⟨g, cap, cur, rfl, h3, (hb g rfl).trans h4, h5⟩⟩

/-- The three stores of a round. -/
def rs3 (w : World) (rb mb ob i : Nat) : World := ((w.setCell ⟨rb, i * 5 + 4, none⟩ (.pointer (some ⟨ob, 19, none⟩))).setCell ⟨rb, i * 5 + 3, none⟩ (.pointer (some ⟨mb, 0, none⟩))).setCell ⟨rb, i * 5 + 2, none⟩ (.slice (some ⟨rb, i * 5 + 3, none⟩) 1 1)
theorem rs3_off (w : World) (rb mb ob i : Nat) : Off (fun b => b = rb) w (rs3 w rb mb ob i) := (((Off.refl _ _).setCell _ _ (.inl (by rfl))).setCell _ _ (.inl (by rfl))).setCell _ _ (.inl (by rfl))

theorem L2.round {V wr w3 : World} {mb rb ob tb pm pw pd k i : Nat} {ended : Bool} {y : Int} {fl pr : Value} (h : L2 V wr mb rb ob tb pm pw pd k i ended y fl pr) (o : Nat) (fl' pr' v : Value) (own : Option Nat)
    (hv : ∀ j, j < 12 → (if j = o then v else MF tb ob ended fl pr pm (.iface 3 (.int .i64 y)) pw pd j) = MF tb ob ended fl' pr' pm (.iface 3 (.int .i64 y)) pw pd j)
    (hgrow : (rs3 wr rb mb ob i).grownBy w3 own) (hown : ∀ g, own = some g → V.heap.size ≤ g)
    (hfl : w3.ownsRow V.heap.size 133 2 fl' ((i + 1 + 1) / 2) (heldL rb (fun j => 2 * j) ((i + 1 + 1) / 2))) (hpr : w3.ownsRow V.heap.size 133 2 pr' ((i + 1) / 2) (heldL rb (fun j => 2 * j + 1) ((i + 1) / 2)))
    (hne : ∀ g, fl'.ownBlock = some g → pr'.ownBlock = some g → False) :
    L2 V (w3.setCell ⟨mb, o, none⟩ v) mb rb ob tb pm pw pd k (i + 1) ended y fl' pr' := by
  have hlt := h.lt
  have hs := h.off.size
  have r3 := rs3_off wr rb mb ob i
  have og : ∀ {b : Nat}, b < V.heap.size → w3.heap[b]? = (rs3 wr rb mb ob i).heap[b]? := fun {b} hb => hgrow.block b (by have := r3.size; omega) (fun e => by have := hown b e.symm; omega)
  have keep : ∀ {v : Value} {n : Nat} {xs : List Value}, w3.ownsRow V.heap.size 133 2 v n xs → ∀ x : Value, (w3.setCell ⟨mb, o, none⟩ x).ownsRow V.heap.size 133 2 v n xs := fun {v n xs} hw x =>
    owns_keep hw (fun g hg => Go.heap_setCell_other w3 ⟨mb, o, none⟩ g x (by have := (hw.lt g hg).1; show g ≠ mb; omega))
  refine ⟨⟨?_, ?_, ?_, ?_, ?_⟩, ?_, ?_, keep hfl v, keep hpr v, hne, hlt⟩
  · exact hgrow.os.trans (r3.os.trans h.off.os)
  · exact hgrow.tape.trans (r3.tape.trans h.off.tape)
  · exact hgrow.output.trans (r3.output.trans h.off.output)
  · simp; have := hgrow.size; have := r3.size; omega
  · intro b hb hp
    rw [Go.heap_setCell_other w3 ⟨mb, o, none⟩ b v (fun e => hp (.inr e)), og hb, r3.block b (by omega) (fun e => hp (.inl e))]
    exact h.off.block b hb hp
  · exact ((rsl_next h.rs).of_block (og hlt.2)).setOther (a := ⟨mb, o, none⟩) (by show rb ≠ mb; omega) _
  · have hm : w3.rowIs mb 129 12 (MF tb ob ended fl pr pm (.iface 3 (.int .i64 y)) pw pd) := (r3.row (by show ¬ mb = rb; omega) h.mem).of_block (og (by omega))
    exact (hm.set o v).congr hv
theorem grown_pre {Z Z' w3 : World} {own : Option Nat} (h : Off (fun _ => False) Z Z') (g : Z'.grownBy w3 own) : Z.grownBy w3 own :=
  ⟨g.os.trans h.os, g.tape.trans h.tape, g.output.trans h.output, Nat.le_trans h.size g.size, fun k hk e => (g.block k (Nat.lt_of_lt_of_le hk h.size) e).trans (h.block k hk id)⟩

theorem L2.even {V wr w3 Z : World} {mb rb ob tb pm pw pd k i g cap H : Nat} {ended : Bool} {y : Int} {fl pr : Value} (h : L2 V wr mb rb ob tb pm pw pd k i ended y fl pr) (hi : i % 2 = 0) (hZ : Off (fun _ => False) (rs3 wr rb mb ob i) Z) (hgrow : Z.grownBy w3 fl.ownBlock)
    (hown : w3.ownsRow V.heap.size 133 2 (.slice (some ⟨g, 0, none⟩) ((i + 1) / 2 + 1) cap) ((i + 1) / 2 + 1) (heldL rb (fun j => 2 * j) ((i + 1) / 2) ++ [.pointer (some ⟨rb, i * 5, none⟩), .int .u8 0])) (hat : fl.ownBlock = some g ∨ g = H) (hH : Z.heap.size = H) :
    L2 V (w3.setCell ⟨mb, 5, none⟩ (.slice (some ⟨g, 0, none⟩) ((i + 1) / 2 + 1) cap)) mb rb ob tb pm pw pd k (i + 1) ended y (.slice (some ⟨g, 0, none⟩) ((i + 1) / 2 + 1) cap) pr := by
  have hlt := h.lt
  have hg := grown_pre hZ hgrow
  refine h.round 5 _ _ _ _ ?_ hg (fun q hq => (h.ofl.lt q hq).1) ?_ ?_ ?_
  · intro j hj
    have : j = 0 ∨ j = 1 ∨ j = 2 ∨ j = 3 ∨ j = 4 ∨ j = 5 ∨ j = 6 ∨ j = 7 ∨ j = 8 ∨ j = 9 ∨ j = 10 ∨ j = 11 := by omega
    rcases this with rfl | rfl | rfl | rfl | rfl | rfl | rfl | rfl | rfl | rfl | rfl | rfl <;> rfl
  · rw [show (i + 1 + 1) / 2 = (i + 1) / 2 + 1 by omega, heldL_succ, show 5 * (2 * ((i + 1) / 2)) = i * 5 by omega]
    exact hown
  · rw [show (i + 1) / 2 = i / 2 by omega]
    refine owns_keep h.opr (fun q hq => ?_)
    have hq' := h.opr.lt q hq
    rw [hg.block q (by have := (rs3_off wr rb mb ob i).size; omega) (fun e => h.ne q e.symm hq)]
    exact (rs3_off wr rb mb ob i).block q hq'.2 (by omega)
  · intro q hq hq2
    have e : g = q := by simpa [Value.ownBlock] using hq
    subst e
    rcases hat with e | e
    · exact h.ne g e hq2
    · have := (h.opr.lt g hq2).2
      have := hZ.size
      have := (rs3_off wr rb mb ob i).size
      omega
theorem L2.odd {V wr w3 Z : World} {mb rb ob tb pm pw pd k i g cap H : Nat} {ended : Bool} {y : Int} {fl pr : Value} (h : L2 V wr mb rb ob tb pm pw pd k i ended y fl pr) (hi : i % 2 = 1) (hZ : Off (fun _ => False) (rs3 wr rb mb ob i) Z) (hgrow : Z.grownBy w3 pr.ownBlock)
    (hown : w3.ownsRow V.heap.size 133 2 (.slice (some ⟨g, 0, none⟩) (i / 2 + 1) cap) (i / 2 + 1) (heldL rb (fun j => 2 * j + 1) (i / 2) ++ [.pointer (some ⟨rb, i * 5, none⟩), .int .u8 0])) (hat : pr.ownBlock = some g ∨ g = H) (hH : Z.heap.size = H) :
    L2 V (w3.setCell ⟨mb, 6, none⟩ (.slice (some ⟨g, 0, none⟩) (i / 2 + 1) cap)) mb rb ob tb pm pw pd k (i + 1) ended y fl (.slice (some ⟨g, 0, none⟩) (i / 2 + 1) cap) := by
  have hlt := h.lt
  have hg := grown_pre hZ hgrow
  refine h.round 6 _ _ _ _ ?_ hg (fun q hq => (h.opr.lt q hq).1) ?_ ?_ ?_
  · intro j hj
    have : j = 0 ∨ j = 1 ∨ j = 2 ∨ j = 3 ∨ j = 4 ∨ j = 5 ∨ j = 6 ∨ j = 7 ∨ j = 8 ∨ j = 9 ∨ j = 10 ∨ j = 11 := by omega
    rcases this with rfl | rfl | rfl | rfl | rfl | rfl | rfl | rfl | rfl | rfl | rfl | rfl <;> rfl
  · rw [show (i + 1 + 1) / 2 = (i + 1) / 2 by omega]
    refine owns_keep h.ofl (fun q hq => ?_)
    have hq' := h.ofl.lt q hq
    rw [hg.block q (by have := (rs3_off wr rb mb ob i).size; omega) (fun e => h.ne q hq e.symm)]
    exact (rs3_off wr rb mb ob i).block q hq'.2 (by omega)
  · rw [show (i + 1) / 2 = i / 2 + 1 by omega, heldL_succ, show 5 * (2 * (i / 2) + 1) = i * 5 by omega]
    exact hown
  · intro q hq2 hq
    have e : g = q := by simpa [Value.ownBlock] using hq
    subst e
    rcases hat with e | e
    · exact h.ne g hq2 e
    · have := (h.ofl.lt g hq2).2
      have := hZ.size
      have := (rs3_off wr rb mb ob i).size
      omega
theorem info133 : (Ybad.prog.info? 133).map (fun i => (i.zero, i.size, i.bytes)) = some (some (.agg #[.pointer none, .int .u8 0]), 2, 16) := by kernel_rfl
end Go.Proofs.YbulkdgjkDoor
