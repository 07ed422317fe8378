import Derived.Test.YbulkdgjkDoorEvict
import Derived.BigRegion
namespace Go.Proofs.YbulkdgjkDoor
open Go.RowKit
attribute [local go_sem ↓] Go.wp_at_zero Go.wp_at_succ

def IsS (w : World) (a : Option Addr) (n : Nat) (S : Nat → ByteArray) : Prop :=
  0 < n → ∃ b off, a = some ⟨b, off, none⟩ ∧ b < w.heap.size ∧ ∀ i, i < n → w.cell? ⟨b, off + i, none⟩ = some (.string (S i))
theorem info9 : (Ybad.prog.info? 9).map (fun i => (i.zero, i.size, i.bytes)) = some (some (.string ⟨#[]⟩), 1, 16) := by kernel_rfl
theorem run_mk9 (q : Nat) (h : q ≤ 1024) (w : World) :
    (Instr.makeSlice 22 (.int .i64 0) (.int .i64 (q : Int))).run Ybad.prog w = .ok (.slice (some ⟨w.heap.size, 0, none⟩) 0 q) (w.alloc (.cells (madeCells #[.string ⟨#[]⟩] q) 9)) := by
  obtain ⟨i, hi, hz, hs, hb⟩ := info_parts info9
  have := run_make (P := Ybad.prog) w 22 9 i _ Ybad.underlying22 hi hz .i64 .i64 0 q (by omega) (by omega) (by rw [hb]; omega) (by omega)
  simp only [Int.toNat_natCast, hs, Nat.mul_one] at this
  exact this

/-- The copied names. -/
structure Names (w wc : World) (g cap n : Nat) (S : Nat → ByteArray) : Prop where
  off : Off (fun _ => False) w wc
  own : wc.ownsRow w.heap.size 9 1 (.slice (some ⟨g, 0, none⟩) n cap) n ((List.range n).map fun j => .string (S j))
theorem Names.made (w : World) (S : Nat → ByteArray) (q : Nat) (h : q ≤ 1024) : Names w (w.alloc (.cells (madeCells #[.string ⟨#[]⟩] q) 9)) w.heap.size q 0 S :=
  ⟨(Off.refl _ _).alloc _, World.ownsRow_made (base := w.heap.size) (e := 9) (size := 1) w (madeCells #[.string ⟨#[]⟩] q) q (by omega) (by unfold maxLen; omega) (by simp [size_madeCells])⟩
theorem Names.app {w wr w3 : World} {g cap g' cap' n : Nat} {S : Nat → ByteArray} (h : Names w wr g cap n S)
    (ho : w3.ownsRow w.heap.size 9 1 (.slice (some ⟨g', 0, none⟩) (n + 1) cap') (n + 1) ((List.range n).map (fun j => Value.string (S j)) ++ [.string (S n)]))
    (hg : (wr.alloc (.cells #[.string (S n)] 9)).grownBy w3 (some g)) : Names w w3 g' cap' (n + 1) S := by
  have hgl := h.own.lt g rfl
  refine ⟨⟨hg.os.trans h.off.os, hg.tape.trans h.off.tape, hg.output.trans h.off.output, Nat.le_trans h.off.size (Nat.le_trans (by simp) hg.size), fun k hk _ => ?_⟩, ?_⟩
  · have := h.off.size
    rw [hg.block k (by simp; omega) (by simp; omega), Go.Deep.blk_alloc_lt _ _ _ (by omega)]
    exact h.off.block k hk id
  · rw [List.range_succ, List.map_append]
    exact ho


theorem info61 : (Ybad.prog.info? 61).map (fun i => (i.zero, i.size, i.bytes)) = some (some (.int .u8 0), 1, 1) := by kernel_rfl
theorem info160 : (Ybad.prog.info? 160).map (fun i => (i.zero, i.size, i.bytes)) = some (some (.float .f64 0), 1, 8) := by kernel_rfl
theorem info3 : (Ybad.prog.info? 3).map (fun i => (i.zero, i.size, i.bytes)) = some (some (.int .i64 0), 1, 8) := by kernel_rfl

/-- The names, the engine, the type. -/
structure EnvY (X : World) (nb eb yb sb n ncap : Nat) (T : Nat → ByteArray) : Prop where
  nm : ∀ i, i < n → X.cell? ⟨nb, i, none⟩ = some (.string (T i))
  e2 : X.cell? ⟨eb, 2, none⟩ = some (.int .i32 0)
  fe : X.frozen? ⟨eb, 2, none⟩ = false
  y0 : X.cell? ⟨yb, 0, none⟩ = some (.slice (some ⟨nb, 0, none⟩) n ncap)
  y6 : X.cell? ⟨yb, 6, none⟩ = some (.slice (some ⟨sb, 0, none⟩) n n)
  s0 : ∀ i, i < n → X.cell? ⟨sb, i, none⟩ = some (.int .u8 0)
  ord : 0 < nb ∧ nb < eb ∧ eb < yb ∧ eb < sb ∧ yb ≠ sb ∧ yb < X.heap.size ∧ sb < X.heap.size
theorem Off.frozen {P : Nat → Prop} {u v : World} (h : Off P u v) {b o : Nat} (hb : ¬ P b) (hlt : b < u.heap.size) (hf : u.frozen? ⟨b, o, none⟩ = false) : v.frozen? ⟨b, o, none⟩ = false := by
  rw [World.frozen?_of_block (w := u) (h.block b hlt hb)]; exact hf
theorem EnvY.off {P : Nat → Prop} {X X' : World} {nb eb yb sb n ncap : Nat} {T : Nat → ByteArray} (h : EnvY X nb eb yb sb n ncap T) (o : Off P X X') (h1 : ¬ P nb) (h2 : ¬ P eb) (h3 : ¬ P yb) (h4 : ¬ P sb) : EnvY X' nb eb yb sb n ncap T :=
  ⟨fun i hi => o.cell h1 (h.nm i hi), o.cell h2 h.e2, o.frozen h2 (World.block_lt_of_cell? _ _ h.e2) h.fe, o.cell h3 h.y0, o.cell h3 h.y6, fun i hi => o.cell h4 (h.s0 i hi), by have := h.ord; have := o.size; omega⟩

def engine : Obj := .cells #[.int .u64 0, .int .u64 0, .int .i32 0, .int .u32 0, .pointer none] 44
def typ8 (nb n ncap sb fb : Nat) : Obj := .cells #[.slice (some ⟨nb, 0, none⟩) n ncap, .slice none 0 0, .slice none 0 0, .slice none 0 0, .slice none 0 0, .slice none 0 0, .slice (some ⟨sb, 0, none⟩) n n, .slice (some ⟨fb, 0, none⟩) n n] 51

theorem Names.cell {w wc : World} {g cap n : Nat} {S : Nat → ByteArray} (h : Names w wc g cap n S) (i : Nat) (hi : i < n) : wc.cell? ⟨g, i, none⟩ = some (.string (S i)) := by
  have := h.own.cells (g := g) rfl i (.string (S i)) (by rw [List.getElem?_map, List.getElem?_range hi]; rfl)
  rw [Addr.add_lit, Nat.zero_add] at this
  exact this

theorem cell_new_at {w : World} {cs : Array Value} {t n o : Nat} {v : Value} (h : w.heap.size = n) (hv : cs[o]? = some v) : (w.alloc (.cells cs t)).cell? ⟨n, o, none⟩ = some v := by
  subst h
  rw [World.cell?_alloc_at _ _ _ _ rfl]; exact hv
theorem cell_grow {w : World} {o : Obj} {b i : Nat} {v : Value} (h : w.cell? ⟨b, i, none⟩ = some v) : (w.alloc o).cell? ⟨b, i, none⟩ = some v := ((Off.refl (fun _ => False) w).alloc o).cell id h

theorem envY_one {w V : World} {nb n ncap : Nat} {T : Nat → ByteArray} (hw : 0 < w.heap.size) (h : Names w V nb ncap n T) :
    EnvY ((((V.alloc engine).alloc (.cells (madeCells #[.int .u8 0] n) 61)).alloc (.cells (madeCells #[.float .f64 0] n) 160)).alloc (typ8 nb n ncap (V.heap.size + 1) (V.heap.size + 2))).drew nb V.heap.size (V.heap.size + 3) (V.heap.size + 1) n ncap T := by
  have hl := h.own.lt nb rfl
  refine ⟨fun i hi => cell_grow (cell_grow (cell_grow (cell_grow (h.cell i hi)))), cell_grow (cell_grow (cell_grow (cell_new_at rfl rfl))), ?_, cell_new_at (by simp [engine]) rfl, cell_new_at (by simp [engine]) rfl, fun i hi => cell_grow (cell_grow ?_), by simp [engine, typ8]; omega⟩
  · have e : (V.alloc engine).frozen? ⟨V.heap.size, 2, none⟩ = false := by rw [engine, World.frozen?_alloc_at _ _ _ _ rfl]
    exact ((((Off.refl (fun _ => False) _).alloc _).alloc _).alloc _).frozen id (by simp) e
  · have := (World.rowIs_made (V.alloc engine) (.int .u8 0) n 61).cell hi
    rw [show (V.alloc engine).heap.size = V.heap.size + 1 by simp] at this
    exact this
theorem envY_two {w V : World} {nb n ncap : Nat} {T : Nat → ByteArray} (hw : 0 < w.heap.size) (h : Names w V nb ncap n T) :
    EnvY ((((V.alloc engine).alloc (.cells (madeCells #[.float .f64 0] n) 160)).alloc (.cells (madeCells #[.int .u8 0] n) 61)).alloc (typ8 nb n ncap (V.heap.size + 2) (V.heap.size + 1))).drew nb V.heap.size (V.heap.size + 3) (V.heap.size + 2) n ncap T := by
  have hl := h.own.lt nb rfl
  refine ⟨fun i hi => cell_grow (cell_grow (cell_grow (cell_grow (h.cell i hi)))), cell_grow (cell_grow (cell_grow (cell_new_at rfl rfl))), ?_, cell_new_at (by simp [engine]) rfl, cell_new_at (by simp [engine]) rfl, fun i hi => cell_grow ?_, by simp [engine, typ8]; omega⟩
  · have e : (V.alloc engine).frozen? ⟨V.heap.size, 2, none⟩ = false := by rw [engine, World.frozen?_alloc_at _ _ _ _ rfl]
    exact ((((Off.refl (fun _ => False) _).alloc _).alloc _).alloc _).frozen id (by simp) e
  · have := (World.rowIs_made ((V.alloc engine).alloc (.cells (madeCells #[.float .f64 0] n) 160)) (.int .u8 0) n 61).cell hi
    rw [show ((V.alloc engine).alloc (.cells (madeCells #[.float .f64 0] n) 160)).heap.size = V.heap.size + 2 by simp] at this
    exact this
end Go.Proofs.YbulkdgjkDoor
