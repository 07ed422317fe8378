import Derived.Test.YbulkdgjkDoorLawA
namespace Go.Proofs.YbulkdgjkDoor
open Go.RowKit

def endfn (cb gb ib cc : Nat) : Value := .func (.func 5) #[] #[.pointer (some ⟨cb, 0, none⟩), .pointer (some ⟨gb, 0, none⟩), .pointer (some ⟨ib, 0, none⟩), .pointer (some ⟨cc, 0, none⟩)]
def oCells (eb yb : Nat) (obj : ByteArray) (fn : Value) (hp : Option Addr) : Array Value := #[.pointer (some ⟨eb, 0, none⟩), .int .u64 1, .string obj,
    .pointer (some ⟨yb, 0, none⟩), fn, .int .i32 0, .chan none, .slice none 0 0, .int .i64 0, .int .u8 0, .nilFunc, .pointer hp,
    .slice none 0 0, .int .u8 0, .bool false, .slice none 0 0, .pointer none, .pointer none, .map none, .pointer none, .nilIface, .slice none 0 0, .pointer none,
    .slice none 0 0, .string ⟨#[]⟩, .int .u64 0]
/-- The cells of an array as a function. -/
def cf (c : Array Value) (i : Nat) : Value := (c[i]?).getD undef
theorem cf_row (w : World) (c : Array Value) (t : Nat) : (w.alloc (.cells c t)).rowIs w.heap.size t c.size (cf c) :=
  World.rowIs_alloc w c t (cf c) (fun i hi => by unfold cf; rw [Array.getElem?_eq_getElem hi]; rfl)

/-- The object with its end function. -/
structure EnvO (X : World) (eb yb sb cb gb ib cc ob : Nat) (obj : ByteArray) (hp : Option Addr) : Prop where
  got : Got X cb gb ib cc 0 (.pointer none) .nilIface true
  o2 : X.cell? ⟨ob, 2, none⟩ = some (.string obj)
  o3 : X.cell? ⟨ob, 3, none⟩ = some (.pointer (some ⟨yb, 0, none⟩))
  o4 : X.cell? ⟨ob, 4, none⟩ = some (endfn cb gb ib cc)
  o11 : X.cell? ⟨ob, 11, none⟩ = some (.pointer hp)
  o11f : X.frozen? ⟨ob, 11, none⟩ = false
  ord : yb < cb ∧ sb < cb ∧ cb < gb ∧ gb < ib ∧ ib < cc ∧ cc < ob
theorem EnvO.off {P : Nat → Prop} {X X' : World} {eb yb sb cb gb ib cc ob : Nat} {obj : ByteArray} {hp : Option Addr} (h : EnvO X eb yb sb cb gb ib cc ob obj hp) (o : Off P X X') (h1 : ¬ P cb) (h2 : ¬ P gb) (h3 : ¬ P ib) (h4 : ¬ P cc) (h5 : ¬ P ob) : EnvO X' eb yb sb cb gb ib cc ob obj hp :=
  ⟨h.got.off o h1 h2 h3 h4, o.cell h5 h.o2, o.cell h5 h.o3, o.cell h5 h.o4, o.cell h5 h.o11, o.frozen h5 (World.block_lt_of_cell? _ _ h.o2) h.o11f, h.ord⟩

theorem row_one_new {w : World} {n t : Nat} (v : Value) (h : w.heap.size = n) : (w.alloc (.cells #[v] t)).rowIs n t 1 (fun _ => v) := by
  subst h
  exact World.rowIs_alloc w #[v] t (fun _ => v) (fun i hi => by
    have h0 : i = 0 := by simp at hi; omega
    subst h0; rfl)
theorem envO_made {V : World} {eb yb sb : Nat} {obj : ByteArray} (hy : yb < V.heap.size) (hs : sb < V.heap.size) :
    EnvO (((((V.alloc (.cells #[.int .i64 0] 3)).alloc (.cells #[.pointer none] 52)).alloc (.cells #[.nilIface] 20)).alloc (.cells #[.bool true] 4)).alloc
      (.cells (oCells eb yb obj (endfn V.heap.size (V.heap.size + 1) (V.heap.size + 1 + 1) (V.heap.size + 1 + 1 + 1)) none) 78)) eb yb sb V.heap.size (V.heap.size + 1) (V.heap.size + 1 + 1) (V.heap.size + 1 + 1 + 1) (V.heap.size + 1 + 1 + 1 + 1) obj none := by
  refine ⟨⟨?_, ?_, ?_, ?_⟩, ?_, ?_, ?_, ?_, ?_, by omega⟩
  · exact ((((row_one_new _ rfl).alloc _).alloc _).alloc _).alloc _
  · exact (((row_one_new _ (by simp)).alloc _).alloc _).alloc _
  · exact ((row_one_new _ (by simp)).alloc _).alloc _
  · exact (row_one_new _ (by simp)).alloc _
  · exact cell_new_at (by simp) rfl
  · exact cell_new_at (by simp) rfl
  · exact cell_new_at (by simp) rfl
  · exact cell_new_at (by simp) rfl
  · rw [World.frozen?_alloc_at _ _ _ _ (by simp)]

/-- The history's cells as it is made. -/
def HF0 (yb b1 b2 b3 n : Nat) : Nat → Value
  | 0 => .pointer (some ⟨yb, 0, none⟩)
  | 1 => .int .i64 1
  | 2 => .pointer none
  | 3 => .int .i32 0
  | 4 => .int .u32 0
  | 5 => .slice none 0 0
  | 6 => .int .i64 0
  | 7 => .slice (some ⟨b1, 0, none⟩) n n
  | 8 => .slice (some ⟨b2, 0, none⟩) n n
  | _ => .slice (some ⟨b3, 0, none⟩) n n
theorem hf0_choice {w : World} {hb yb b1 b2 b3 n : Nat} (ch : Nat) (h : w.rowIs hb 86 10 (HF0 yb b1 b2 b3 n)) :
    (w.setCell ⟨hb, 2, none⟩ (.pointer (some ⟨ch, 0, none⟩))).rowIs hb 86 10 (HF yb ch b1 b2 b3 n 0 (.slice none 0 0) 0) := by
  refine (h.set 2 _).congr ?_
  intro i hi
  have : i = 0 ∨ i = 1 ∨ i = 2 ∨ i = 3 ∨ i = 4 ∨ i = 5 ∨ i = 6 ∨ i = 7 ∨ i = 8 ∨ i = 9 := by omega
  rcases this with rfl | rfl | rfl | rfl | rfl | rfl | rfl | rfl | rfl | rfl <;> rfl
/-- The history as it is made. -/
structure HistA (V W : World) (hb yb b1 b2 b3 n : Nat) : Prop where
  off : Off (fun _ => False) V W
  row : W.rowIs hb 86 10 (HF0 yb b1 b2 b3 n)
  r1 : W.rowIs b1 3 n (fun _ => .int .i64 0)
  r2 : W.rowIs b2 3 n (fun _ => .int .i64 0)
  r3 : W.rowIs b3 3 n (fun _ => .int .i64 0)
  ord : V.heap.size ≤ b1 ∧ V.heap.size ≤ b2 ∧ V.heap.size ≤ b3 ∧ b1 < hb ∧ b2 < hb ∧ b3 < hb ∧ b1 ≠ b2 ∧ b1 ≠ b3 ∧ b2 ≠ b3
theorem row_made_new {w : World} {n m t : Nat} (v : Value) (h : w.heap.size = m) : (w.alloc (.cells (madeCells #[v] n) t)).rowIs m t n (fun _ => v) := by
  subst h; exact World.rowIs_made w v n t
theorem hist_made {V : World} {yb b1 b2 b3 n : Nat} (h1 : b1 = V.heap.size ∨ b1 = V.heap.size + 1 ∨ b1 = V.heap.size + 1 + 1) (h2 : b2 = V.heap.size ∨ b2 = V.heap.size + 1 ∨ b2 = V.heap.size + 1 + 1) (h3 : b3 = V.heap.size ∨ b3 = V.heap.size + 1 ∨ b3 = V.heap.size + 1 + 1)
    (n12 : b1 ≠ b2) (n13 : b1 ≠ b3) (n23 : b2 ≠ b3) :
    HistA V ((((V.alloc (.cells (madeCells #[.int .i64 0] n) 3)).alloc (.cells (madeCells #[.int .i64 0] n) 3)).alloc (.cells (madeCells #[.int .i64 0] n) 3)).alloc
      (.cells #[.pointer (some ⟨yb, 0, none⟩), .int .i64 1, .pointer none, .int .i32 0, .int .u32 0, .slice none 0 0, .int .i64 0, .slice (some ⟨b1, 0, none⟩) n n, .slice (some ⟨b2, 0, none⟩) n n, .slice (some ⟨b3, 0, none⟩) n n] 86)).drew
      (V.heap.size + 1 + 1 + 1) yb b1 b2 b3 n := by
  have q0 : (((V.alloc (.cells (madeCells #[.int .i64 0] n) 3)).alloc (.cells (madeCells #[.int .i64 0] n) 3)).alloc (.cells (madeCells #[.int .i64 0] n) 3)).rowIs V.heap.size 3 n (fun _ => .int .i64 0) := ((row_made_new _ rfl).alloc _).alloc _
  have q1 : (((V.alloc (.cells (madeCells #[.int .i64 0] n) 3)).alloc (.cells (madeCells #[.int .i64 0] n) 3)).alloc (.cells (madeCells #[.int .i64 0] n) 3)).rowIs (V.heap.size + 1) 3 n (fun _ => .int .i64 0) := (row_made_new _ (by simp)).alloc _
  have q2 : (((V.alloc (.cells (madeCells #[.int .i64 0] n) 3)).alloc (.cells (madeCells #[.int .i64 0] n) 3)).alloc (.cells (madeCells #[.int .i64 0] n) 3)).rowIs (V.heap.size + 1 + 1) 3 n (fun _ => .int .i64 0) := row_made_new _ (by simp)
  have q : ∀ b, b = V.heap.size ∨ b = V.heap.size + 1 ∨ b = V.heap.size + 1 + 1 → (((V.alloc (.cells (madeCells #[.int .i64 0] n) 3)).alloc (.cells (madeCells #[.int .i64 0] n) 3)).alloc (.cells (madeCells #[.int .i64 0] n) 3)).rowIs b 3 n (fun _ => .int .i64 0) := by
    rintro b (rfl | rfl | rfl)
    · exact q0
    · exact q1
    · exact q2
  obtain ⟨W, hW⟩ : ∃ W, W = ((V.alloc (.cells (madeCells #[.int .i64 0] n) 3)).alloc (.cells (madeCells #[.int .i64 0] n) 3)).alloc (.cells (madeCells #[.int .i64 0] n) 3) := ⟨_, rfl⟩
  have hs : W.heap.size = V.heap.size + 1 + 1 + 1 := by rw [hW]; simp
  have hof : Off (fun _ => False) V W := by rw [hW]; exact (((Off.refl _ _).alloc _).alloc _).alloc _
  rw [← hW] at q ⊢
  refine ⟨(hof.alloc _).drew, ?_, ((q b1 h1).alloc _).drew, ((q b2 h2).alloc _).drew, ((q b3 h3).alloc _).drew, by omega⟩
  rw [← hs]
  refine World.rowIs.drew (World.rowIs_alloc W #[.pointer (some ⟨yb, 0, none⟩), .int .i64 1, .pointer none, .int .i32 0, .int .u32 0, .slice none 0 0, .int .i64 0, .slice (some ⟨b1, 0, none⟩) n n, .slice (some ⟨b2, 0, none⟩) n n, .slice (some ⟨b3, 0, none⟩) n n] 86 (HF0 yb b1 b2 b3 n) ?_)
  intro i hi
  have : i = 0 ∨ i = 1 ∨ i = 2 ∨ i = 3 ∨ i = 4 ∨ i = 5 ∨ i = 6 ∨ i = 7 ∨ i = 8 ∨ i = 9 := by simp at hi; omega
  rcases this with rfl | rfl | rfl | rfl | rfl | rfl | rfl | rfl | rfl | rfl <;> rfl

/-- The stage behind the history. -/
structure EnvH (X : World) (eb yb sb cb gb ib cc ob hb ch b1 b2 b3 n : Nat) (obj : ByteArray) (hist : Bool) : Prop where
  o : EnvO X eb yb sb cb gb ib cc ob obj (if hist then some ⟨hb, 0, none⟩ else none)
  h : hist = true → HistIn X hb yb ch b1 b2 b3 sb n
  ord : hist = true → ob < hb ∧ ob < b1 ∧ ob < b2 ∧ ob < b3 ∧ hb < ch ∧ b1 < ch ∧ b2 < ch ∧ b3 < ch ∧ hb ≠ b1 ∧ hb ≠ b2 ∧ hb ≠ b3 ∧ b1 ≠ b2 ∧ b1 ≠ b3 ∧ b2 ≠ b3

/-- The history linked to the object. -/
theorem envH_link {w V W : World} {nb eb yb sb cb gb ib cc ob hb b1 b2 b3 n ncap : Nat} {obj : ByteArray} {T : Nat → ByteArray} (hwo : w.heap.size ≤ nb) (hw : Off (fun _ => False) w V) (y : EnvY V nb eb yb sb n ncap T) (o : EnvO V eb yb sb cb gb ib cc ob obj none) (a : HistA V W hb yb b1 b2 b3 n) :
    Off (fun _ => False) w (((W.setCell ⟨hb, 2, none⟩ (.pointer (some ⟨W.heap.size, 0, none⟩))).setCell ⟨ob, 11, none⟩ (.pointer (some ⟨hb, 0, none⟩))).alloc (.cells #[.bool false, .bool false, .bool false, .int .u64 0] 90)) ∧
    EnvY (((W.setCell ⟨hb, 2, none⟩ (.pointer (some ⟨W.heap.size, 0, none⟩))).setCell ⟨ob, 11, none⟩ (.pointer (some ⟨hb, 0, none⟩))).alloc (.cells #[.bool false, .bool false, .bool false, .int .u64 0] 90)) nb eb yb sb n ncap T ∧
    EnvH (((W.setCell ⟨hb, 2, none⟩ (.pointer (some ⟨W.heap.size, 0, none⟩))).setCell ⟨ob, 11, none⟩ (.pointer (some ⟨hb, 0, none⟩))).alloc (.cells #[.bool false, .bool false, .bool false, .int .u64 0] 90)) eb yb sb cb gb ib cc ob hb W.heap.size b1 b2 b3 n obj true := by
  have oy := y.ord
  have oo := o.ord
  have oa := a.ord
  have lob : ob < V.heap.size := World.block_lt_of_cell? V _ o.o2
  have lhb := a.row.lt
  have lb1 := a.r1.lt
  have yW := y.off a.off id id id id
  have oW := o.off a.off id id id id id
  have O : Off (fun b => b = hb ∨ b = ob) W (((W.setCell ⟨hb, 2, none⟩ (.pointer (some ⟨W.heap.size, 0, none⟩))).setCell ⟨ob, 11, none⟩ (.pointer (some ⟨hb, 0, none⟩))).alloc (.cells #[.bool false, .bool false, .bool false, .int .u64 0] 90)) :=
    (((Off.refl _ _).setCell _ _ (.inl (.inl rfl))).setCell _ _ (.inl (.inr rfl))).alloc _
  have yX := yW.off O (by omega) (by omega) (by omega) (by omega)
  have hne : hb ≠ ob := by omega
  have oc : ∀ {k : Nat} {v : Value}, k ≠ 11 → W.cell? ⟨ob, k, none⟩ = some v → (((W.setCell ⟨hb, 2, none⟩ (.pointer (some ⟨W.heap.size, 0, none⟩))).setCell ⟨ob, 11, none⟩ (.pointer (some ⟨hb, 0, none⟩))).alloc (.cells #[.bool false, .bool false, .bool false, .int .u64 0] 90)).cell? ⟨ob, k, none⟩ = some v := by
    intro k v hk hv
    refine cell_grow ?_
    rw [World.cell?_setCell_other _ _ _ _ (fun e => hk (congrArg Addr.off e).symm), World.cell?_setCell_far _ _ _ _ (by simpa using hne)]
    exact hv
  refine ⟨(((hw.trans a.off).setCell _ _ (.inr (by show w.heap.size ≤ hb; have := hw.size; omega))).setCell _ _ (.inr (by show w.heap.size ≤ ob; omega))).alloc _, yX, ?_, ?_, ?_⟩
  · refine ⟨oW.got.off O (by omega) (by omega) (by omega) (by omega), oc (by omega) oW.o2, oc (by omega) oW.o3, oc (by omega) oW.o4, ?_, ?_, oo⟩
    · refine cell_grow ?_
      exact World.cell?_setCell_same _ _ _ (by rw [World.cell?_setCell_far _ _ _ _ (by simpa using hne)]; exact oW.o11)
    · rw [World.frozen?_alloc_past _ _ _ (by simp; have := a.off.size; omega)]
      simpa using oW.o11f
  · intro _
    have ne1 : b1 ≠ hb := by omega
    have ne2 : b2 ≠ hb := by omega
    have ne3 : b3 ≠ hb := by omega
    refine ⟨((hf0_choice W.heap.size a.row).setOther (a := ⟨ob, 11, none⟩) hne _).alloc _, O.row (by omega) a.r1, O.row (by omega) a.r2, O.row (by omega) a.r3, yX.y6, yX.s0, ?_⟩
    have := World.rowIs_alloc ((W.setCell ⟨hb, 2, none⟩ (.pointer (some ⟨W.heap.size, 0, none⟩))).setCell ⟨ob, 11, none⟩ (.pointer (some ⟨hb, 0, none⟩))) #[.bool false, .bool false, .bool false, .int .u64 0] 90 (NF 0) (by
      intro i hi
      have : i = 0 ∨ i = 1 ∨ i = 2 ∨ i = 3 := by simp at hi; omega
      rcases this with rfl | rfl | rfl | rfl <;> rfl)
    rw [show ((W.setCell ⟨hb, 2, none⟩ (.pointer (some ⟨W.heap.size, 0, none⟩))).setCell ⟨ob, 11, none⟩ (.pointer (some ⟨hb, 0, none⟩))).heap.size = W.heap.size by simp] at this
    exact this
  · intro _
    omega
theorem EnvH.off {P : Nat → Prop} {X X' : World} {eb yb sb cb gb ib cc ob hb ch b1 b2 b3 n : Nat} {obj : ByteArray} {hist : Bool} (h : EnvH X eb yb sb cb gb ib cc ob hb ch b1 b2 b3 n obj hist) (o : Off P X X') (h1 : ¬ P cb) (h2 : ¬ P gb) (h3 : ¬ P ib) (h4 : ¬ P cc) (h5 : ¬ P ob) (hy : ¬ P yb) (hs : ¬ P sb)
    (h6 : hist = true → ¬ P hb ∧ ¬ P ch ∧ ¬ P b1 ∧ ¬ P b2 ∧ ¬ P b3) : EnvH X' eb yb sb cb gb ib cc ob hb ch b1 b2 b3 n obj hist :=
  ⟨h.o.off o h1 h2 h3 h4 h5, fun e => (h.h e).off o (h6 e).1 hy (h6 e).2.1 (h6 e).2.2.1 (h6 e).2.2.2.1 (h6 e).2.2.2.2 hs, h.ord⟩
end Go.Proofs.YbulkdgjkDoor
