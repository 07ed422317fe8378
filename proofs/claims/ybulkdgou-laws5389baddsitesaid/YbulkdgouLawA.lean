import Derived.Test.YbulkdgouAdd
namespace Go.Proofs.Ybulkdgou
open Go.RowKit
namespace SortA

theorem info_parts6 {P : Program} {e : TypeId} {z : Value} {s b : Nat} (h : (P.info? e).map (fun i => (i.zero, i.size, i.bytes)) = some (some z, s, b)) : ∃ i, P.info? e = some i ∧ i.zero = some z ∧ i.size = s ∧ i.bytes = b := by
  cases hi : P.info? e with
  | none => rw [hi] at h; simp at h
  | some i => rw [hi] at h; simp at h; exact ⟨i, rfl, h.1, h.2.1, h.2.2⟩
theorem info41 : (Yba.prog.info? 41).map (fun i => (i.zero, i.size, i.bytes)) = some (some (.agg #[.slice none 0 0, .string ByteArray.empty, .int .i64 0, .slice none 0 0, .int .i64 0, .string ByteArray.empty]), 6, 96) := by kernel_rfl
theorem info44 : (Yba.prog.info? 44).map (fun i => (i.zero, i.size, i.bytes)) = some (some (.agg #[.int .i64 0, .int .i64 0]), 2, 16) := by kernel_rfl
theorem info62 : (Yba.prog.info? 62).map (fun i => (i.zero, i.size, i.bytes)) = some (some (.agg #[.slice none 0 0, .slice none 0 0, .map none, .slice none 0 0]), 4, 80) := by kernel_rfl
theorem info4 : (Yba.prog.info? 4).map (fun i => (i.zero, i.size, i.bytes)) = some (some (.bool false), 1, 1) := by kernel_rfl
theorem run_mk41 (k : Nat) (h : k ≤ 256) (w : World) :
    (Instr.makeSlice 35 (.int .i64 (k : Int)) (.int .i64 (k : Int))).run Yba.prog w = .ok (.slice (some ⟨w.heap.size, 0, none⟩) k k) (w.alloc (.cells (madeCells #[.slice none 0 0, .string ByteArray.empty, .int .i64 0, .slice none 0 0, .int .i64 0, .string ByteArray.empty] (k * 6)) 41)) := by
  obtain ⟨i, hi, hz, hs, hb⟩ := info_parts6 info41
  have := run_make (P := Yba.prog) w 35 41 i _ Yba.underlying35 hi hz .i64 .i64 k k (by omega) (by omega) (by rw [hb]; omega) (by omega)
  simp only [Int.toNat_natCast, hs] at this
  exact this
theorem run_mk44 (k : Nat) (h : k ≤ 1024) (w : World) :
    (Instr.makeSlice 43 (.int .i64 (k : Int)) (.int .i64 (k : Int))).run Yba.prog w = .ok (.slice (some ⟨w.heap.size, 0, none⟩) k k) (w.alloc (.cells (madeCells #[.int .i64 0, .int .i64 0] (k * 2)) 44)) := by
  obtain ⟨i, hi, hz, hs, hb⟩ := info_parts6 info44
  have := run_make (P := Yba.prog) w 43 44 i _ Yba.underlying43 hi hz .i64 .i64 k k (by omega) (by omega) (by rw [hb]; omega) (by omega)
  simp only [Int.toNat_natCast, hs] at this
  exact this
theorem run_mk62 (w : World) :
    (Instr.makeSlice 47 (.int .i64 3) (.int .i64 3)).run Yba.prog w = .ok (.slice (some ⟨w.heap.size, 0, none⟩) 3 3) (w.alloc (.cells (madeCells #[.slice none 0 0, .slice none 0 0, .map none, .slice none 0 0] 12) 62)) := by
  obtain ⟨i, hi, hz, hs, hb⟩ := info_parts6 info62
  have := run_make (P := Yba.prog) w 47 62 i _ Yba.underlying47 hi hz .i64 .i64 3 3 (by omega) (by omega) (by rw [hb]; omega) (by omega)
  rw [hs] at this
  exact this

/-- A member's cells at the start, and laid. -/
def z6 : Nat → Value
  | 0 => .slice none 0 0 | 1 => .string ByteArray.empty | 2 => .int .i64 0 | 3 => .slice none 0 0 | 4 => .int .i64 0 | _ => .string ByteArray.empty
def at6 (zv : Value) (m : Nat) : Nat → Value
  | 3 => zv | 4 => .int .i64 (m : Int) | r => z6 r
theorem row6_made (w : World) (k : Nat) : (w.alloc (.cells (madeCells #[.slice none 0 0, .string ByteArray.empty, .int .i64 0, .slice none 0 0, .int .i64 0, .string ByteArray.empty] (k * 6)) 41)).rowIs w.heap.size 41 (k * 6) (fun o => z6 (o % 6)) := by
  refine ⟨_, Go.Deep.blk_alloc_new _ _, by rw [size_madeCells], fun i hi => ?_⟩
  have h6 : i % 6 = 0 ∨ i % 6 = 1 ∨ i % 6 = 2 ∨ i % 6 = 3 ∨ i % 6 = 4 ∨ i % 6 = 5 := by omega
  simp only [madeCells]
  simp [hi]
  rcases h6 with e | e | e | e | e | e <;> simp [e, z6]
/-- The members' row, the first i laid. -/
def MR (zv : Nat → Value) (M : Nat → Nat) (i o : Nat) : Value := if o / 6 < i then at6 (zv (o / 6)) (M (o / 6)) (o % 6) else z6 (o % 6)
theorem mr_zero {w : World} {B n i r : Nat} {zv : Nat → Value} {M : Nat → Nat} (h : w.rowIs B 41 (n * 6) (MR zv M i)) (hi : i < n) (hr : r < 6) : w.cell? ⟨B, i * 6 + r, none⟩ = some (z6 r) := by
  rw [h.cell (by omega), MR, show (i * 6 + r) / 6 = i by omega, show (i * 6 + r) % 6 = r by omega, if_neg (by omega)]
theorem mr_next {w : World} {B n i : Nat} {zv : Nat → Value} {M : Nat → Nat} (h : w.rowIs B 41 (n * 6) (MR zv M i)) (v : Value) :
    ((((((w.setCell ⟨B, i * 6, none⟩ (.slice none 0 0)).setCell ⟨B, i * 6 + 1, none⟩ (.string ByteArray.empty)).setCell ⟨B, i * 6 + 2, none⟩ (.int .i64 0)).setCell ⟨B, i * 6 + 3, none⟩ v).setCell ⟨B, i * 6 + 4, none⟩ (.int .i64 (M i : Int))).setCell ⟨B, i * 6 + 5, none⟩ (.string ByteArray.empty)).rowIs B 41 (n * 6) (MR (fun x => if x = i then v else zv x) M (i + 1)) := by
  have h6 := (((((h.set (i * 6) (.slice none 0 0)).set (i * 6 + 1) (.string ByteArray.empty)).set (i * 6 + 2) (.int .i64 0)).set (i * 6 + 3) v).set (i * 6 + 4) (.int .i64 (M i : Int))).set (i * 6 + 5) (.string ByteArray.empty)
  refine h6.congr fun o _ => ?_
  by_cases hk : o / 6 = i
  · have hm : o % 6 < 6 := Nat.mod_lt _ (by omega)
    have ho : o = i * 6 + o % 6 := by omega
    have e1 : MR (fun x => if x = i then v else zv x) M (i + 1) o = at6 v (M i) (o % 6) := by
      unfold MR
      rw [if_pos (by omega), hk]
      simp
    rw [e1]
    generalize o % 6 = m at hm ho
    subst ho
    match m, hm with
    | 0, _ => simp [at6, z6]
    | 1, _ => simp [at6, z6]
    | 2, _ => simp [at6, z6]
    | 3, _ => simp [at6]
    | 4, _ => simp [at6]
    | 5, _ => simp [at6, z6]
  · rw [if_neg (by omega), if_neg (by omega), if_neg (by omega), if_neg (by omega), if_neg (by omega), if_neg (by omega)]
    unfold MR
    by_cases h2 : o / 6 < i
    · rw [if_pos h2, if_pos (by omega)]
      show _ = at6 (if o / 6 = i then v else zv (o / 6)) _ _
      rw [if_neg hk]
    · rw [if_neg h2, if_neg (by omega)]

/-- The state of the law's first loop. -/
structure L1 (w : World) (n : Nat) (M : Nat → Nat) (i : Nat) (zp : Nat → Option Addr) (zl zc : Nat → Nat) (wr : World) : Prop where
  bel : Below w.heap.size w wr
  row : wr.rowIs w.heap.size 41 (n * 6) (MR (fun x => .slice (zp x) (zl x) (zc x)) M i)
  zn : ∀ x, x < i → Zn wr.heap.size wr (zp x) (zl x) (zc x) (M x)
  lo : ∀ x zb, x < i → zp x = some ⟨zb, 0, none⟩ → w.heap.size < zb
theorem L1.start (w : World) (n : Nat) (M : Nat → Nat) : L1 w n M 0 (fun _ => none) (fun _ => 0) (fun _ => 0) (w.alloc (.cells (madeCells #[.slice none 0 0, .string ByteArray.empty, .int .i64 0, .slice none 0 0, .int .i64 0, .string ByteArray.empty] (n * 6)) 41)) :=
  ⟨(Below.refl _ _).alloc (Nat.le_refl _) _, (row6_made w n).congr fun o _ => by unfold MR; rw [if_neg (by omega)], fun x hx => by omega, fun x _ hx => by omega⟩
theorem zn_of_zg {w w' : World} {v : Value} {mask : Nat} (h : Zg w w' v (zlist mask 8)) : ∃ zp zl zc, v = .slice zp zl zc ∧ Zn w'.heap.size w' zp zl zc mask ∧ ∀ zb, zp = some ⟨zb, 0, none⟩ → w.heap.size ≤ zb := by
  by_cases h0 : zlist mask 8 = []
  · refine ⟨none, 0, 0, h.nil h0, ⟨by rw [h0]; rfl, fun _ => ⟨rfl, rfl⟩, ⟨fun h => by omega, fun i j _ hj => by omega, by omega⟩, fun zb e => by cases e⟩, fun zb e => by cases e⟩
  · have hpos : 0 < (zlist mask 8).length := List.length_pos_iff.2 h0
    obtain ⟨g, cap, e, h1, h2⟩ := h.own.form hpos
    have hown := h.own
    rw [e] at hown
    obtain ⟨hp, _, _⟩ := prow_of_owns rfl hown
    have h8 := zlist_len mask 8
    refine ⟨some ⟨g, 0, none⟩, _, cap, e, ⟨rfl, fun h => by omega, ⟨fun _ => ⟨g, rfl, fun i hi => hp.cell hi⟩, zlist_asc mask 8, by omega⟩, fun zb e => ?_⟩, fun zb e => ?_⟩
    · simp at e; omega
    · simp at e; omega
theorem L1.next {w wr W : World} {n i : Nat} {M : Nat → Nat} {zp : Nat → Option Addr} {zl zc : Nat → Nat} (h : L1 w n M i zp zl zc wr) (hi : i < n) {v : Value} (hz : Zg wr W v (zlist (M i) 8)) :
    ∃ zp' zl' zc', L1 w n M (i + 1) zp' zl' zc' ((((((W.setCell ⟨w.heap.size, i * 6, none⟩ (.slice none 0 0)).setCell ⟨w.heap.size, i * 6 + 1, none⟩ (.string ByteArray.empty)).setCell ⟨w.heap.size, i * 6 + 2, none⟩ (.int .i64 0)).setCell ⟨w.heap.size, i * 6 + 3, none⟩ v).setCell ⟨w.heap.size, i * 6 + 4, none⟩ (.int .i64 (M i : Int))).setCell ⟨w.heap.size, i * 6 + 5, none⟩ (.string ByteArray.empty)) := by
  obtain ⟨zp1, zl1, zc1, rfl, hzn, hlo⟩ := zn_of_zg hz
  have hlt := h.row.lt
  have hrowW : W.rowIs w.heap.size 41 (n * 6) _ := h.row.of_block (hz.below.block _ hlt)
  have hbut : Below (w.heap.size + 1) (W) W := Below.refl _ _
  refine ⟨fun x => if x = i then zp1 else zp x, fun x => if x = i then zl1 else zl x, fun x => if x = i then zc1 else zc x, ?_, ?_, ?_, ?_⟩
  · exact ((((((h.bel.trans (hz.below.mono (Nat.le_of_lt hlt))).setCell (p := ⟨w.heap.size, i * 6, none⟩) (Nat.le_refl _) _).setCell (p := ⟨w.heap.size, i * 6 + 1, none⟩) (Nat.le_refl _) _).setCell (p := ⟨w.heap.size, i * 6 + 2, none⟩) (Nat.le_refl _) _).setCell (p := ⟨w.heap.size, i * 6 + 3, none⟩) (Nat.le_refl _) _).setCell (p := ⟨w.heap.size, i * 6 + 4, none⟩) (Nat.le_refl _) _).setCell (p := ⟨w.heap.size, i * 6 + 5, none⟩) (Nat.le_refl _) _
  · refine (mr_next hrowW (.slice zp1 zl1 zc1)).congr fun o _ => ?_
    unfold MR
    by_cases h1 : o / 6 < i + 1
    · rw [if_pos h1, if_pos h1]
      by_cases e : o / 6 = i
      · simp [e]
      · simp [e]
    · rw [if_neg h1, if_neg h1]
  · have hb : ∀ b, b ≠ w.heap.size → ((((((W.setCell ⟨w.heap.size, i * 6, none⟩ (.slice none 0 0)).setCell ⟨w.heap.size, i * 6 + 1, none⟩ (.string ByteArray.empty)).setCell ⟨w.heap.size, i * 6 + 2, none⟩ (.int .i64 0)).setCell ⟨w.heap.size, i * 6 + 3, none⟩ (.slice zp1 zl1 zc1)).setCell ⟨w.heap.size, i * 6 + 4, none⟩ (.int .i64 (M i : Int))).setCell ⟨w.heap.size, i * 6 + 5, none⟩ (.string ByteArray.empty)).heap[b]? = W.heap[b]? := fun b hb => by
      rw [Below.heap_setCell _ _ _ _ hb, Below.heap_setCell _ _ _ _ hb, Below.heap_setCell _ _ _ _ hb, Below.heap_setCell _ _ _ _ hb, Below.heap_setCell _ _ _ _ hb, Below.heap_setCell _ _ _ _ hb]
    have hsz : ((((((W.setCell ⟨w.heap.size, i * 6, none⟩ (.slice none 0 0)).setCell ⟨w.heap.size, i * 6 + 1, none⟩ (.string ByteArray.empty)).setCell ⟨w.heap.size, i * 6 + 2, none⟩ (.int .i64 0)).setCell ⟨w.heap.size, i * 6 + 3, none⟩ (.slice zp1 zl1 zc1)).setCell ⟨w.heap.size, i * 6 + 4, none⟩ (.int .i64 (M i : Int))).setCell ⟨w.heap.size, i * 6 + 5, none⟩ (.string ByteArray.empty)).heap.size = W.heap.size := by simp
    have hws := hz.below.size
    intro x hx
    rw [hsz]
    by_cases e : x = i
    · subst e
      simp only [if_true]
      refine ⟨hzn.len, hzn.nil, ⟨fun h0 => ?_, hzn.zs.asc, hzn.zs.len⟩, hzn.lt⟩
      obtain ⟨zb, e, hc⟩ := hzn.zs.cells h0
      exact ⟨zb, e, fun j hj => (World.cell?_of_block (a := ⟨zb, j, none⟩) (hb zb (by have := hlo zb e; omega))).trans (hc j hj)⟩
    · simp only [if_neg e]
      have hzx := h.zn x (by omega)
      refine ⟨hzx.len, hzx.nil, ⟨fun h0 => ?_, hzx.zs.asc, hzx.zs.len⟩, fun zb e => by have := hzx.lt zb e; omega⟩
      obtain ⟨zb, e2, hc⟩ := hzx.zs.cells h0
      exact ⟨zb, e2, fun j hj => (World.cell?_of_block (a := ⟨zb, j, none⟩) ((hb zb (by have := h.lo x zb (by omega) e2; omega)).trans (hz.below.block zb (hzx.lt zb e2)))).trans (hc j hj)⟩
  · intro x zb hx e
    by_cases e1 : x = i
    · simp only [if_pos e1] at e
      have := hlo zb e
      omega
    · simp only [if_neg e1] at e
      exact h.lo x zb (by omega) e

/-- The members picked, each once. -/
def ord (n : Nat) (P : Nat → Nat) : Nat → List Nat
  | 0 => []
  | i + 1 => if P i % n ∈ ord n P i then ord n P i else ord n P i ++ [P i % n]
theorem ord_lt (n : Nat) (P : Nat → Nat) (hn : 1 ≤ n) : ∀ i, ∀ x ∈ ord n P i, x < n := by
  intro i
  induction i with
  | zero => intro x hx; cases hx
  | succ i ih =>
    intro x hx
    unfold ord at hx
    split at hx
    · exact ih x hx
    · rcases List.mem_append.1 hx with hx | hx
      · exact ih x hx
      · simp at hx; rw [hx]; exact Nat.mod_lt _ (by omega)
theorem ord_nodup (n : Nat) (P : Nat → Nat) : ∀ i, (ord n P i).Nodup := by
  intro i
  induction i with
  | zero => exact List.nodup_nil
  | succ i ih =>
    unfold ord
    split
    · exact ih
    · rename_i h
      rw [List.nodup_append]
      refine ⟨ih, by simp, ?_⟩
      intro a ha b hb e
      simp at hb
      exact h (by rw [← hb, ← e]; exact ha)
theorem nodup_len : ∀ {n : Nat} {l : List Nat}, l.Nodup → (∀ x ∈ l, x < n) → l.length ≤ n := by
  intro n
  induction n with
  | zero =>
    intro l _ hl
    cases l with
    | nil => exact Nat.le_refl _
    | cons x l => exact absurd (hl x (by simp)) (by omega)
  | succ n ih =>
    intro l hd hl
    have h1 : (l.erase n).length ≤ n := ih (hd.erase n) (fun x hx => by
      have h2 := (hd.mem_erase_iff.1 hx)
      have := hl x h2.2
      have := h2.1
      omega)
    rw [List.length_erase] at h1
    split at h1 <;> omega
/-- The state of the law's second loop. -/
structure L2 (V : World) (n : Nat) (P : Nat → Nat) (i : Nat) (s13 : Value) (wr : World) : Prop where
  bel : Below V.heap.size V wr
  seen : wr.rowIs V.heap.size 4 n (fun x => .bool (decide (x ∈ ord n P i)))
  own : wr.ownsRow (V.heap.size + 1) 3 1 s13 (ord n P i).length ((ord n P i).map fun (z : Nat) => Value.int .i64 (z : Int))
theorem L2.start (V : World) (n : Nat) (P : Nat → Nat) : L2 V n P 0 (.slice none 0 0) (V.alloc (.cells (madeCells #[.bool false] n) 4)) :=
  ⟨(Below.refl _ _).alloc (Nat.le_refl _) _, (World.rowIs_made V (.bool false) n 4).congr fun x _ => by simp [ord], World.ownsRow_nil _ _ _ _⟩
theorem L2.skip {V wr : World} {n i : Nat} {P : Nat → Nat} {s13 : Value} (h : L2 V n P i s13 wr) (hm : P i % n ∈ ord n P i) : L2 V n P (i + 1) s13 wr := by
  have e : ord n P (i + 1) = ord n P i := by show (if _ then _ else _) = _; rw [if_pos hm]
  exact ⟨h.bel, by rw [e]; exact h.seen, by rw [e]; exact h.own⟩
theorem L2.take {V wr w7 : World} {n i m g cap : Nat} {P : Nat → Nat} {s13 : Value} {o : Obj} (h : L2 V n P i s13 wr) (hm : P i % n = m) (hn : ¬ P i % n ∈ ord n P i) (hg : ((wr.setCell ⟨V.heap.size, m, none⟩ (.bool true)).alloc o).grownBy w7 s13.ownBlock)
    (hown : w7.ownsRow (V.heap.size + 1) 3 1 (.slice (some ⟨g, 0, none⟩) ((ord n P i).length + 1) cap) ((ord n P i).length + 1) (((ord n P i).map fun (z : Nat) => Value.int .i64 (z : Int)) ++ [.int .i64 (m : Int)])) :
    L2 V n P (i + 1) (.slice (some ⟨g, 0, none⟩) ((ord n P i).length + 1) cap) w7 := by
  have e : ord n P (i + 1) = ord n P i ++ [m] := by show (if _ then _ else _) = _; rw [if_neg hn, hm]
  have hlt := h.seen.lt
  have hb0 : ∀ k, s13.ownBlock = some k → V.heap.size + 1 ≤ k := fun k hk => (h.own.lt k hk).1
  refine ⟨((h.bel.setCell (Nat.le_refl _) _).alloc (by simp; omega) _).grown hg (by simp; omega) (fun k hk => by have := hb0 k hk; omega), ?_, by rw [e, List.length_append, List.map_append]; exact hown⟩
  have h1 := ((h.seen.set m (.bool true)).alloc o).of_block (hg.block _ (by simp; omega) (fun e => by have := hb0 _ e.symm; omega))
  refine h1.congr fun x _ => ?_
  rw [e]
  by_cases ex : x = m
  · subst ex; simp
  · simp [ex]
/-- .. behind it: the members attached, at least one. -/
structure L3 (V : World) (n : Nat) (O : List Nat) (s13 : Value) (wr : World) : Prop where
  bel : Below V.heap.size V wr
  seen : wr.rowIs V.heap.size 4 n (fun x => .bool (decide (x ∈ O)))
  own : wr.ownsRow (V.heap.size + 1) 3 1 s13 O.length (O.map fun (z : Nat) => Value.int .i64 (z : Int))
  pos : 0 < O.length
  lt : ∀ x ∈ O, x < n
  nd : O.Nodup
/-- The attached rows, the first i laid. -/
def AR (id : Nat) (o : Nat → Nat) (i k : Nat) : Value := if k / 2 < i then (if k % 2 = 0 then .int .i64 (id : Int) else .int .i64 (o (k / 2) : Int)) else .int .i64 0
theorem ar_made (w : World) (k id : Nat) (o : Nat → Nat) : (w.alloc (.cells (madeCells #[.int .i64 0, .int .i64 0] (k * 2)) 44)).rowIs w.heap.size 44 (k * 2) (AR id o 0) := by
  refine ⟨_, Go.Deep.blk_alloc_new _ _, by rw [size_madeCells], fun i hi => ?_⟩
  have h2 : i % 2 = 0 ∨ i % 2 = 1 := by omega
  simp only [madeCells]
  simp [hi, AR]
  rcases h2 with e | e <;> simp [e]
theorem ar_next {w : World} {B n i id : Nat} {o : Nat → Nat} (h : w.rowIs B 44 (n * 2) (AR id o i)) : ((w.setCell ⟨B, i * 2, none⟩ (.int .i64 (id : Int))).setCell ⟨B, i * 2 + 1, none⟩ (.int .i64 (o i : Int))).rowIs B 44 (n * 2) (AR id o (i + 1)) := by
  refine ((h.set _ _).set _ _).congr fun k _ => ?_
  show (if k = i * 2 + 1 then _ else if k = i * 2 then _ else AR id o i k) = _
  unfold AR
  by_cases h1 : k = i * 2 + 1
  · rw [if_pos h1, if_pos (by omega), if_neg (by omega), show k / 2 = i by omega]
  · rw [if_neg h1]
    by_cases h2 : k = i * 2
    · rw [if_pos h2, if_pos (by omega), if_pos (by omega)]
    · rw [if_neg h2]
      by_cases h3 : k / 2 < i
      · have h4 : k / 2 < i + 1 := by omega
        simp only [h3, h4, if_true]
      · rw [if_neg h3, if_neg (by omega)]
theorem ar_zero {w : World} {B n i r id : Nat} {o : Nat → Nat} (h : w.rowIs B 44 (n * 2) (AR id o i)) (hi : i < n) (hr : r < 2) : w.cell? ⟨B, i * 2 + r, none⟩ = some (.int .i64 0) := by
  rw [h.cell (by omega), AR, if_neg (by omega)]
end SortA
end Go.Proofs.Ybulkdgou
