import Derived.Test.YbulkdgouFrame
namespace Go.Proofs.Ybulkdgou
open Go.RowKit
attribute [local go_sem ↓] Go.wp_at_zero Go.wp_at_succ
namespace SortA

/-- Where member x is attached, behind i rounds. -/
def lst (c : Cf) (i x : Nat) : List Nat := (x % 3 + 10) :: (if (List.range i).any (fun j => c.o j == x) then [c.id] else [])
theorem lst_len (c : Cf) (i x : Nat) : (lst c i x).length ≤ 2 := by unfold lst; split <;> simp
theorem lst_other (c : Cf) (i x : Nat) (h : c.o i ≠ x) : lst c (i + 1) x = lst c i x := by
  unfold lst
  rw [List.range_succ, List.any_append]
  simp [h]
theorem lst_at (c : Cf) (lo i : Nat) (ok : Ok c lo) (hi : i < c.L) : lst c (i + 1) (c.o i) = lst c i (c.o i) ++ [c.id] := by
  have h0 : (List.range i).any (fun j => c.o j == c.o i) = false := by
    rw [List.any_eq_false]
    intro j hj e
    have hj' := List.mem_range.1 hj
    have := ok.inj j i (by omega) hi (by simpa using e)
    omega
  unfold lst
  rw [List.range_succ, List.any_append, h0]
  simp
/-- The attachments. -/
structure SO (c : Cf) (lo i : Nat) (blk cap : Nat → Nat) (w : World) : Prop where
  row : w.rowIs c.sb 22 c.n (fun x => .slice (some ⟨blk x, 0, none⟩) (lst c i x).length (cap x))
  own : ∀ x, x < c.n → w.ownsRow 0 3 1 (.slice (some ⟨blk x, 0, none⟩) (lst c i x).length (cap x)) (lst c i x).length ((lst c i x).map fun (z : Nat) => Value.int .i64 (z : Int))
  inj : ∀ x y, x < c.n → y < c.n → blk x = blk y → x = y
  blk : ∀ x, x < c.n → blk x = c.q x ∨ lo + 2 ≤ blk x
theorem SO.keep {c : Cf} {lo i : Nat} {blk cap : Nat → Nat} {w w' : World} (h : SO c lo i blk cap w) (hs : w'.heap[c.sb]? = w.heap[c.sb]?) (hb : ∀ x, x < c.n → w'.heap[blk x]? = w.heap[blk x]?) : SO c lo i blk cap w' :=
  ⟨h.row.of_block hs, fun x hx => owns_of_block (h.own x hx) (fun g hg => by simp [Value.ownBlock] at hg; subst hg; exact hb x hx), h.inj, h.blk⟩
theorem SO.lt {c : Cf} {lo i : Nat} {blk cap : Nat → Nat} {w : World} (h : SO c lo i blk cap w) {x : Nat} (hx : x < c.n) : blk x < w.heap.size := ((h.own x hx).lt (blk x) rfl).2
/-- The state of addSite's first loop, but for the rows. -/
structure Core (c : Cf) (lo gb : Nat) (w wr : World) : Prop where
  fr : Fr (Wb c gb) w wr
  rc : wr.cell? ⟨lo, 0, none⟩ = some (.pointer (some ⟨c.rp, 0, none⟩))
  fix : Fix c lo wr
  sz : lo + 2 ≤ wr.heap.size
  rpb : wr.heap[c.rp]? = w.heap[c.rp]?
  tbb : wr.heap[c.tb]? = w.heap[c.tb]?
  gbb : wr.heap[gb]? = w.heap[gb]?
theorem Core.next {c : Cf} {lo gb : Nat} {w wr V : World} (h : Core c lo gb w wr) (ok : Ok c lo) (hg : Gb c gb) (hgl : gb < lo) (hlo : lo = w.heap.size) (hf : Fr (fun b => b = c.sb ∨ (∃ x, x < c.n ∧ b = c.q x) ∨ lo + 1 ≤ b) wr V) : Core c lo gb w V := by
  have hsz := h.sz
  have lt := ok.lt
  have ne := ok.ne
  have hb : ∀ b, b < lo → b ≠ c.sb → (∀ x, x < c.n → b ≠ c.q x) → V.heap[b]? = wr.heap[b]? := fun b h1 h2 h3 => hf.block b (by omega) (by
    rintro (e | ⟨x, hx, e⟩ | e)
    · exact h2 e
    · exact h3 x hx e
    · omega)
  have hrp := hb c.rp lt.1 ne.2.2.2.2.2.2.1 (fun x hx e => (ok.q x hx).1 e.symm)
  refine ⟨⟨hf.os.trans h.fr.os, hf.tape.trans h.fr.tape, hf.output.trans h.fr.output, Nat.le_trans h.fr.size hf.size, fun k hk hn => (hb k (by omega) (fun e => hn (.inr (.inl e))) (fun x hx e => hn (.inr (.inr (.inr (.inr ⟨x, hx, e⟩)))))).trans (h.fr.block k hk hn)⟩, ?_, ?_, Nat.le_trans h.sz hf.size, hrp.trans h.rpb, ?_, ?_⟩
  · exact (World.cell?_of_block (a := ⟨lo, 0, none⟩) (hf.block lo (by omega) (by
      rintro (e | ⟨x, hx, e⟩ | e)
      · omega
      · have := (ok.q x hx).2.2.2.2.2; omega
      · omega))).trans h.rc
  · exact h.fix.keep (gb := gb) ok (fun b h1 h2 => hb b h1 (fun e => h2 (.inr (.inl e))) (fun x hx e => h2 (.inr (.inr (.inr (.inr ⟨x, hx, e⟩)))))) ⟨hg.mb, hg.ab⟩ hg.z (World.cell?_of_block (a := ⟨c.rp, 0, none⟩) hrp) (World.cell?_of_block (a := ⟨c.rp, 1, none⟩) hrp) (World.cell?_of_block (a := ⟨c.rp, 2, none⟩) hrp)
  · exact (hb c.tb lt.2.2.2.1 (fun e => ne.2.2.2.2.2.2.2.2 e.symm) (fun x hx e => (ok.q x hx).2.2.2.1 e.symm)).trans h.tbb
  · exact (hb gb hgl hg.sb hg.q).trans h.gbb
/-- The state of addSite's first loop. -/
structure S1 (c : Cf) (lo gb i j : Nat) (w wr : World) : Prop where
  core : Core c lo gb w wr
  so : ∃ blk cap, SO c lo i blk cap wr
  by_ : Row (lo + 1) c.L (fun k => if k < j then c.o k else 0) wr
theorem S1.start {c : Cf} {gb : Nat} {w : World} (ok : Ok c w.heap.size) (hg : Gb c gb) (hgl : gb < w.heap.size) (hf : Fix c w.heap.size w) (hso : SO c w.heap.size 0 c.q (fun _ => 1) w) :
    S1 c w.heap.size gb 0 0 w ((w.alloc (.cells #[.pointer (some ⟨c.rp, 0, none⟩)] 45)).alloc (.cells (madeCells #[.int .i64 0] c.L) 3)) := by
  have hb : ∀ b, b < w.heap.size → ((w.alloc (.cells #[.pointer (some ⟨c.rp, 0, none⟩)] 45)).alloc (.cells (madeCells #[.int .i64 0] c.L) 3)).heap[b]? = w.heap[b]? := fun b h => by
    rw [Below.heap_alloc _ _ _ (by simp; omega), Below.heap_alloc _ _ _ h]
  have lt := ok.lt
  have hrp := hb c.rp lt.1
  refine ⟨⟨((Fr.refl _ w).alloc _).alloc _, ?_, ?_, by simp, hrp, hb _ lt.2.2.2.1, hb _ hgl⟩, ⟨_, _, hso.keep (hb _ lt.2.2.1) (fun x hx => hb _ (ok.q x hx).2.2.2.2.2)⟩, ?_⟩
  · rw [World.cell?_of_block (a := ⟨w.heap.size, 0, none⟩) (Below.heap_alloc _ _ _ (by simp))]
    rw [cell_of_row _ w.heap.size 0 #[.pointer (some ⟨c.rp, 0, none⟩)] 45 (0, 0) (Go.Deep.blk_alloc_new _ _)]
    rfl
  · exact hf.keep (gb := gb) ok (fun b h1 _ => hb b h1) ⟨hg.mb, hg.ab⟩ hg.z (World.cell?_of_block (a := ⟨c.rp, 0, none⟩) hrp) (World.cell?_of_block (a := ⟨c.rp, 1, none⟩) hrp) (World.cell?_of_block (a := ⟨c.rp, 2, none⟩) hrp)
  · have h := World.rowIs_made (w.alloc (.cells #[.pointer (some ⟨c.rp, 0, none⟩)] 45)) (.int .i64 0) c.L 3
    have e1 : (w.alloc (.cells #[.pointer (some ⟨c.rp, 0, none⟩)] 45)).heap.size = w.heap.size + 1 := by simp
    rw [e1] at h
    exact h.congr fun k _ => by simp
theorem S1.lay {c : Cf} {lo gb i : Nat} {w wr : World} (h : S1 c lo gb i i w wr) (ok : Ok c lo) (hg : Gb c gb) (hgl : gb < lo) (hlo : lo = w.heap.size) (o : Obj) : S1 c lo gb i (i + 1) w ((wr.setCell ⟨lo + 1, i, none⟩ (.int .i64 (c.o i : Int))).alloc o) := by
  have hf : Fr (fun b => b = c.sb ∨ (∃ x, x < c.n ∧ b = c.q x) ∨ lo + 1 ≤ b) wr ((wr.setCell ⟨lo + 1, i, none⟩ (.int .i64 (c.o i : Int))).alloc o) := ((Fr.refl _ wr).setCell (.inl (.inr (.inr (Nat.le_refl _)))) _).alloc _
  have hsz := h.core.sz
  have lt := ok.lt
  have hb : ∀ b, b < wr.heap.size → b ≠ lo + 1 → ((wr.setCell ⟨lo + 1, i, none⟩ (.int .i64 (c.o i : Int))).alloc o).heap[b]? = wr.heap[b]? := fun b h1 h2 => by
    rw [Below.heap_alloc _ _ _ (by simpa using h1), Below.heap_setCell _ _ _ _ h2]
  obtain ⟨blk, cap, hso⟩ := h.so
  refine ⟨h.core.next ok hg hgl hlo hf, ⟨blk, cap, hso.keep (hb _ (by omega) (by omega)) (fun x hx => hb _ (hso.lt hx) ?_)⟩, ?_⟩
  · rcases hso.blk x hx with e | e
    · have := (ok.q x hx).2.2.2.2.2; omega
    · omega
  · have h1 : Row (lo + 1) c.L (fun j => if j = i then c.o i else if j < i then c.o j else 0) (wr.setCell ⟨lo + 1, i, none⟩ (.int .i64 (c.o i : Int))) := h.by_.set i (c.o i)
    have h2 : Row (lo + 1) c.L (fun j => if j = i then c.o i else if j < i then c.o j else 0) ((wr.setCell ⟨lo + 1, i, none⟩ (.int .i64 (c.o i : Int))).alloc o) := World.rowIs.alloc h1 o
    refine h2.congr fun k _ => ?_
    by_cases e : k = i
    · subst e; simp
    · by_cases e2 : k < i
      · rw [if_neg e, if_pos e2, if_pos (by omega)]
      · rw [if_neg e, if_neg e2, if_neg (by omega)]
theorem S1.attach {c : Cf} {lo gb i xx g cap2 bx cx : Nat} {w V w3 : World} {blk cap : Nat → Nat} (h : S1 c lo gb i (i + 1) w V) (ok : Ok c lo) (hg : Gb c gb) (hgl : gb < lo) (hlo : lo = w.heap.size) (hi : i < c.L) (hxx : xx = c.o i) (hso : SO c lo i blk cap V) (hbx : blk xx = bx ∧ cap xx = cx) (h3 : V.grownBy w3 (some bx))
    (hgg : g = bx ∨ V.heap.size ≤ g) (hown : w3.ownsRow 0 3 1 (.slice (some ⟨g, 0, none⟩) ((lst c i xx).length + 1) cap2) ((lst c i xx).length + 1) (((lst c i xx).map fun (z : Nat) => Value.int .i64 (z : Int)) ++ [.int .i64 (c.id : Int)])) :
    S1 c lo gb (i + 1) (i + 1) w (w3.setCell ⟨c.sb, xx, none⟩ (.slice (some ⟨g, 0, none⟩) ((lst c i xx).length + 1) cap2)) := by
  have hxn : xx < c.n := by rw [hxx]; exact ok.o i hi
  have hsz := h.core.sz
  have lt := ok.lt
  have hbq : bx = c.q xx ∨ lo + 2 ≤ bx := by rw [← hbx.1]; exact hso.blk xx hxn
  have hsb : bx ≠ c.sb := by
    rcases hbq with e | e
    · rw [e]; exact (ok.q xx hxn).2.2.1
    · omega
  have hf : Fr (fun b => b = c.sb ∨ (∃ x, x < c.n ∧ b = c.q x) ∨ lo + 1 ≤ b) V (w3.setCell ⟨c.sb, xx, none⟩ (.slice (some ⟨g, 0, none⟩) ((lst c i xx).length + 1) cap2)) :=
    ((Fr.refl _ V).grown h3 (fun j hj => .inl (by
      cases hj
      rcases hbq with e | e
      · exact .inr (.inl ⟨xx, hxn, e⟩)
      · exact .inr (.inr (by omega))))).setCell (.inl (.inl rfl)) _
  have hsV := hso.row.lt
  have hrow3 : w3.rowIs c.sb 22 c.n _ := hso.row.of_block (h3.block c.sb hsV (fun e => hsb (Option.some.inj e).symm))
  have hbB : bx ≠ lo + 1 := by
    rcases hbq with e | e
    · have := (ok.q xx hxn).2.2.2.2.2; omega
    · omega
  have hblt : bx < V.heap.size := by rw [← hbx.1]; exact hso.lt hxn
  refine ⟨h.core.next ok hg hgl hlo hf, ⟨fun x => if x = xx then g else blk x, fun x => if x = xx then cap2 else cap x, ?_, ?_, ?_, ?_⟩, ?_⟩
  · refine (hrow3.set xx _).congr fun x hx => ?_
    by_cases e : x = xx
    · subst e
      rw [if_pos rfl, if_pos rfl, if_pos rfl]
      have : lst c (i + 1) x = lst c i x ++ [c.id] := by rw [hxx]; exact lst_at c lo i ok hi
      rw [this, List.length_append]
      rfl
    · rw [if_neg e, if_neg e, if_neg e, lst_other c i x (by rw [← hxx]; exact fun h => e h.symm)]
  · intro x hx
    by_cases e : x = xx
    · subst e
      simp only [if_true]
      have e2 : lst c (i + 1) x = lst c i x ++ [c.id] := by rw [hxx]; exact lst_at c lo i ok hi
      rw [e2, List.length_append, List.map_append]
      refine owns_of_block hown (fun b hb => ?_)
      simp [Value.ownBlock] at hb
      subst hb
      exact Below.heap_setCell _ _ _ _ (fun e => by
        have : g = c.sb := e
        rcases hgg with e' | e'
        · exact hsb (e'.symm.trans this)
        · omega)
    · simp only [if_neg e]
      rw [lst_other c i x (by rw [← hxx]; exact fun h => e h.symm)]
      refine owns_of_block (hso.own x hx) (fun b hb => ?_)
      simp [Value.ownBlock] at hb
      subst hb
      have hne : blk x ≠ c.sb := by
        rcases hso.blk x hx with e' | e'
        · rw [e']; exact (ok.q x hx).2.2.1
        · omega
      have e1 : (w3.setCell ⟨c.sb, xx, none⟩ (.slice (some ⟨g, 0, none⟩) ((lst c i xx).length + 1) cap2)).heap[blk x]? = w3.heap[blk x]? := Below.heap_setCell _ _ _ _ hne
      rw [e1]
      exact h3.block _ (hso.lt hx) (fun e' => e (hso.inj x xx hx hxn (by rw [hbx.1]; exact Option.some.inj e')))
  · intro x y hx hy hxy
    have hlx := hso.lt hx
    have hly := hso.lt hy
    by_cases e1 : x = xx <;> by_cases e2 : y = xx
    · rw [e1, e2]
    · simp only [if_pos e1, if_neg e2] at hxy
      rcases hgg with e' | e'
      · rw [e', ← hbx.1] at hxy
        rw [e1]
        exact hso.inj xx y hxn hy hxy
      · omega
    · simp only [if_neg e1, if_pos e2] at hxy
      rcases hgg with e' | e'
      · rw [e', ← hbx.1] at hxy
        rw [e2]
        exact hso.inj x xx hx hxn hxy
      · omega
    · simp only [if_neg e1, if_neg e2] at hxy
      exact hso.inj x y hx hy hxy
  · intro x hx
    by_cases e : x = xx
    · simp only [if_pos e]
      rcases hgg with e' | e'
      · rw [e', e]; exact hbq
      · right; omega
    · simp only [if_neg e]
      exact hso.blk x hx
  · refine World.rowIs.of_block h.by_ ?_
    rw [Below.heap_setCell _ _ _ _ (by show lo + 1 ≠ c.sb; omega)]
    exact h3.block _ (by omega) (fun e => hbB (Option.some.inj e).symm)
end SortA
end Go.Proofs.Ybulkdgou
