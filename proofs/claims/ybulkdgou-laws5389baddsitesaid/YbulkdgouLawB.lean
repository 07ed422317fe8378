import Derived.Test.YbulkdgouLawA
namespace Go.Proofs.Ybulkdgou
open Go.RowKit
namespace SortA

theorem owns_one {w : World} {base : Nat} {o : Nat} (hb : base ≤ w.heap.size) : (w.alloc (.cells #[.int .i64 (o : Int)] 3)).ownsRow base 3 1 (.slice (some ⟨w.heap.size, 0, none⟩) 1 1) 1 [.int .i64 (o : Int)] :=
  World.ownsRow_lit w #[.int .i64 (o : Int)] 1 hb (by unfold maxLen; omega) rfl
theorem L3.of {V wr : World} {n : Nat} {P : Nat → Nat} {pl : Nat} {s13 : Value} (h : L2 V n P pl s13 wr) (hn : 1 ≤ n) (h0 : 0 < (ord n P pl).length) : L3 V n (ord n P pl) s13 wr := ⟨h.bel, h.seen, h.own, h0, ord_lt n P hn pl, ord_nodup n P pl⟩
theorem L3.zero {V wr : World} {n : Nat} {P : Nat → Nat} {pl : Nat} {s13 : Value} (h : L2 V n P pl s13 wr) (hn : 1 ≤ n) (h0 : (ord n P pl).length = 0) : L3 V n [0] (.slice (some ⟨wr.heap.size, 0, none⟩) 1 1) ((wr.setCell ⟨V.heap.size, 0, none⟩ (.bool true)).alloc (.cells #[.int .i64 0] 3)) := by
  have hlt := h.seen.lt
  refine ⟨(h.bel.setCell (Nat.le_refl _) _).alloc (by simp; omega) _, ?_, ?_, by simp, fun x hx => by simp at hx; omega, by simp⟩
  · refine ((h.seen.set 0 (.bool true)).alloc _).congr fun x _ => ?_
    have e : ord n P pl = [] := List.length_eq_zero_iff.1 h0
    rw [e]
    by_cases ex : x = 0
    · subst ex; simp
    · simp [ex]
  · have := owns_one (w := wr.setCell ⟨V.heap.size, 0, none⟩ (.bool true)) (base := V.heap.size + 1) (o := 0) (by simp; omega)
    simpa using this
/-- The reach as it is made. -/
def RF (mb sb tb n : Nat) : Nat → Value
  | 0 => .slice (some ⟨mb, 0, none⟩) n n | 1 => .slice (some ⟨sb, 0, none⟩) n n | 2 => .slice (some ⟨tb, 0, none⟩) 3 3 | _ => .slice none 0 0
def TF (j : Nat) : Value := if j % 4 = 2 then .map none else .slice none 0 0
structure Rch (V : World) (n mb rp sb tb : Nat) (wc : World) : Prop where
  bel : Below V.heap.size V wc
  sz : wc.heap.size = V.heap.size + 3
  hrp : rp = V.heap.size + 2
  hsb : sb = V.heap.size ∨ sb = V.heap.size + 1
  htb : tb = V.heap.size ∨ tb = V.heap.size + 1
  ne : sb ≠ tb
  srow : wc.rowIs sb 22 n (fun _ => .slice none 0 0)
  trow : wc.rowIs tb 62 12 TF
  rrow : wc.rowIs rp 55 13 (RF mb sb tb n)
theorem trow_made (w : World) : (w.alloc (.cells (madeCells #[.slice none 0 0, .slice none 0 0, .map none, .slice none 0 0] 12) 62)).rowIs w.heap.size 62 12 TF := by
  refine ⟨_, Go.Deep.blk_alloc_new _ _, by rw [size_madeCells], fun i hi => ?_⟩
  have h4 : i % 4 = 0 ∨ i % 4 = 1 ∨ i % 4 = 2 ∨ i % 4 = 3 := by omega
  simp only [madeCells]
  simp [hi, TF]
  rcases h4 with e | e | e | e <;> simp [e]
theorem rrow_made (w : World) (mb sb tb n : Nat) : (w.alloc (.cells #[.slice (some ⟨mb, 0, none⟩) n n, .slice (some ⟨sb, 0, none⟩) n n, .slice (some ⟨tb, 0, none⟩) 3 3, .slice none 0 0, .slice none 0 0, .slice none 0 0, .slice none 0 0, .slice none 0 0, .slice none 0 0, .slice none 0 0, .slice none 0 0, .slice none 0 0, .slice none 0 0] 55)).rowIs w.heap.size 55 13 (RF mb sb tb n) := by
  refine ⟨_, Go.Deep.blk_alloc_new _ _, rfl, fun i hi => ?_⟩
  match i, hi with
  | 0, _ => rfl
  | 1, _ => rfl
  | 2, _ => rfl
  | 3, _ => rfl
  | 4, _ => rfl
  | 5, _ => rfl
  | 6, _ => rfl
  | 7, _ => rfl
  | 8, _ => rfl
  | 9, _ => rfl
  | 10, _ => rfl
  | 11, _ => rfl
  | 12, _ => rfl
theorem Rch.one (V : World) (n mb : Nat) : Rch V n mb (V.heap.size + 2) V.heap.size (V.heap.size + 1) (((V.alloc (.cells (madeCells #[.slice none 0 0] n) 22)).alloc (.cells (madeCells #[.slice none 0 0, .slice none 0 0, .map none, .slice none 0 0] 12) 62)).alloc (.cells #[.slice (some ⟨mb, 0, none⟩) n n, .slice (some ⟨V.heap.size, 0, none⟩) n n, .slice (some ⟨V.heap.size + 1, 0, none⟩) 3 3, .slice none 0 0, .slice none 0 0, .slice none 0 0, .slice none 0 0, .slice none 0 0, .slice none 0 0, .slice none 0 0, .slice none 0 0, .slice none 0 0, .slice none 0 0] 55)) := by
  have e1 : (V.alloc (.cells (madeCells #[.slice none 0 0] n) 22)).heap.size = V.heap.size + 1 := by simp
  have e2 : ((V.alloc (.cells (madeCells #[.slice none 0 0] n) 22)).alloc (.cells (madeCells #[.slice none 0 0, .slice none 0 0, .map none, .slice none 0 0] 12) 62)).heap.size = V.heap.size + 2 := by simp
  have h1 := World.rowIs_made V (.slice none 0 0) n 22
  have h2 := trow_made (V.alloc (.cells (madeCells #[.slice none 0 0] n) 22))
  have h3 := rrow_made ((V.alloc (.cells (madeCells #[.slice none 0 0] n) 22)).alloc (.cells (madeCells #[.slice none 0 0, .slice none 0 0, .map none, .slice none 0 0] 12) 62)) mb V.heap.size (V.heap.size + 1) n
  rw [e1] at h2
  rw [e2] at h3
  exact ⟨(((Below.refl _ _).alloc (Nat.le_refl _) _).alloc (by simp) _).alloc (by simp; omega) _, by simp, rfl, .inl rfl, .inr rfl, by omega, (h1.alloc _).alloc _, h2.alloc _, h3⟩
theorem Rch.two (V : World) (n mb : Nat) : Rch V n mb (V.heap.size + 2) (V.heap.size + 1) V.heap.size (((V.alloc (.cells (madeCells #[.slice none 0 0, .slice none 0 0, .map none, .slice none 0 0] 12) 62)).alloc (.cells (madeCells #[.slice none 0 0] n) 22)).alloc (.cells #[.slice (some ⟨mb, 0, none⟩) n n, .slice (some ⟨V.heap.size + 1, 0, none⟩) n n, .slice (some ⟨V.heap.size, 0, none⟩) 3 3, .slice none 0 0, .slice none 0 0, .slice none 0 0, .slice none 0 0, .slice none 0 0, .slice none 0 0, .slice none 0 0, .slice none 0 0, .slice none 0 0, .slice none 0 0] 55)) := by
  have e1 : (V.alloc (.cells (madeCells #[.slice none 0 0, .slice none 0 0, .map none, .slice none 0 0] 12) 62)).heap.size = V.heap.size + 1 := by simp
  have e2 : ((V.alloc (.cells (madeCells #[.slice none 0 0, .slice none 0 0, .map none, .slice none 0 0] 12) 62)).alloc (.cells (madeCells #[.slice none 0 0] n) 22)).heap.size = V.heap.size + 2 := by simp
  have h1 := trow_made V
  have h2 := World.rowIs_made (V.alloc (.cells (madeCells #[.slice none 0 0, .slice none 0 0, .map none, .slice none 0 0] 12) 62)) (.slice none 0 0) n 22
  have h3 := rrow_made ((V.alloc (.cells (madeCells #[.slice none 0 0, .slice none 0 0, .map none, .slice none 0 0] 12) 62)).alloc (.cells (madeCells #[.slice none 0 0] n) 22)) mb (V.heap.size + 1) V.heap.size n
  rw [e1] at h2
  rw [e2] at h3
  exact ⟨(((Below.refl _ _).alloc (Nat.le_refl _) _).alloc (by simp) _).alloc (by simp; omega) _, by simp, rfl, .inr rfl, .inl rfl, by omega, h2.alloc _, (h1.alloc _).alloc _, h3⟩
theorem Rch.drewN {V wc : World} {n mb rp sb tb : Nat} (h : Rch V n mb rp sb tb wc) (q : Nat) : Rch V n mb rp sb tb (wc.drewN q) := ⟨h.bel.trans (below_drewN _ _ _), h.sz, h.hrp, h.hsb, h.htb, h.ne, h.srow, h.trow, h.rrow⟩
theorem Rch.drew {V wc : World} {n mb rp sb tb : Nat} (h : Rch V n mb rp sb tb wc) : Rch V n mb rp sb tb wc.drew := ⟨h.bel.drew, h.sz, h.hrp, h.hsb, h.htb, h.ne, h.srow, h.trow, h.rrow⟩

/-- The attachments' rows, the first i laid. -/
structure L6 (V : World) (n sb i : Nat) (wr : World) : Prop where
  fr : Fr (fun b => b = sb) V wr
  sz : wr.heap.size = V.heap.size + i
  row : wr.rowIs sb 22 n (fun x => if x < i then .slice (some ⟨V.heap.size + x, 0, none⟩) 1 1 else .slice none 0 0)
  blk : ∀ x, x < i → wr.heap[V.heap.size + x]? = some (.cells #[.int .i64 ((x % 3 + 10 : Nat) : Int)] 3 (0, 0))
theorem L6.next {V wr : World} {n sb i : Nat} (h : L6 V n sb i wr) (hsb : sb < V.heap.size) (v : Value) (hv : v = .int .i64 ((i % 3 + 10 : Nat) : Int)) :
    L6 V n sb (i + 1) ((wr.setCell ⟨sb, i, none⟩ (.slice (some ⟨wr.heap.size, 0, none⟩) 1 1)).alloc (.cells #[v] 3)) := by
  have hs := h.sz
  refine ⟨(h.fr.setCell (.inl rfl) _).alloc _, by simp; omega, ((h.row.set i (.slice (some ⟨wr.heap.size, 0, none⟩) 1 1)).alloc _).congr fun x _ => ?_, fun x hx => ?_⟩
  · by_cases e : x = i
    · subst e
      rw [if_pos rfl, if_pos (by omega), hs]
    · rw [if_neg e]
      by_cases e2 : x < i
      · rw [if_pos e2, if_pos (by omega)]
      · rw [if_neg e2, if_neg (by omega)]
  · by_cases e : x = i
    · subst e
      have e1 : (wr.setCell ⟨sb, x, none⟩ (.slice (some ⟨wr.heap.size, 0, none⟩) 1 1)).heap.size = V.heap.size + x := by simp; omega
      rw [← e1, Go.Deep.blk_alloc_new, hv]
    · rw [Below.heap_alloc _ _ _ (by simp; omega), Below.heap_setCell _ _ _ _ (by show V.heap.size + x ≠ sb; omega)]
      exact h.blk x (by omega)

/-- The old groups, the first i laid. -/
structure L8 (V : World) (rp : Nat) (F : Nat → Value) (i : Nat) (gv : Value) (vs : List Value) (wr : World) : Prop where
  fr : Fr (fun b => b = rp) V wr
  row : wr.rowIs rp 55 13 (fun j => if j = 11 then gv else F j)
  own : wr.ownsRow V.heap.size 22 1 gv i vs
  nil : i = 0 → gv = .slice none 0 0
  each : ∀ g, g < i → ∃ b, vs[g]? = some (.slice (some ⟨b, 0, none⟩) 1 1) ∧ V.heap.size ≤ b ∧ wr.heap[b]? = some (.cells #[.int .i64 0] 3 (0, 0))
theorem L8.next {V wr w3 : World} {rp i g cap : Nat} {F : Nat → Value} {gv : Value} {vs : List Value} {o : Obj} (h : L8 V rp F i gv vs wr) (hrp : rp < V.heap.size)
    (hg : ((wr.alloc (.cells #[.int .i64 0] 3)).alloc o).grownBy w3 gv.ownBlock) (hat : gv.ownBlock = some g ∨ g = wr.heap.size + 2) (hown : w3.ownsRow V.heap.size 22 1 (.slice (some ⟨g, 0, none⟩) (i + 1) cap) (i + 1) (vs ++ [.slice (some ⟨wr.heap.size, 0, none⟩) 1 1])) :
    L8 V rp F (i + 1) (.slice (some ⟨g, 0, none⟩) (i + 1) cap) (vs ++ [.slice (some ⟨wr.heap.size, 0, none⟩) 1 1]) (w3.setCell ⟨rp, 11, none⟩ (.slice (some ⟨g, 0, none⟩) (i + 1) cap)) := by
  have hs := h.fr.size
  have hgl : ∀ k, gv.ownBlock = some k → V.heap.size ≤ k ∧ k < wr.heap.size := fun k hk => h.own.lt k hk
  have hall : wr.grownBy w3 gv.ownBlock := ((World.grownBy_alloc wr _ gv.ownBlock).andThen (World.grownBy_alloc _ o gv.ownBlock) (fun j hj => .inr hj)).andThen hg (fun j hj => .inr hj)
  have hvl : vs.length = i := by have := h.own.1; omega
  have hgV : V.heap.size ≤ g := by
    rcases hat with e | e
    · exact (hgl g e).1
    · omega
  have hrow3 : w3.rowIs rp 55 13 _ := h.row.of_block (hall.block _ (by omega) (fun e => by have := (hgl _ e.symm).1; omega))
  refine ⟨(h.fr.grown hall (fun j hj => .inr (hgl j hj).1)).setCell (.inl rfl) _, (hrow3.set 11 _).congr fun j _ => ?_, owns_of_block hown (fun b e => Below.heap_setCell _ _ _ _ (by
    have e3 : b = g := by simpa [Value.ownBlock] using e.symm
    show b ≠ rp
    omega)), fun h => by omega, fun g' hg' => ?_⟩
  · by_cases e : j = 11 <;> simp [e]
  · by_cases e : g' = i
    · subst e
      refine ⟨wr.heap.size, by rw [List.getElem?_append_right (by omega)]; simp [hvl], hs, ?_⟩
      rw [Below.heap_setCell _ _ _ _ (by show wr.heap.size ≠ rp; omega), hg.block wr.heap.size (by simp; omega) (fun e => by have := (hgl _ e.symm).2; omega), Below.heap_alloc _ _ _ (by simp)]
      exact Go.Deep.blk_alloc_new _ _
    · obtain ⟨b, h1, h2, h3⟩ := h.each g' (by omega)
      refine ⟨b, by rw [List.getElem?_append_left (by omega)]; exact h1, h2, ?_⟩
      have hbl : b < wr.heap.size := (Array.getElem?_eq_some_iff.1 h3).1
      rw [Below.heap_setCell _ _ _ _ (by show b ≠ rp; omega), hall.block b hbl (fun e => by
        obtain ⟨cur, e2⟩ := owns_kind h.own e.symm
        rw [h3] at e2
        cases e2)]
      exact h3
end SortA
end Go.Proofs.Ybulkdgou
