import Derived.Test.YbulkdgouAddA
namespace Go.Proofs.Ybulkdgou
open Go.RowKit
namespace SortA

theorem owns_kind {w : World} {base n size : Nat} {e : TypeId} {v : Value} {xs : List Value} (h : w.ownsRow base e size v n xs) {g : Nat} (hg : v.ownBlock = some g) : ∃ cur, w.heap[g]? = some (.cells cur e (0, 0)) := by
  rcases h.2 with ⟨rfl, _⟩ | ⟨g', cap, cur, rfl, _, h2, _⟩
  · cases hg
  · simp [Value.ownBlock] at hg
    subst hg
    exact ⟨cur, h2⟩
theorem owns_apart {w : World} {b1 n1 s1 b2 n2 s2 : Nat} {u v : Value} {xs ys : List Value} (h : w.ownsRow b1 22 s1 u n1 xs) (k : w.ownsRow b2 3 s2 v n2 ys) {g : Nat} (hu : u.ownBlock = some g) : v.ownBlock ≠ some g := by
  intro hv
  obtain ⟨c1, e1⟩ := owns_kind h hu
  obtain ⟨c2, e2⟩ := owns_kind k hv
  rw [e1] at e2
  cases e2

/-- What the second loop does not turn. -/
structure Base (c : Cf) (lo lo2 gb : Nat) (d : Nat → Nat) (w wr : World) : Prop where
  fr : Fr (Wb c gb) w wr
  rc : wr.cell? ⟨lo, 0, none⟩ = some (.pointer (some ⟨c.rp, 0, none⟩))
  fix : Fix c lo wr
  so : ∃ blk cap, SO c lo c.L blk cap wr ∧ ∀ x, x < c.n → blk x < lo2
  by_ : Row (lo + 1) c.L d wr
  tbb : wr.heap[c.tb]? = w.heap[c.tb]?
  sz : lo2 ≤ wr.heap.size
  lo2 : lo + 2 ≤ lo2
theorem Base.next {c : Cf} {lo lo2 gb : Nat} {d : Nat → Nat} {w wr V : World} (h : Base c lo lo2 gb d w wr) (ok : Ok c lo) (hg : Gb c gb) (hgl : gb < lo) (hlo : lo = w.heap.size) (hf : Fr (fun b => (b = gb ∧ 0 < c.g0) ∨ b = c.rp ∨ lo2 ≤ b) wr V)
    (h0 : V.cell? ⟨c.rp, 0, none⟩ = wr.cell? ⟨c.rp, 0, none⟩) (h1 : V.cell? ⟨c.rp, 1, none⟩ = wr.cell? ⟨c.rp, 1, none⟩) (h2 : V.cell? ⟨c.rp, 2, none⟩ = wr.cell? ⟨c.rp, 2, none⟩) : Base c lo lo2 gb d w V := by
  have hl2 := h.lo2
  have hsz := h.sz
  have lt := ok.lt
  have ne := ok.ne
  have hb0 : ∀ b, b < lo2 → ¬ (b = gb ∧ 0 < c.g0) → b ≠ c.rp → V.heap[b]? = wr.heap[b]? := fun b h1 h2 h3 => hf.block b (by omega) (by rintro (e | e | e); exact h2 e; exact h3 e; omega)
  have hb : ∀ b, b < lo2 → b ≠ gb → b ≠ c.rp → V.heap[b]? = wr.heap[b]? := fun b h1 h2 h3 => hb0 b h1 (fun e => h2 e.1) h3
  refine ⟨⟨hf.os.trans h.fr.os, hf.tape.trans h.fr.tape, hf.output.trans h.fr.output, Nat.le_trans h.fr.size hf.size, fun k hk hn => (hb0 k (by omega) (fun e => hn (.inr (.inr (.inr (.inl e))))) (fun e => hn (.inl e))).trans (h.fr.block k hk hn)⟩, ?_, ?_, ?_, ?_, ?_, Nat.le_trans h.sz hf.size, hl2⟩
  · exact (World.cell?_of_block (a := ⟨lo, 0, none⟩) (hb lo (by omega) (by omega) (by omega))).trans h.rc
  · exact h.fix.keep (gb := gb) ok (fun b h1 h2 => hb0 b (by omega) (fun e => h2 (.inr (.inr (.inr (.inl e))))) (fun e => h2 (.inl e))) ⟨hg.mb, hg.ab⟩ hg.z h0 h1 h2
  · obtain ⟨blk, cap, hso, hbl⟩ := h.so
    refine ⟨blk, cap, hso.keep (hb _ (by omega) (fun e => hg.sb e.symm) (fun e => ne.2.2.2.2.2.2.1 e.symm)) (fun x hx => hb _ (hbl x hx) ?_ ?_), hbl⟩
    · rcases hso.blk x hx with e | e
      · rw [e]; exact fun e => hg.q x hx e.symm
      · omega
    · rcases hso.blk x hx with e | e
      · rw [e]; exact (ok.q x hx).1
      · omega
  · exact World.rowIs.of_block h.by_ (hb _ (by omega) (by omega) (by omega))
  · exact (hb _ (by omega) (fun e => hg.tb e.symm) (fun e => ne.2.2.2.2.2.2.2.1 e.symm)).trans h.tbb
theorem Base.grown {c : Cf} {lo lo2 gb : Nat} {d : Nat → Nat} {w wr V : World} {row : Option Nat} (h : Base c lo lo2 gb d w wr) (ok : Ok c lo) (hg : Gb c gb) (hgl : gb < lo) (hlo : lo = w.heap.size) (hv : wr.grownBy V row) (hr : ∀ j, row = some j → (j = gb ∧ 0 < c.g0) ∨ lo2 ≤ j) : Base c lo lo2 gb d w V := by
  have hl2 := h.lo2
  have hsz := h.sz
  have lt := ok.lt
  have hrp : V.heap[c.rp]? = wr.heap[c.rp]? := hv.block _ (by omega) (fun e => by
    rcases hr _ e.symm with e | e
    · exact hg.rp e.1.symm
    · omega)
  refine h.next ok hg hgl hlo ((Fr.refl _ wr).grown hv (fun j hj => .inl ?_)) (World.cell?_of_block (a := ⟨c.rp, 0, none⟩) hrp) (World.cell?_of_block (a := ⟨c.rp, 1, none⟩) hrp) (World.cell?_of_block (a := ⟨c.rp, 2, none⟩) hrp)
  rcases hr j hj with e | e
  · exact .inl e
  · exact .inr (.inr e)

/-- The state of addSite's second loop. -/
structure S3 (c : Cf) (lo lo2 gb : Nat) (d : Nat → Nat) (F : Nat → Value) (vs0 : List Value) (w wr : World) (gl : List (List Nat)) (k8 : Nat) (gv s8 : Value) (gval : Nat → Value) : Prop where
  base : Base c lo lo2 gb d w wr
  rpr : wr.rowIs c.rp 55 13 (fun j => if j = 11 then gv else F j)
  gown : wr.ownsRow 0 22 1 gv (c.g0 + gl.length) (vs0 ++ (List.range gl.length).map gval)
  gvb : ∀ b, gv.ownBlock = some b → (b = gb ∧ 0 < c.g0) ∨ lo2 ≤ b
  idx : wr.ownsRow lo2 3 1 s8 k8 ((List.range k8).map fun j => Value.int .i64 ((c.g0 + j : Nat) : Int))
  grp : ∀ j, j < gl.length → wr.ownsRow lo2 3 1 (gval j) (gl.getD j []).length ((gl.getD j []).map fun (z : Nat) => Value.int .i64 (z : Int))
  dist : ∀ i j, i < gl.length → j < gl.length → i ≠ j → (gval i).ownBlock = none ∨ (gval i).ownBlock ≠ (gval j).ownBlock
  dist8 : ∀ j, j < gl.length → (gval j).ownBlock = none ∨ (gval j).ownBlock ≠ s8.ownBlock

/-- The list of indices grows. -/
theorem S3.index {c : Cf} {lo lo2 gb k8 g cap : Nat} {d : Nat → Nat} {F gval : Nat → Value} {vs0 : List Value} {w wr w1 w2 : World} {gl : List (List Nat)} {gv s8 : Value} {o : Obj} (h : S3 c lo lo2 gb d F vs0 w wr gl k8 gv s8 gval) (ok : Ok c lo) (hg : Gb c gb) (hgl : gb < lo) (hlo : lo = w.heap.size)
    (hw1 : w1 = wr.alloc o) (hv : w1.grownBy w2 s8.ownBlock) (hat : s8.ownBlock = some g ∨ g = wr.heap.size + 1) (hown : w2.ownsRow lo2 3 1 (.slice (some ⟨g, 0, none⟩) (k8 + 1) cap) (k8 + 1) (((List.range k8).map fun j => Value.int .i64 ((c.g0 + j : Nat) : Int)) ++ [.int .i64 ((c.g0 + k8 : Nat) : Int)])) :
    S3 c lo lo2 gb d F vs0 w w2 gl (k8 + 1) gv (.slice (some ⟨g, 0, none⟩) (k8 + 1) cap) gval := by
  subst hw1
  have hl2 := h.base.lo2
  have lt := ok.lt
  have hs := h.base.sz
  have hall : wr.grownBy w2 s8.ownBlock := (World.grownBy_alloc wr o s8.ownBlock).andThen hv (fun j hj => .inr hj)
  have h8 : ∀ j, s8.ownBlock = some j → lo2 ≤ j := fun j hj => (h.idx.lt j hj).1
  have hb : ∀ b, b < wr.heap.size → s8.ownBlock ≠ some b → w2.heap[b]? = wr.heap[b]? := fun b h1 h2 => hall.block b h1 (fun e => h2 e.symm)
  refine ⟨h.base.grown ok hg hgl hlo hall (fun j hj => .inr (h8 j hj)), h.rpr.of_block (hb _ (by omega) (fun e => by have := h8 _ e; omega)), owns_of_block h.gown (fun b e => hb b (h.gown.lt b e).2 (owns_apart h.gown h.idx e)), h.gvb, ?_, ?_, h.dist, ?_⟩
  · rw [List.range_succ, List.map_append]
    exact hown
  · intro j hj
    refine owns_of_block (h.grp j hj) (fun b e => hb b ((h.grp j hj).lt b e).2 (fun e8 => ?_))
    rcases h.dist8 j hj with e1 | e1
    · rw [e1] at e; cases e
    · exact e1 (e.trans e8.symm)
  · intro j hj
    cases he : (gval j).ownBlock with
    | none => exact .inl rfl
    | some b =>
      right
      intro e
      have hbl := ((h.grp j hj).lt b he).2
      have e' : b = g := by simpa [Value.ownBlock] using e
      rcases hat with e1 | e1
      · rcases h.dist8 j hj with e2 | e2
        · rw [e2] at he; cases he
        · exact e2 (by rw [he, e', e1])
      · omega

/-- r.groups grows by an empty group. -/
theorem S3.group {c : Cf} {lo lo2 gb k8 g cap : Nat} {d : Nat → Nat} {F gval : Nat → Value} {vs0 : List Value} {w wr w2 : World} {gl : List (List Nat)} {gv s8 : Value} (h : S3 c lo lo2 gb d F vs0 w wr gl k8 gv s8 gval) (ok : Ok c lo) (hg : Gb c gb) (hgl : gb < lo) (hlo : lo = w.heap.size)
    (hv : wr.grownBy w2 gv.ownBlock) (hat : gv.ownBlock = some g ∨ wr.heap.size ≤ g) (hown : w2.ownsRow 0 22 1 (.slice (some ⟨g, 0, none⟩) (c.g0 + gl.length + 1) cap) (c.g0 + gl.length + 1) ((vs0 ++ (List.range gl.length).map gval) ++ [.slice none 0 0])) :
    S3 c lo lo2 gb d F vs0 w (w2.setCell ⟨c.rp, 11, none⟩ (.slice (some ⟨g, 0, none⟩) (c.g0 + gl.length + 1) cap)) (gl ++ [[]]) k8 (.slice (some ⟨g, 0, none⟩) (c.g0 + gl.length + 1) cap) s8 (fun j => if j = gl.length then .slice none 0 0 else gval j) := by
  have hl2 := h.base.lo2
  have lt := ok.lt
  have hs := h.base.sz
  have hb2 := h.base.grown ok hg hgl hlo hv (fun j hj => h.gvb j hj)
  have hrp2 : w2.rowIs c.rp 55 13 (fun j => if j = 11 then gv else F j) := h.rpr.of_block (hv.block _ (by omega) (fun e => by
    rcases h.gvb _ e.symm with e | e
    · exact hg.rp e.1.symm
    · omega))
  have hrp3 := hrp2.set 11 (.slice (some ⟨g, 0, none⟩) (c.g0 + gl.length + 1) cap)
  have hb : ∀ b, b < wr.heap.size → b ≠ c.rp → gv.ownBlock ≠ some b → (w2.setCell ⟨c.rp, 11, none⟩ (.slice (some ⟨g, 0, none⟩) (c.g0 + gl.length + 1) cap)).heap[b]? = wr.heap[b]? := fun b h1 h2 h3 => by
    rw [Below.heap_setCell _ _ _ _ h2]
    exact hv.block b h1 (fun e => h3 e.symm)
  have hglo : (g = gb ∧ 0 < c.g0) ∨ lo2 ≤ g := by
    rcases hat with e | e
    · exact h.gvb g e
    · right; omega
  have hcell : ∀ j, j < 13 → j ≠ 11 → (w2.setCell ⟨c.rp, 11, none⟩ (.slice (some ⟨g, 0, none⟩) (c.g0 + gl.length + 1) cap)).cell? ⟨c.rp, j, none⟩ = w2.cell? ⟨c.rp, j, none⟩ := fun j h1 h2 => by
    rw [hrp3.cell h1, hrp2.cell h1]
    simp [h2]
  have hlen : (gl ++ [[]]).length = gl.length + 1 := by simp
  refine ⟨hb2.next ok hg hgl hlo ((Fr.refl _ w2).setCell (.inl (.inr (.inl rfl))) _) (hcell 0 (by omega) (by omega)) (hcell 1 (by omega) (by omega)) (hcell 2 (by omega) (by omega)), hrp3.congr (fun j _ => ?_), ?_, ?_, ?_, ?_, ?_, ?_⟩
  · by_cases e : j = 11 <;> simp [e]
  · have e1 : (List.range (gl ++ [[]]).length).map (fun j => if j = gl.length then Value.slice none 0 0 else gval j) = (List.range gl.length).map gval ++ [.slice none 0 0] := by
      rw [hlen, List.range_succ, List.map_append]
      congr 1
      · apply List.map_congr_left
        intro j hj
        have := List.mem_range.1 hj
        rw [if_neg (by omega)]
      · simp
    rw [e1, hlen, ← List.append_assoc]
    refine owns_of_block hown (fun b e => Below.heap_setCell _ _ _ _ (fun e2 => ?_))
    have e3 : b = g := by simpa [Value.ownBlock] using e.symm
    have e4 : b = c.rp := e2
    rcases hglo with e5 | e5
    · exact hg.rp (by have := e5.1; omega)
    · omega
  · intro b e
    have e3 : b = g := by simpa [Value.ownBlock] using e.symm
    rw [e3]
    exact hglo
  · exact owns_of_block h.idx (fun b e => hb b (h.idx.lt b e).2 (by have := (h.idx.lt b e).1; omega) (fun e2 => owns_apart h.gown h.idx e2 e))
  · intro j hj
    by_cases e : j = gl.length
    · subst e
      simp only [if_true]
      have : (gl ++ [[]]).getD gl.length [] = [] := by simp [List.getD]
      rw [this]
      exact World.ownsRow_nil _ _ _ _
    · have hj2 : j < gl.length := by omega
      simp only [if_neg e]
      have : (gl ++ [[]]).getD j [] = gl.getD j [] := by simp [List.getD, List.getElem?_append_left hj2]
      rw [this]
      exact owns_of_block (h.grp j hj2) (fun b e => hb b ((h.grp j hj2).lt b e).2 (by have := ((h.grp j hj2).lt b e).1; omega) (fun e2 => owns_apart h.gown (h.grp j hj2) e2 e))
  · intro i j hi hj hij
    by_cases e : i = gl.length
    · left; simp [e, Value.ownBlock]
    · by_cases e2 : j = gl.length
      · simp only [if_neg e, if_pos e2]
        cases (gval i).ownBlock with
        | none => exact .inl rfl
        | some b => right; simp [Value.ownBlock]
      · simp only [if_neg e, if_neg e2]
        exact h.dist i j (by omega) (by omega) hij
  · intro j hj
    by_cases e : j = gl.length
    · left; simp [e, Value.ownBlock]
    · simp only [if_neg e]
      exact h.dist8 j (by omega)

/-- The last group grows. -/
theorem S3.member {c : Cf} {lo lo2 gb k8 g cap G gc m : Nat} {d : Nat → Nat} {F gval : Nat → Value} {vs0 : List Value} {w wr w2 : World} {A : List (List Nat)} {x : List Nat} {s8 : Value} (h : S3 c lo lo2 gb d F vs0 w wr (A ++ [x]) k8 (.slice (some ⟨G, 0, none⟩) (c.g0 + A.length + 1) gc) s8 gval) (ok : Ok c lo) (hg : Gb c gb) (hgl : gb < lo) (hlo : lo = w.heap.size) (hvs : vs0.length = c.g0)
    (hv : wr.grownBy w2 (gval A.length).ownBlock) (hat : (gval A.length).ownBlock = some g ∨ wr.heap.size ≤ g) (hown : w2.ownsRow lo2 3 1 (.slice (some ⟨g, 0, none⟩) (x.length + 1) cap) (x.length + 1) ((x.map fun (z : Nat) => Value.int .i64 (z : Int)) ++ [.int .i64 (m : Int)])) :
    S3 c lo lo2 gb d F vs0 w (w2.setCell ⟨G, c.g0 + A.length, none⟩ (.slice (some ⟨g, 0, none⟩) (x.length + 1) cap)) (A ++ [x ++ [m]]) k8 (.slice (some ⟨G, 0, none⟩) (c.g0 + A.length + 1) gc) s8 (fun j => if j = A.length then .slice (some ⟨g, 0, none⟩) (x.length + 1) cap else gval j) := by
  have hl2 := h.base.lo2
  have lt := ok.lt
  have hs := h.base.sz
  have hlen : (A ++ [x]).length = A.length + 1 := by simp
  have hlen2 : (A ++ [x ++ [m]]).length = A.length + 1 := by simp
  have hlast := h.grp A.length (by omega)
  have hul : ∀ b, (gval A.length).ownBlock = some b → lo2 ≤ b := fun b e => (hlast.lt b e).1
  have hb2 := h.base.grown ok hg hgl hlo hv (fun j hj => .inr (hul j hj))
  have hGg := h.gvb G rfl
  have hGlt := (h.gown.lt G rfl).2
  have hGne : (gval A.length).ownBlock ≠ some G := owns_apart h.gown hlast rfl
  have hb : ∀ b, b < wr.heap.size → b ≠ G → (gval A.length).ownBlock ≠ some b → (w2.setCell ⟨G, c.g0 + A.length, none⟩ (.slice (some ⟨g, 0, none⟩) (x.length + 1) cap)).heap[b]? = wr.heap[b]? := fun b h1 h2 h3 => by
    rw [Below.heap_setCell _ _ _ _ h2]
    exact hv.block b h1 (fun e => h3 e.symm)
  have hglo : lo2 ≤ g := by
    rcases hat with e | e
    · exact hul g e
    · omega
  have hgG : g ≠ G := by
    rcases hat with e | e
    · intro e2; exact hGne (by rw [e, e2])
    · omega
  have hGrp : G ≠ c.rp := by
    rcases hGg with e | e
    · rw [e.1]; exact hg.rp
    · omega
  have hrpb : (w2.setCell ⟨G, c.g0 + A.length, none⟩ (.slice (some ⟨g, 0, none⟩) (x.length + 1) cap)).heap[c.rp]? = w2.heap[c.rp]? := Below.heap_setCell _ _ _ _ (fun e => hGrp e.symm)
  refine ⟨hb2.next ok hg hgl hlo ((Fr.refl _ w2).setCell (.inl ?_) _) (World.cell?_of_block (a := ⟨c.rp, 0, none⟩) hrpb) (World.cell?_of_block (a := ⟨c.rp, 1, none⟩) hrpb) (World.cell?_of_block (a := ⟨c.rp, 2, none⟩) hrpb), ?_, ?_, h.gvb, ?_, ?_, ?_, ?_⟩
  · rcases hGg with e | e
    · exact .inl e
    · exact .inr (.inr e)
  · exact h.rpr.of_block (hb _ (by omega) (fun e => hGrp e.symm) (fun e => by have := hul _ e; omega))
  · have g2 := owns_of_block (w' := w2) h.gown (fun b e => by
      have e3 : b = G := by simpa [Value.ownBlock] using e.symm
      subst e3
      exact hv.block _ hGlt (fun e => hGne e.symm))
    rw [hlen] at g2
    rw [hlen2]
    have g3 := (World.ownsRow.stored g2 (c.g0 + A.length) (.slice (some ⟨g, 0, none⟩) (x.length + 1) cap)).1
    have e1 : (vs0 ++ (List.range (A.length + 1)).map gval).set (c.g0 + A.length) (.slice (some ⟨g, 0, none⟩) (x.length + 1) cap) = vs0 ++ (List.range (A.length + 1)).map (fun j => if j = A.length then .slice (some ⟨g, 0, none⟩) (x.length + 1) cap else gval j) := by
      rw [List.set_append_right _ _ (by omega), List.range_succ, List.map_append, List.map_append, List.set_append_right _ _ (by simp; omega)]
      congr 1
      congr 1
      · apply List.map_congr_left
        intro j hj
        have := List.mem_range.1 hj
        rw [if_neg (by omega)]
      · simp [hvs]
    rw [e1] at g3
    exact g3
  · refine owns_of_block h.idx (fun b e => hb b (h.idx.lt b e).2 (fun e2 => owns_apart h.gown h.idx (g := G) rfl (by rw [e, e2])) (fun e2 => ?_))
    rcases h.dist8 A.length (by omega) with e3 | e3
    · rw [e3] at e2; cases e2
    · exact e3 (by rw [e2, e])
  · intro j hj
    by_cases e : j = A.length
    · subst e
      simp only [if_true]
      have : (A ++ [x ++ [m]]).getD A.length [] = x ++ [m] := by simp [List.getD]
      rw [this, List.length_append, List.map_append]
      exact owns_of_block hown (fun b e => Below.heap_setCell _ _ _ _ (by
        have e3 : b = g := by simpa [Value.ownBlock] using e.symm
        rw [e3]; exact hgG))
    · have hj2 : j < A.length := by omega
      simp only [if_neg e]
      have e1 : (A ++ [x ++ [m]]).getD j [] = (A ++ [x]).getD j [] := by simp [List.getD, List.getElem?_append_left hj2]
      rw [e1]
      have hgj := h.grp j (by omega)
      refine owns_of_block hgj (fun b eb => hb b (hgj.lt b eb).2 (fun e2 => owns_apart h.gown hgj (g := G) rfl (by rw [eb, e2])) (fun e2 => ?_))
      rcases h.dist j A.length (by omega) (by omega) e with e3 | e3
      · rw [e3] at eb; cases eb
      · exact e3 (by rw [e2, eb])
  · intro i j hi hj hij
    have key : ∀ i, i < A.length → (gval i).ownBlock = none ∨ (gval i).ownBlock ≠ some g := fun i hi => by
      cases he : (gval i).ownBlock with
      | none => exact .inl rfl
      | some b =>
        right
        intro e
        have e' : b = g := by simpa using e
        have hbl := ((h.grp i (by omega)).lt b he).2
        rcases hat with e1 | e1
        · rcases h.dist i A.length (by omega) (by omega) (by omega) with e2 | e2
          · rw [e2] at he; cases he
          · exact e2 (by rw [he, e', e1])
        · omega
    by_cases e : i = A.length
    · by_cases e2 : j = A.length
      · omega
      · simp only [if_pos e, if_neg e2]
        right
        intro h3
        rcases key j (by omega) with h4 | h4
        · rw [h4] at h3; cases h3
        · exact h4 h3.symm
    · by_cases e2 : j = A.length
      · simp only [if_neg e, if_pos e2]
        exact key i (by omega)
      · simp only [if_neg e, if_neg e2]
        exact h.dist i j (by omega) (by omega) hij
  · intro j hj
    by_cases e : j = A.length
    · simp only [if_pos e]
      right
      intro e8
      have e9 : s8.ownBlock = some g := e8.symm
      have hbl := (h.idx.lt g e9).2
      rcases hat with e1 | e1
      · rcases h.dist8 A.length (by omega) with e2 | e2
        · rw [e2] at e1; cases e1
        · exact e2 (by rw [e1, e9])
      · omega
    · simp only [if_neg e]
      exact h.dist8 j (by omega)
theorem S3.start {c : Cf} {lo gb : Nat} {d : Nat → Nat} {F : Nat → Value} {vs0 : List Value} {gv0 : Value} {w wr V : World} (h : S1 c lo gb c.L c.L w wr) (ok : Ok c lo) (hg : Gb c gb) (hgl : gb < lo) (hlo : lo = w.heap.size) (hrp : w.rowIs c.rp 55 13 F) (hF : F 11 = gv0) (hown : w.ownsRow 0 22 1 gv0 c.g0 vs0) (hgv : ∀ b, gv0.ownBlock = some b → b = gb ∧ 0 < c.g0)
    (hb : But (lo + 1) wr V) (hrow : Row (lo + 1) c.L d V) : S3 c lo V.heap.size gb d F vs0 w V [] 0 gv0 (.slice none 0 0) (fun _ => .slice none 0 0) := by
  have lt := ok.lt
  have hcore := h.core.next ok hg hgl hlo ((Fr.refl _ wr).but hb (.inl (.inr (.inr (Nat.le_refl _)))))
  obtain ⟨blk, cap, hso⟩ := h.so
  have hso2 : SO c lo c.L blk cap V := hso.keep (hb.block _ (by omega)) (fun x hx => hb.block _ (by
    rcases hso.blk x hx with e | e
    · have := (ok.q x hx).2.2.2.2.2; omega
    · omega))
  refine ⟨⟨hcore.fr, hcore.rc, hcore.fix, ⟨blk, cap, hso2, fun x hx => hso2.lt hx⟩, hrow, hcore.tbb, Nat.le_refl _, hcore.sz⟩, ?_, ?_, fun b e => .inl (hgv b e), World.ownsRow_nil _ _ _ _, fun j hj => by simp at hj, fun i j hi => by simp at hi, fun j hj => by simp at hj⟩
  · exact (hrp.of_block hcore.rpb).congr fun j _ => by
      by_cases e : j = 11
      · subst e; simp [hF]
      · simp [e]
  · refine owns_of_block (w := w) (by simpa using hown) (fun b e => ?_)
    rw [(hgv b e).1]
    exact hcore.gbb
theorem cmp_ready {c : Cf} {lo gb : Nat} {w wr : World} (h : S1 c lo gb c.L c.L w wr) (ok : Ok c lo) : CmpOK (lo + 1) c.n c.mask (.pointer (some ⟨lo, 0, none⟩)) wr :=
  cmpOK (rc := lo) (rp := c.rp) (mb := c.mb) ⟨h.core.rc, h.core.fix.r0, h.core.fix.set⟩ (by omega) (by have := ok.lt; omega) (by have := ok.lt; omega)
end SortA
end Go.Proofs.Ybulkdgou
