import Derived.Test.YbulkdgouLawB
namespace Go.Proofs.Ybulkdgou
open Go.RowKit
namespace SortA

theorem Fr.toBelow {S : Nat → Prop} {w w' : World} {lo : Nat} (h : Fr S w w') (hlo : lo ≤ w.heap.size) (hs : ∀ b, b < lo → ¬ S b) : Below lo w w' := ⟨h.os, h.tape, h.output, h.size, fun k hk => h.block k (by omega) (hs k hk)⟩

/-- All that was laid ahead of addSite. -/
structure Laid (w V U A B C D : World) (n : Nat) (M : Nat → Nat) (O : List Nat) (id g0 rp sb tb ob L oc : Nat) (zp : Nat → Option Addr) (zl zc : Nat → Nat) (gv : Value) (vs : List Value) : Prop where
  n1 : 1 ≤ n
  n2 : n ≤ 256
  m : ∀ i, i < n → M i ≤ 255
  l1 : L1 w n M n zp zl zc V
  l3 : L3 V n O (.slice (some ⟨ob, 0, none⟩) L oc) U
  len : O.length = L
  id3 : id < 3
  g3 : g0 ≤ 3
  att : Below U.heap.size U A ∧ A.rowIs U.heap.size 44 (L * 2) (AR id (fun i => O.getD i 0) L)
  rch : Rch A n w.heap.size rp sb tb B
  l6 : L6 B n sb n C
  l8 : L8 C rp (RF w.heap.size sb tb n) g0 gv vs D
section
variable {w V U A B C D : World} {n : Nat} {M : Nat → Nat} {O : List Nat} {id g0 rp sb tb ob L oc : Nat} {zp : Nat → Option Addr} {zl zc : Nat → Nat} {gv : Value} {vs : List Value}
/-- The configuration. -/
def cfOf (w U B : World) (n : Nat) (M : Nat → Nat) (O : List Nat) (id g0 rp sb tb L : Nat) (zp : Nat → Option Addr) (zl zc : Nat → Nat) : Cf :=
  ⟨rp, w.heap.size, sb, tb, U.heap.size, n, L, id, g0, M, fun i => O.getD i 0, fun x => B.heap.size + x, zp, zl, zc⟩
structure Nums (w V U A B C D : World) (n rp sb tb ob : Nat) : Prop where
  a : w.heap.size < V.heap.size
  b : V.heap.size < U.heap.size
  b2 : V.heap.size + 1 ≤ ob ∧ ob < U.heap.size
  c : U.heap.size < A.heap.size
  d : B.heap.size = A.heap.size + 3
  e : C.heap.size = B.heap.size + n
  f : C.heap.size ≤ D.heap.size
  hrp : rp = A.heap.size + 2
  hsb : sb = A.heap.size ∨ sb = A.heap.size + 1
  htb : tb = A.heap.size ∨ tb = A.heap.size + 1
  ne : sb ≠ tb
theorem Laid.nums (h : Laid w V U A B C D n M O id g0 rp sb tb ob L oc zp zl zc gv vs) : Nums w V U A B C D n rp sb tb ob :=
  ⟨h.l1.row.lt, h.l3.seen.lt, h.l3.own.lt ob rfl, h.att.2.lt, h.rch.sz, h.l6.sz, h.l8.fr.size, h.rch.hrp, h.rch.hsb, h.rch.htb, h.rch.ne⟩
/-- The gap between V and D: a block below A's size is as it was in A .. -/
theorem Laid.fromA (h : Laid w V U A B C D n M O id g0 rp sb tb ob L oc zp zl zc gv vs) {b : Nat} (hb : b < A.heap.size) : D.heap[b]? = A.heap[b]? := by
  have N := h.nums
  have := N.d; have := N.e; have := N.hrp; have := N.hsb
  rw [h.l8.fr.block b (by omega) (by show ¬ b = rp; omega), h.l6.fr.block b (by omega) (by show ¬ b = sb; omega), h.rch.bel.block b hb]
theorem Laid.fromU (h : Laid w V U A B C D n M O id g0 rp sb tb ob L oc zp zl zc gv vs) {b : Nat} (hb : b < U.heap.size) : D.heap[b]? = U.heap[b]? := by
  have N := h.nums
  rw [h.fromA (Nat.lt_trans hb N.c), h.att.1.block b hb]
theorem Laid.fromV (h : Laid w V U A B C D n M O id g0 rp sb tb ob L oc zp zl zc gv vs) {b : Nat} (hb : b < V.heap.size) : D.heap[b]? = V.heap[b]? := by
  have N := h.nums
  rw [h.fromU (Nat.lt_trans hb N.b), h.l3.bel.block b hb]
theorem Laid.below (h : Laid w V U A B C D n M O id g0 rp sb tb ob L oc zp zl zc gv vs) : Below w.heap.size w D := by
  have N := h.nums
  have := N.a; have := N.b; have := N.c; have := N.d; have := N.e; have := N.f; have := N.hrp; have := N.hsb
  refine ((((h.l1.bel.trans (h.l3.bel.mono (by omega))).trans (h.att.1.mono (by omega))).trans (h.rch.bel.mono (by omega))).trans (h.l6.fr.toBelow (by omega) (fun b hb => by show ¬ b = sb; omega))).trans (h.l8.fr.toBelow (by omega) (fun b hb => by show ¬ b = rp; omega))
theorem Laid.ok (h : Laid w V U A B C D n M O id g0 rp sb tb ob L oc zp zl zc gv vs) : Ok (cfOf w U B n M O id g0 rp sb tb L zp zl zc) D.heap.size := by
  have N := h.nums
  have h1 := N.a; have h2 := N.b; have h3 := N.c; have h4 := N.d; have h5 := N.e; have h6 := N.f; have h7 := N.hrp; have h8 := N.hsb; have h9 := N.htb; have h10 := N.ne
  have hl := h.len
  have hlm := nodup_len h.l3.nd h.l3.lt
  have hpos := h.l3.pos
  have hn2 := h.n2
  refine ⟨h.n1, h.n2, by show 1 ≤ L; omega, by show L ≤ 256; omega, h.id3, h.g3, h.m, fun i hi => ?_, fun i j hi hj e => ?_, fun x y hx hy e => by simp only [cfOf] at e; omega, fun x hx => ?_, ?_, ?_, fun x zb hx e => ?_⟩
  · have hi' : i < O.length := by rw [hl]; exact hi
    show O.getD i 0 < n
    rw [getD_at hi']
    exact h.l3.lt _ (List.getElem_mem hi')
  · have hi' : i < O.length := by rw [hl]; exact hi
    have hj' : j < O.length := by rw [hl]; exact hj
    have e' : O.getD i 0 = O.getD j 0 := e
    rw [getD_at hi', getD_at hj'] at e'
    exact (List.getElem_inj h.l3.nd).1 e'
  · simp only [cfOf] at hx ⊢
    refine ⟨?_, ?_, ?_, ?_, ?_, ?_⟩ <;> omega
  · simp only [cfOf]
    refine ⟨?_, ?_, ?_, ?_, ?_⟩ <;> omega
  · simp only [cfOf]
    refine ⟨?_, ?_, ?_, ?_, ?_, ?_, ?_, ?_, ?_⟩ <;> omega
  · have hzl := (h.l1.zn x hx).lt zb e
    simp only [cfOf]
    refine ⟨?_, ?_, ?_, fun y hy => ?_⟩ <;> omega
theorem Laid.fix (h : Laid w V U A B C D n M O id g0 rp sb tb ob L oc zp zl zc gv vs) : Fix (cfOf w U B n M O id g0 rp sb tb L zp zl zc) D.heap.size D := by
  have N := h.nums
  have h1 := N.a; have h2 := N.b; have h3 := N.c; have h4 := N.d; have h5 := N.e; have h6 := N.f
  have hrow : D.rowIs w.heap.size 41 (n * 6) _ := h.l1.row.of_block (h.fromV h1)
  have hatt : D.rowIs U.heap.size 44 (L * 2) _ := h.att.2.of_block (h.fromA h3)
  refine ⟨h.l8.row.cell (i := 0) (by omega), h.l8.row.cell (i := 1) (by omega), h.l8.row.cell (i := 2) (by omega), fun x hx => ?_, fun x hx => ?_, fun x hx => ?_, fun i hi => ?_, fun i hi => ?_⟩
  · have hx' : x < n := hx
    have := hrow.cell (i := x * 6 + 4) (by omega)
    rw [MR, show (x * 6 + 4) / 6 = x by omega, show (x * 6 + 4) % 6 = 4 by omega, if_pos hx'] at this
    exact this
  · have hx' : x < n := hx
    have := hrow.cell (i := x * 6 + 3) (by omega)
    rw [MR, show (x * 6 + 3) / 6 = x by omega, show (x * 6 + 3) % 6 = 3 by omega, if_pos hx'] at this
    exact this
  · have hz := h.l1.zn x hx
    refine ⟨hz.len, hz.nil, ⟨fun h0 => ?_, hz.zs.asc, hz.zs.len⟩, fun zb e => by have := hz.lt zb e; omega⟩
    obtain ⟨zb, e, hc⟩ := hz.zs.cells h0
    exact ⟨zb, e, fun j hj => (World.cell?_of_block (a := ⟨zb, j, none⟩) (h.fromV (hz.lt zb e))).trans (hc j hj)⟩
  · have hi' : i < L := hi
    have := hatt.cell (i := i * 2) (by omega)
    rw [AR, if_pos (by omega), if_pos (by omega)] at this
    exact this
  · have hi' : i < L := hi
    have := hatt.cell (i := i * 2 + 1) (by omega)
    rw [AR, if_pos (by omega), if_neg (by omega), show (i * 2 + 1) / 2 = i by omega] at this
    exact this
theorem Laid.so (h : Laid w V U A B C D n M O id g0 rp sb tb ob L oc zp zl zc gv vs) : SO (cfOf w U B n M O id g0 rp sb tb L zp zl zc) D.heap.size 0 (fun x => B.heap.size + x) (fun _ => 1) D := by
  have N := h.nums
  have h4 := N.d; have h5 := N.e; have h6 := N.f; have h7 := N.hrp; have h8 := N.hsb
  have hl : ∀ x, lst (cfOf w U B n M O id g0 rp sb tb L zp zl zc) 0 x = [x % 3 + 10] := fun x => by simp [lst]
  have hbD : ∀ b, b < C.heap.size → b ≠ rp → D.heap[b]? = C.heap[b]? := fun b hb hn => h.l8.fr.block b hb hn
  refine ⟨?_, fun x hx => ?_, fun x y _ _ e => by have e' : B.heap.size + x = B.heap.size + y := e; omega, fun x _ => .inl rfl⟩
  · refine (h.l6.row.of_block (hbD sb (by omega) (by omega))).congr fun x hx => ?_
    rw [hl, if_pos hx]
    rfl
  · have hx' : x < n := hx
    rw [hl]
    refine ⟨by simp, .inr ⟨B.heap.size + x, 1, _, rfl, Nat.zero_le _, (hbD _ (by omega) (by omega)).trans (h.l6.blk x hx'), Nat.le_refl _, by unfold maxLen; omega, rfl, rfl⟩⟩
theorem Laid.trow (h : Laid w V U A B C D n M O id g0 rp sb tb ob L oc zp zl zc gv vs) : D.rowIs tb 62 12 TF := by
  have N := h.nums
  have h4 := N.d; have h5 := N.e; have h7 := N.hrp; have h8 := N.hsb; have h9 := N.htb; have h10 := N.ne
  refine h.rch.trow.of_block ?_
  rw [h.l8.fr.block tb (by omega) (by show ¬ tb = rp; omega), h.l6.fr.block tb (by omega) (by show ¬ tb = sb; omega)]
theorem Laid.own (h : Laid w V U A B C D n M O id g0 rp sb tb ob L oc zp zl zc gv vs) : D.ownsRow 0 22 1 gv g0 vs := by
  refine ⟨h.l8.own.1, ?_⟩
  rcases h.l8.own.2 with e | ⟨g, cap, cur, e1, _, e2⟩
  · exact .inl e
  · exact .inr ⟨g, cap, cur, e1, Nat.zero_le _, e2⟩
/-- A block for the old groups. -/
def gbOf (V : World) (gv : Value) : Nat := gv.ownBlock.getD V.heap.size
theorem Laid.gbs (h : Laid w V U A B C D n M O id g0 rp sb tb ob L oc zp zl zc gv vs) : ∀ b, gv.ownBlock = some b → b = gbOf V gv ∧ 0 < g0 := by
  intro b e
  refine ⟨by simp [gbOf, e], ?_⟩
  by_cases h0 : g0 = 0
  · rw [h.l8.nil h0] at e
    cases e
  · omega
theorem Laid.gb (h : Laid w V U A B C D n M O id g0 rp sb tb ob L oc zp zl zc gv vs) : Gb (cfOf w U B n M O id g0 rp sb tb L zp zl zc) (gbOf V gv) ∧ gbOf V gv < D.heap.size := by
  have N := h.nums
  have h1 := N.a; have h2 := N.b; have h3 := N.c; have h4 := N.d; have h5 := N.e; have h6 := N.f; have h7 := N.hrp; have h8 := N.hsb; have h9 := N.htb
  have hz : ∀ x zb, x < n → zp x = some ⟨zb, 0, none⟩ → zb < V.heap.size := fun x zb hx e => (h.l1.zn x hx).lt zb e
  cases hg : gv.ownBlock with
  | none =>
    have e : gbOf V gv = V.heap.size := by simp [gbOf, hg]
    rw [e]
    refine ⟨⟨?_, ?_, ?_, ?_, ?_, fun x hx => ?_, fun x zb hx e => ?_⟩, by omega⟩
    · show V.heap.size ≠ w.heap.size; omega
    · show V.heap.size ≠ U.heap.size; omega
    · show V.heap.size ≠ rp; omega
    · show V.heap.size ≠ sb; omega
    · show V.heap.size ≠ tb; omega
    · show V.heap.size ≠ B.heap.size + x; omega
    · have := hz x zb hx e; omega
  | some b =>
    have e : gbOf V gv = b := by simp [gbOf, hg]
    have hb := h.l8.own.lt b hg
    rw [e]
    refine ⟨⟨?_, ?_, ?_, ?_, ?_, fun x hx => ?_, fun x zb hx e => ?_⟩, hb.2⟩
    · show b ≠ w.heap.size; omega
    · show b ≠ U.heap.size; omega
    · show b ≠ rp; omega
    · show b ≠ sb; omega
    · show b ≠ tb; omega
    · have hx' : x < n := hx
      show b ≠ B.heap.size + x; omega
    · have := hz x zb hx e; omega

/-- What the law reads behind addSite. -/
structure Fin (w E : World) (n L id g0 ma moff sv ab ob rp sb tb : Nat) (M : Nat → Nat) (O : List Nat) : Prop where
  bel : Below w.heap.size w E
  mask : ∀ i, i < n → E.cell? ⟨ma, moff + i, none⟩ = some (.int .u8 (M i : Int))
  seen : ∀ x, x < n → E.cell? ⟨sv, x, none⟩ = some (.bool (decide (x ∈ O)))
  ord : ∀ i, i < L → E.cell? ⟨ob, i, none⟩ = some (.int .i64 ((O.getD i 0 : Nat) : Int))
  at0 : ∀ i, i < L → E.cell? ⟨ab, i * 2, none⟩ = some (.int .i64 (id : Int))
  at1 : ∀ i, i < L → E.cell? ⟨ab, i * 2 + 1, none⟩ = some (.int .i64 ((O.getD i 0 : Nat) : Int))
  r1 : E.cell? ⟨rp, 1, none⟩ = some (.slice (some ⟨sb, 0, none⟩) n n)
  r2 : E.cell? ⟨rp, 2, none⟩ = some (.slice (some ⟨tb, 0, none⟩) 3 3)
  site : ∀ x, x < n → ∃ b c, E.cell? ⟨sb, x, none⟩ = some (.slice (some ⟨b, 0, none⟩) (if x ∈ O then 2 else 1) c) ∧ E.cell? ⟨b, 0, none⟩ = some (.int .i64 ((x % 3 + 10 : Nat) : Int)) ∧ (x ∈ O → E.cell? ⟨b, 1, none⟩ = some (.int .i64 (id : Int)))
  grp : ∃ G gc, E.cell? ⟨rp, 11, none⟩ = some (.slice (some ⟨G, 0, none⟩) (g0 + (Gs M O).length) gc) ∧ (∀ g, g < g0 → ∃ b, E.cell? ⟨G, g, none⟩ = some (.slice (some ⟨b, 0, none⟩) 1 1) ∧ E.cell? ⟨b, 0, none⟩ = some (.int .i64 0)) ∧
    ∀ j, j < (Gs M O).length → ∃ v, E.cell? ⟨G, g0 + j, none⟩ = some v ∧ Sl 0 E v ((Gs M O).getD j [])
  st : ∃ (items zv : Value) (wb n2 : Nat) (f : Nat → Option Value), E.rowIs tb 62 12 (fun j => if j = id * 4 + 1 then items else if j = id * 4 + 2 then .map (some wb) else if j = id * 4 + 3 then zv else TF j) ∧
    Sl 0 E items ((List.range (Gs M O).length).map fun j => g0 + j) ∧ WMp E wb n2 f ∧
    (∀ z, z < 8 → (f z).isSome = decide ((Gs M O).length < 2 * cn (fun j => (WMb M O 256).getD j 0) (Gs M O).length z)) ∧
    (∀ z v, z < 8 → f z = some v → Sl 0 E v (wo (fun j => (WMb M O 256).getD j 0) (fun j => g0 + j) (Gs M O).length z)) ∧
    HZ 0 E zv ((zlist ((WMb M O 256).getD 0 0) 8).filter fun z => (List.range ((Gs M O).length - 1)).all fun i => ((WMb M O 256).getD (i + 1) 0).testBit z)
theorem Sl.low {lo : Nat} {w : World} {v : Value} {l : List Nat} (h : Sl lo w v l) : Sl 0 w v l := by
  obtain ⟨p, c, e, h1⟩ := h
  exact ⟨p, c, e, fun h0 => by obtain ⟨b, e1, _, h2⟩ := h1 h0; exact ⟨b, e1, Nat.zero_le _, h2⟩⟩
theorem seg_list {O : List Nat} {L : Nat} (h : O.length = L) : seg (fun i => O.getD i 0) 0 L = O := by
  rw [← h]; exact seg_getD O
theorem any_mem {O : List Nat} {L x : Nat} (h : O.length = L) : ((List.range L).any fun j => O.getD j 0 == x) = decide (x ∈ O) := by
  rw [Bool.eq_iff_iff, decide_eq_true_eq, List.any_eq_true]
  constructor
  · rintro ⟨j, hj, e⟩
    have hj' : j < O.length := by rw [h]; exact List.mem_range.1 hj
    have e' : O.getD j 0 = x := by simpa using e
    rw [← e', getD_at hj']
    exact List.getElem_mem hj'
  · intro hx
    obtain ⟨j, hj, e⟩ := List.getElem_of_mem hx
    exact ⟨j, List.mem_range.2 (by omega), by rw [getD_at hj, e]; simp⟩
theorem Laid.fin {E : World} {ma moff : Nat} (h : Laid w V U A B C D n M O id g0 rp sb tb ob L oc zp zl zc gv vs) (hma : ma < w.heap.size) (hm : ∀ i, i < n → w.cell? ⟨ma, moff + i, none⟩ = some (.int .u8 (M i : Int)))
    (p : Post (cfOf w U B n M O id g0 rp sb tb L zp zl zc) D.heap.size (gbOf V gv) vs TF D E) : Fin w E n L id g0 ma moff V.heap.size U.heap.size ob rp sb tb M O := by
  have N := h.nums
  have h1 := N.a; have h2 := N.b; have h3 := N.c; have h4 := N.d; have h5 := N.e; have h6 := N.f; have h7 := N.hrp; have h8 := N.hsb; have h9 := N.htb; have hob := N.b2
  have hsg : seg (cfOf w U B n M O id g0 rp sb tb L zp zl zc).o 0 (cfOf w U B n M O id g0 rp sb tb L zp zl zc).L = O := seg_list h.len
  -- a block below A's size that is not the old groups' row is as it was
  have hkeep : ∀ b, b < A.heap.size → E.heap[b]? = D.heap[b]? := fun b hb => p.fr.block b (by omega) (by
    rintro (e | e | e | e | ⟨x, hx, e⟩)
    · have e' : b = rp := e; omega
    · have e' : b = sb := e; omega
    · have e' : b = tb := e; omega
    · obtain ⟨e1, e2⟩ := e
      have e2' : 0 < g0 := e2
      obtain ⟨g, cap, e3, h10, _⟩ := h.l8.own.form e2'
      have e4 : gbOf V gv = g := by rw [e3]; rfl
      omega
    · have e' : b = B.heap.size + x := e; omega)
  have hbel : Below w.heap.size w E := h.below.trans ⟨p.fr.os, p.fr.tape, p.fr.output, p.fr.size, fun k hk => hkeep k (by omega)⟩
  refine ⟨hbel, fun i hi => ?_, fun x hx => ?_, fun i hi => ?_, p.fix.at0, p.fix.at1, p.fix.r1, p.fix.r2, fun x hx => ?_, ?_, ?_⟩
  · exact (hbel.cell (p := ⟨ma, moff + i, none⟩) hma).trans (hm i hi)
  · exact (World.cell?_of_block (a := ⟨V.heap.size, x, none⟩) ((hkeep V.heap.size (by omega)).trans (h.fromU h2))).trans (h.l3.seen.cell hx)
  · have hown := h.l3.own
    rw [h.len] at hown
    exact (World.cell?_of_block (a := ⟨ob, i, none⟩) ((hkeep ob (by omega)).trans (h.fromU hob.2))).trans ((prow_of_owns h.len.symm hown).1.cell hi)
  · obtain ⟨blk, cap, hso⟩ := p.so
    have hll : lst (cfOf w U B n M O id g0 rp sb tb L zp zl zc) L x = (x % 3 + 10) :: (if x ∈ O then [id] else []) := by
      show (x % 3 + 10) :: (if ((List.range L).any fun j => O.getD j 0 == x) then [id] else []) = _
      rw [any_mem h.len]
      by_cases e : x ∈ O <;> simp [e]
    have hrow := hso.row.cell (i := x) hx
    have hown := hso.own x hx
    have hLL : (cfOf w U B n M O id g0 rp sb tb L zp zl zc).L = L := rfl
    rw [hLL, hll] at hrow hown
    obtain ⟨hp, _, _⟩ := prow_of_owns rfl hown
    by_cases e : x ∈ O
    · simp only [if_pos e] at hrow hp ⊢
      exact ⟨blk x, cap x, hrow, hp.cell (i := 0) (by simp), fun _ => hp.cell (i := 1) (by simp)⟩
    · simp only [if_neg e] at hrow hp ⊢
      exact ⟨blk x, cap x, hrow, hp.cell (i := 0) (by simp), fun e' => absurd e' e⟩
  · obtain ⟨G, gc, g1, g2, g3⟩ := p.groups
    rw [hsg] at g1 g3
    refine ⟨G, gc, g1, fun g hg => ?_, fun j hj => ?_⟩
    · obtain ⟨b, b1, b2, b3⟩ := h.l8.each g hg
      refine ⟨b, (g2 g hg).trans b1, ?_⟩
      have hbl : b < D.heap.size := (Array.getElem?_eq_some_iff.1 b3).1
      have hE : E.heap[b]? = D.heap[b]? := p.fr.block b hbl (by
        rintro (e | e | e | e | ⟨x, hx, e⟩)
        · have e' : b = rp := e; omega
        · have e' : b = sb := e; omega
        · have e' : b = tb := e; omega
        · obtain ⟨e1, e2⟩ := e
          have e2' : 0 < g0 := e2
          obtain ⟨g', cap, e3, _, _⟩ := h.l8.own.form e2'
          have e4 : gbOf V gv = g' := by rw [e3]; rfl
          obtain ⟨cur, e5⟩ := owns_kind h.l8.own (g := g') (by rw [e3]; rfl)
          rw [← e4, ← e1, b3] at e5
          cases e5
        · have e' : b = B.heap.size + x := e
          have hx' : x < n := hx
          omega)
      rw [cell_of_row E b 0 #[.int .i64 0] 3 (0, 0) (hE.trans b3)]
      rfl
    · obtain ⟨v, v1, v2⟩ := g3 j hj
      exact ⟨v, v1, v2.low⟩
  · obtain ⟨items, zv, wb, n2, f, s1, s2, s3, s4, s5, s6⟩ := p.site
    rw [hsg] at s2 s4 s5 s6
    refine ⟨items, zv, wb, n2, f, s1, s2.low, s3, s4, fun z v hz hv => (s5 z v hz hv).low, ?_⟩
    rcases s6 with e | ⟨B', L', l', cap', d', e1, e2, e3, e4, e5, e6, e7⟩
    · exact .inl e
    · exact .inr ⟨B', L', l', cap', d', e1, e2, e3, e4, Nat.zero_le _, e6, e7⟩
end
end SortA
end Go.Proofs.Ybulkdgou
