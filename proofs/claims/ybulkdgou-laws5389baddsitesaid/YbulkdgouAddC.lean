import Derived.Test.YbulkdgouAddB
namespace Go.Proofs.Ybulkdgou
open Go.RowKit
namespace SortA

/-- The first member of group j. -/
def fm (gl : List (List Nat)) (j : Nat) : Nat := (gl.getD j []).getD 0 0
theorem Gs_at {key : Nat → Nat} {l : List Nat} {j : Nat} (hj : j < (Gs key l).length) : (Gs key l).getD j [] = fv key l ((WMb key l 256).getD j 0) := by
  have hj2 : j < (WMb key l 256).length := by rw [← Gs_len]; exact hj
  simp only [Gs, List.getD, List.getElem?_map, List.getElem?_eq_getElem hj2, Option.map_some, Option.getD_some]
theorem Gs_head {key : Nat → Nat} {l : List Nat} {j : Nat} (hj : j < (Gs key l).length) : 0 < ((Gs key l).getD j []).length ∧ fm (Gs key l) j ∈ l ∧ key (fm (Gs key l) j) = (WMb key l 256).getD j 0 := by
  have e := Gs_at hj
  have hne : (Gs key l).getD j [] ≠ [] := by
    refine Gs_ne (key := key) (l := l) ?_
    simp only [List.getD, List.getElem?_eq_getElem hj, Option.getD_some]
    exact List.getElem_mem hj
  have hpos : 0 < ((Gs key l).getD j []).length := List.length_pos_iff.2 hne
  have hmem : fm (Gs key l) j ∈ (Gs key l).getD j [] := by
    unfold fm
    rw [getD_at hpos]
    exact List.getElem_mem hpos
  rw [e] at hmem
  unfold fv at hmem
  rw [List.mem_filter] at hmem
  exact ⟨hpos, hmem.1, by simpa using hmem.2⟩

/-- What groupZones reads. -/
structure GZ (c : Cf) (lo K G gc : Nat) (gl : List (List Nat)) (u : World) : Prop where
  r0 : u.cell? ⟨c.rp, 0, none⟩ = some (.slice (some ⟨c.mb, 0, none⟩) c.n c.n)
  r11 : u.cell? ⟨c.rp, 11, none⟩ = some (.slice (some ⟨G, 0, none⟩) (c.g0 + K) gc)
  gt : G ≠ c.tb
  grp : ∀ j, j < K → ∃ xb k kc, u.cell? ⟨G, c.g0 + j, none⟩ = some (.slice (some ⟨xb, 0, none⟩) k kc) ∧ 1 ≤ k ∧ u.cell? ⟨xb, 0, none⟩ = some (.int .i64 (fm gl j : Int)) ∧ xb ≠ c.tb
  zone : ∀ x, x < c.n → u.cell? ⟨c.mb, x * 6 + 3, none⟩ = some (.slice (c.zp x) (c.zl x) (c.zc x))
  zn : ∀ x, x < c.n → Zn lo u (c.zp x) (c.zl x) (c.zc x) (c.mask x)
theorem GZ.keep {c : Cf} {lo K G gc : Nat} {gl : List (List Nat)} {u u' : World} (h : GZ c lo K G gc gl u) (ok : Ok c lo) (hb : ∀ b, b < u.heap.size → b ≠ c.tb → u'.heap[b]? = u.heap[b]?) : GZ c lo K G gc gl u' := by
  have ne := ok.ne
  have hc : ∀ (a : Addr) (v : Value), u.cell? a = some v → a.block ≠ c.tb → u'.cell? a = some v := fun a v e h1 => (World.cell?_of_block (hb a.block (World.block_lt_of_cell? u a e) h1)).trans e
  refine ⟨hc _ _ h.r0 ne.2.2.2.2.2.2.2.1, hc _ _ h.r11 ne.2.2.2.2.2.2.2.1, h.gt, fun j hj => ?_, fun x hx => hc _ _ (h.zone x hx) ne.2.2.1, fun x hx => ?_⟩
  · obtain ⟨xb, k, kc, h1, h2, h3, h4⟩ := h.grp j hj
    exact ⟨xb, k, kc, hc _ _ h1 h.gt, h2, hc _ _ h3 h4, h4⟩
  · have hzn := h.zn x hx
    refine ⟨hzn.len, hzn.nil, ⟨fun h0 => ?_, hzn.zs.asc, hzn.zs.len⟩, hzn.lt⟩
    obtain ⟨zb, e, hc2⟩ := hzn.zs.cells h0
    exact ⟨zb, e, fun i hi => hc _ _ (hc2 i hi) (ok.zone x zb hx e).2.2.1⟩
theorem GZ.zo {c : Cf} {lo K G gc : Nat} {gl : List (List Nat)} {u : World} (h : GZ c lo K G gc gl u) (ok : Ok c lo) (hm : ∀ j, j < K → fm gl j < c.n) : ZO u c.rp K (fun j => c.g0 + j) (fun j => c.zp (fm gl j)) (fun j => c.zl (fm gl j)) (fun j => c.zc (fm gl j)) := by
  intro v hv j hj
  have h' : GZ c lo K G gc gl v := h.keep ok (fun b hb _ => hv.block b hb)
  obtain ⟨xb, k, kc, h1, h2, h3, _⟩ := h'.grp j hj
  exact groupZones_any c.rp c.mb c.n G (c.g0 + K) gc (c.g0 + j) xb k kc (fm gl j) (c.zl (fm gl j)) (c.zc (fm gl j)) (c.zp (fm gl j)) v (by omega) h2 (hm j hj) h'.r0 h'.r11 h1 h3 (h'.zone _ (hm j hj))
theorem Zn.up {lo lo' zl zc mask : Nat} {zp : Option Addr} {w : World} (h : Zn lo w zp zl zc mask) (hl : lo ≤ lo') : Zn lo' w zp zl zc mask := ⟨h.len, h.nil, h.zs, fun zb e => by have := h.lt zb e; omega⟩
theorem GZ.zns {c : Cf} {lo K G gc : Nat} {gl : List (List Nat)} {u : World} {mk : Nat → Nat} (h : GZ c lo K G gc gl u) (hlo : lo ≤ u.heap.size) (hm : ∀ j, j < K → fm gl j < c.n ∧ c.mask (fm gl j) = mk j) : ∀ j, j < K → Zn u.heap.size u (c.zp (fm gl j)) (c.zl (fm gl j)) (c.zc (fm gl j)) (mk j) := by
  intro j hj
  rw [← (hm j hj).2]
  exact (h.zn _ (hm j hj).1).up hlo
theorem S3.gz {c : Cf} {lo lo2 gb G gc : Nat} {d : Nat → Nat} {F gval : Nat → Value} {vs0 : List Value} {w wr : World} {gl : List (List Nat)} {k8 : Nat} {s8 : Value} (h : S3 c lo lo2 gb d F vs0 w wr gl k8 (.slice (some ⟨G, 0, none⟩) (c.g0 + gl.length) gc) s8 gval) (ok : Ok c lo) (hg : Gb c gb) (hvs : vs0.length = c.g0) (hne : ∀ j, j < gl.length → 0 < (gl.getD j []).length) :
    GZ c lo gl.length G gc gl wr := by
  have lt := ok.lt
  have hl2 := h.base.lo2
  refine ⟨h.base.fix.r0, h.rpr.cell (i := 11) (by omega), ?_, fun j hj => ?_, h.base.fix.zone, h.base.fix.zn⟩
  · rcases h.gvb G rfl with e | e
    · rw [e.1]; exact hg.tb
    · omega
  · have hgj := h.grp j hj
    have hpos := hne j hj
    obtain ⟨xb, kc, e, h1, h2⟩ := hgj.form hpos
    refine ⟨xb, _, kc, ?_, hpos, ?_, by omega⟩
    · rw [h.gown.cellAt (c.g0 + j) (by omega), List.getElem?_append_right (by omega), List.getElem?_map, List.getElem?_range (by omega)]
      have e1 : c.g0 + j - vs0.length = j := by omega
      rw [e1, Option.map_some, e]
    · rw [e] at hgj
      obtain ⟨hp, _, _⟩ := prow_of_owns rfl hgj
      exact hp.cell hpos

/-- What addSite leaves. -/
structure Post (c : Cf) (lo gb : Nat) (vs0 : List Value) (T : Nat → Value) (w w' : World) : Prop where
  fr : Fr (Wb c gb) w w'
  fix : Fix c lo w'
  so : ∃ blk cap, SO c lo c.L blk cap w'
  groups : ∃ G gc, w'.cell? ⟨c.rp, 11, none⟩ = some (.slice (some ⟨G, 0, none⟩) (c.g0 + (Gs c.mask (seg c.o 0 c.L)).length) gc) ∧ (∀ g, g < c.g0 → w'.cell? ⟨G, g, none⟩ = vs0[g]?) ∧
    ∀ j, j < (Gs c.mask (seg c.o 0 c.L)).length → ∃ v, w'.cell? ⟨G, c.g0 + j, none⟩ = some v ∧ Sl lo w' v ((Gs c.mask (seg c.o 0 c.L)).getD j [])
  site : ∃ (items zv : Value) (wb n2 : Nat) (f : Nat → Option Value), w'.rowIs c.tb 62 12 (fun j => if j = c.id * 4 + 1 then items else if j = c.id * 4 + 2 then .map (some wb) else if j = c.id * 4 + 3 then zv else T j) ∧
    Sl lo w' items ((List.range (Gs c.mask (seg c.o 0 c.L)).length).map fun j => c.g0 + j) ∧ WMp w' wb n2 f ∧
    (∀ z, z < 8 → (f z).isSome = decide ((Gs c.mask (seg c.o 0 c.L)).length < 2 * cn (fun j => (WMb c.mask (seg c.o 0 c.L) 256).getD j 0) (Gs c.mask (seg c.o 0 c.L)).length z)) ∧
    (∀ z v, z < 8 → f z = some v → Sl lo w' v (wo (fun j => (WMb c.mask (seg c.o 0 c.L) 256).getD j 0) (fun j => c.g0 + j) (Gs c.mask (seg c.o 0 c.L)).length z)) ∧
    HZ lo w' zv ((zlist ((WMb c.mask (seg c.o 0 c.L) 256).getD 0 0) 8).filter fun z => (List.range ((Gs c.mask (seg c.o 0 c.L)).length - 1)).all fun i => ((WMb c.mask (seg c.o 0 c.L) 256).getD (i + 1) 0).testBit z)
theorem S3.post {c : Cf} {lo lo2 gb G gc k8 : Nat} {d : Nat → Nat} {F T gval : Nat → Value} {vs0 : List Value} {w wr V : World} {s8 : Value} (h : S3 c lo lo2 gb d F vs0 w wr (Gs c.mask (seg c.o 0 c.L)) k8 (.slice (some ⟨G, 0, none⟩) (c.g0 + (Gs c.mask (seg c.o 0 c.L)).length) gc) s8 gval) (ok : Ok c lo) (hg : Gb c gb) (hvs : vs0.length = c.g0) (hf : Fr (fun b => b = c.tb) wr V)
    (hsite : ∃ (items zv : Value) (wb n2 : Nat) (f : Nat → Option Value), V.rowIs c.tb 62 12 (fun j => if j = c.id * 4 + 1 then items else if j = c.id * 4 + 2 then .map (some wb) else if j = c.id * 4 + 3 then zv else T j) ∧
    Sl lo V items ((List.range (Gs c.mask (seg c.o 0 c.L)).length).map fun j => c.g0 + j) ∧ WMp V wb n2 f ∧
    (∀ z, z < 8 → (f z).isSome = decide ((Gs c.mask (seg c.o 0 c.L)).length < 2 * cn (fun j => (WMb c.mask (seg c.o 0 c.L) 256).getD j 0) (Gs c.mask (seg c.o 0 c.L)).length z)) ∧
    (∀ z v, z < 8 → f z = some v → Sl lo V v (wo (fun j => (WMb c.mask (seg c.o 0 c.L) 256).getD j 0) (fun j => c.g0 + j) (Gs c.mask (seg c.o 0 c.L)).length z)) ∧
    HZ lo V zv ((zlist ((WMb c.mask (seg c.o 0 c.L) 256).getD 0 0) 8).filter fun z => (List.range ((Gs c.mask (seg c.o 0 c.L)).length - 1)).all fun i => ((WMb c.mask (seg c.o 0 c.L) 256).getD (i + 1) 0).testBit z)) :
    Post c lo gb vs0 T w V := by
  have lt := ok.lt
  have ne := ok.ne
  have hl2 := h.base.lo2
  have hs := h.base.sz
  have hb : ∀ b, b < wr.heap.size → b ≠ c.tb → V.heap[b]? = wr.heap[b]? := fun b h1 h2 => hf.block b h1 h2
  have hrp := hb c.rp (by omega) ne.2.2.2.2.2.2.2.1
  have hgt : G ≠ c.tb := by
    rcases h.gvb G rfl with e | e
    · rw [e.1]; exact hg.tb
    · omega
  have hGb := hb G (h.gown.lt G rfl).2 hgt
  refine ⟨⟨hf.os.trans h.base.fr.os, hf.tape.trans h.base.fr.tape, hf.output.trans h.base.fr.output, Nat.le_trans h.base.fr.size hf.size, fun k hk hn => (hb k (Nat.lt_of_lt_of_le hk h.base.fr.size) (fun e => hn (.inr (.inr (.inl e))))).trans (h.base.fr.block k hk hn)⟩, ?_, ?_, ⟨G, gc, ?_, fun g hgg => ?_, fun j hj => ⟨gval j, ?_, ?_⟩⟩, hsite⟩
  · exact h.base.fix.keep (gb := gb) ok (fun b h1 h2 => hb b (by omega) (fun e => h2 (.inr (.inr (.inl e))))) ⟨hg.mb, hg.ab⟩ hg.z (World.cell?_of_block (a := ⟨c.rp, 0, none⟩) hrp) (World.cell?_of_block (a := ⟨c.rp, 1, none⟩) hrp) (World.cell?_of_block (a := ⟨c.rp, 2, none⟩) hrp)
  · obtain ⟨blk, cap, hso, hbl⟩ := h.base.so
    refine ⟨blk, cap, hso.keep (hb _ (by omega) ne.2.2.2.2.2.2.2.2) (fun x hx => hb _ (by have := hbl x hx; omega) ?_)⟩
    rcases hso.blk x hx with e | e
    · rw [e]; exact (ok.q x hx).2.2.2.1
    · omega
  · exact (World.cell?_of_block (a := ⟨c.rp, 11, none⟩) hrp).trans (h.rpr.cell (i := 11) (by omega))
  · refine (World.cell?_of_block (a := ⟨G, g, none⟩) hGb).trans ?_
    rw [h.gown.cellAt g (by omega), List.getElem?_append_left (by omega)]
  · refine (World.cell?_of_block (a := ⟨G, c.g0 + j, none⟩) hGb).trans ?_
    rw [h.gown.cellAt (c.g0 + j) (by omega), List.getElem?_append_right (by omega), List.getElem?_map, List.getElem?_range (by omega)]
    have e1 : c.g0 + j - vs0.length = j := by omega
    rw [e1, Option.map_some]
  · have hgj := h.grp j hj
    have hgj2 : V.ownsRow lo2 3 1 (gval j) _ _ := owns_of_block hgj (fun b e => hb b (hgj.lt b e).2 (by have := (hgj.lt b e).1; omega))
    exact Sl.of_owns rfl hgj2 (by omega)
end SortA
end Go.Proofs.Ybulkdgou
