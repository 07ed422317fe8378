import Derived.Test.YbulkdgouDelete
import Derived.Laws.OwnMore
namespace Go.Proofs.Ybulkdgou
open Go.RowKit
attribute [local go_sem ↓] Go.wp_at_zero Go.wp_at_succ
namespace SortA

theorem getD_at {l : List Nat} {i : Nat} (h : i < l.length) : l.getD i 0 = l[i] := by simp [List.getD, List.getElem?_eq_getElem h]
theorem zlist_asc (mask n : Nat) : ∀ i j, i < j → j < (zlist mask n).length → (zlist mask n).getD i 0 < (zlist mask n).getD j 0 := by
  intro i j hij hj
  have hp : (zlist mask n).Pairwise (· < ·) := List.Pairwise.filter _ List.pairwise_lt_range
  rw [getD_at hj, getD_at (Nat.lt_trans hij hj)]
  exact (List.pairwise_iff_getElem.1 hp) i j (by omega) hj hij
theorem mem_zlist {mask n z : Nat} : z ∈ zlist mask n ↔ z < n ∧ mask.testBit z = true := by simp [zlist]
theorem has_zlist (mask z : Nat) (hz : z < 8) : has (zlist mask 8).length (fun i => (zlist mask 8).getD i 0) z = mask.testBit z := by
  rw [Bool.eq_iff_iff, has_iff]
  constructor
  · rintro ⟨i, hi, e⟩
    rw [getD_at hi] at e
    have : z ∈ zlist mask 8 := by rw [← e]; exact List.getElem_mem hi
    exact (mem_zlist.1 this).2
  · intro h
    obtain ⟨i, hi, e⟩ := List.getElem_of_mem (mem_zlist.2 ⟨hz, h⟩)
    exact ⟨i, hi, by rw [getD_at hi]; exact e⟩

/-- The zones of a mask, as a slice: nil where there are none. -/
structure Zn (lo : Nat) (w : World) (zp : Option Addr) (zl zc : Nat) (mask : Nat) : Prop where
  len : zl = (zlist mask 8).length
  nil : zl = 0 → zp = none ∧ zc = 0
  zs : Zs w zp zl (fun i => (zlist mask 8).getD i 0)
  lt : ∀ zb, zp = some ⟨zb, 0, none⟩ → zb < lo
theorem Zn.below {lo lo' zl zc mask : Nat} {zp : Option Addr} {w w' : World} (h : Zn lo w zp zl zc mask) (hb : Below lo' w w') (hl : lo ≤ lo') : Zn lo w' zp zl zc mask := by
  refine ⟨h.len, h.nil, ⟨fun h0 => ?_, h.zs.asc, h.zs.len⟩, h.lt⟩
  obtain ⟨zb, e, hc⟩ := h.zs.cells h0
  exact ⟨zb, e, fun i hi => (hb.cell (p := ⟨zb, i, none⟩) (Nat.lt_of_lt_of_le (h.lt zb e) hl)).trans (hc i hi)⟩

set_option maxHeartbeats 400000 in
set_option maxRecDepth 100000 in
theorem indexNil_any (f : Value) (w : World) : Calls Yba.prog 28 #[.slice none 0 0, f] w fun e w' => e = .returned (.int .i64 (-1)) ∧ w' = w := by
  go_enter Yba.func28, Yba.ntmps28
  go_wp2_with fail
  go_loopg [8] 0 (fun gk s8 wr => gk = 0 ∧ s8 = .int .i64 0 ∧ wr = w)
  case atStart => exact ⟨rfl, rfl, rfl⟩
  case round =>
    obtain ⟨rfl, rfl, rfl⟩ := hrel
    go_wp2_with fail
    go_ret
    exact ⟨rfl, rfl⟩
set_option maxHeartbeats 400000 in
set_option maxRecDepth 100000 in
theorem deleteNil_any (f : Value) (w : World) : Calls Yba.prog 22 #[.slice none 0 0, f] w fun e w' => e = .returned (.slice none 0 0) ∧ w' = w := by
  go_enter Yba.func22, Yba.ntmps22
  go_wp2_with (first | (go_at_call 28; refine (indexNil_any _ w).mono ?_; rintro e w' ⟨rfl, hw'⟩; replace hw' := hw'.symm; subst hw'))
  go_ret
  exact ⟨rfl, rfl⟩
set_option maxHeartbeats 400000 in
set_option maxRecDepth 100000 in
theorem cloneNil_any (w : World) : Calls Yba.prog 21 #[.slice none 0 0] w fun e w' => e = .returned (.slice none 0 0) ∧ w' = w := by
  have hq := Lib.run_eql_slice_nil (P := Yba.prog) w 22 3 none 0 0 0 0 Yba.underlying22
  go_enter Yba.func21, Yba.ntmps21
  go_wp2_with fail
  go_ret
  exact ⟨rfl, rfl⟩
theorem prow_of_owns {w : World} {base g cap n : Nat} {l : List Nat} (hn : n = l.length) (h : w.ownsRow base 3 1 (.slice (some ⟨g, 0, none⟩) n cap) n (l.map fun (z : Nat) => Value.int .i64 (z : Int))) : PRow g n (fun i => l.getD i 0) w ∧ base ≤ g ∧ n ≤ cap := by
  rcases h.2 with ⟨h', _⟩ | ⟨g', cap', cur, h', hb, hg, hnc, _, hs, htake⟩
  · simp at h'
  · simp only [Value.slice.injEq, Option.some.injEq, Addr.mk.injEq, and_true, true_and] at h'
    obtain ⟨rfl, rfl⟩ := h'
    refine ⟨⟨cur, hg, by omega, fun i hi => ?_⟩, hb, hnc⟩
    have e1 : (cur.toList.take (n * 1))[i]? = cur[i]? := by rw [List.getElem?_take, if_pos (by omega)]; simp
    have hil : i < l.length := by omega
    show cur[i]? = some (.int .i64 ((l.getD i 0 : Nat) : Int))
    rw [← e1, htake, List.getElem?_map, getD_at hil, List.getElem?_eq_getElem hil]
    rfl
theorem seg_getD (l : List Nat) : seg (fun i => l.getD i 0) 0 l.length = l := by
  apply List.ext_getElem
  · simp [seg]
  · intro i h1 h2
    simp only [seg, List.getElem_map, List.getElem_range, Nat.zero_add]
    exact getD_at h2

set_option maxHeartbeats 400000 in
set_option maxRecDepth 100000 in
theorem clone_any (zb zl zc : Nat) (l : List Nat) (w : World) (hl : Hid (zl = l.length)) (h0 : 0 < zl) (h8 : zl ≤ 8) (hc : Hid (∀ i, i < zl → w.cell? ⟨zb, i, none⟩ = some (.int .i64 (l.getD i 0 : Nat)))) :
    Calls Yba.prog 21 #[.slice (some ⟨zb, 0, none⟩) zl zc] w fun e w' => Below w.heap.size w w' ∧ ∃ g cap : Nat, e = .returned (.slice (some ⟨g, 0, none⟩) zl cap) ∧ w.heap.size ≤ g ∧ zl ≤ cap ∧ PRow g zl (fun i => l.getD i 0) w' := by
  have hq := Lib.run_eql_slice_nil (P := Yba.prog) w 22 3 (some ⟨zb, 0, none⟩) zl zc 0 0 Yba.underlying22
  obtain ⟨ii, hi0, hz0, hz1, hz2⟩ := info_parts info3
  have hown : Hid ((w.alloc (.cells #[] 3)).ownsRow w.heap.size 3 1 (.slice (some ⟨w.heap.size, 0, none⟩) 0 0) 0 []) := World.ownsRow_lit w #[] 0 (Nat.le_refl _) (by unfold maxLen; omega) rfl
  have HNW : Hid (∀ j u, (l.map fun (z : Nat) => Value.int .i64 (z : Int))[j]? = some u → (w.alloc (.cells #[] 3)).cell? ((⟨zb, 0, none⟩ : Addr).add j) = some u) := by
    intro j u hu
    have hadd : (⟨zb, 0, none⟩ : Addr).add j = ⟨zb, j, none⟩ := by unfold Addr.add; split <;> simp_all
    rw [List.getElem?_map] at hu
    by_cases hj : j < l.length
    · rw [List.getElem?_eq_getElem hj] at hu
      have c1 := hc.out j (by rw [hl.out]; exact hj)
      rw [getD_at hj] at c1
      have e1 : (w.alloc (.cells #[] 3)).cell? ⟨zb, j, none⟩ = w.cell? ⟨zb, j, none⟩ := World.cell?_of_block (Below.heap_alloc w _ _ (World.block_lt_of_cell? w _ c1))
      rw [hadd, e1, c1]
      simpa using hu
    · rw [List.getElem?_eq_none (by omega)] at hu
      simp at hu
  have HL1 : Hid ((l.map fun (z : Nat) => Value.int .i64 (z : Int)).length = zl * 1) := by rw [List.length_map, hl.out]; exact (Nat.mul_one _).symm
  have HL2 : Hid (∀ u ∈ (l.map fun (z : Nat) => Value.int .i64 (z : Int)), u.oneCell' = true) := by
    intro u hu
    obtain ⟨z, _, rfl⟩ := List.mem_map.1 hu
    rfl
  go_enter Yba.func21, Yba.ntmps21
  go_wp2_with (at_builtin; refine wpList_append_lies _ rfl _ _ _ rfl w.heap.size 3 ii (.int .i64 0) 1 8 Yba.underlying22 hi0 hz0 hz1 hz2 rfl (by omega) _ 0 [] rfl hown.out ⟨zb, 0, none⟩ zl zc (l.map fun (z : Nat) => Value.int .i64 (z : Int)) rfl HL1.out HNW.out HL2.out h0 (by unfold maxLen; omega) (by omega) (by simp) (w.heap.size + 1) (by simp) ?_; intro g' cap' w3 hown3 hgrow hat hlt3)
  go_ret
  have e0 : 0 + zl = zl := Nat.zero_add _
  have hown4 : w3.ownsRow w.heap.size 3 1 (.slice (some ⟨g', 0, none⟩) zl cap') zl (l.map fun (z : Nat) => Value.int .i64 (z : Int)) := by
    rw [e0, List.nil_append] at hown3; exact hown3
  obtain ⟨h1, h2, h3⟩ := prow_of_owns hl.out hown4
  refine ⟨((Below.refl _ _).alloc (Nat.le_refl _) _).grown hgrow (by simp) (fun k hk => (hown.out.lt k hk).1), g', cap', ?_, h2, h3, h1⟩
  simp

/-- The zones held so far. -/
def HZ (lo : Nat) (w : World) (v : Value) (zs : List Nat) : Prop :=
  (zs = [] ∧ v = .slice none 0 0) ∨ ∃ B L l cap : Nat, ∃ d, v = .slice (some ⟨B, 0, none⟩) l cap ∧ l ≤ L ∧ l ≤ cap ∧ L ≤ 1024 ∧ lo ≤ B ∧ PRow B L d w ∧ seg d 0 l = zs
theorem HZ.below {lo lo' : Nat} {w w' : World} {v : Value} {zs : List Nat} (h : HZ lo w v zs) (hb : Below lo' w w') (hl : ∀ B, v.ownBlock = some B → B < lo') : HZ lo w' v zs := by
  rcases h with h | ⟨B, L, l, cap, d, rfl, h1, h2, h3, h4, h5, h6⟩
  · exact .inl h
  · exact .inr ⟨B, L, l, cap, d, rfl, h1, h2, h3, h4, h5.of_block (hb.block B (hl B rfl)), h6⟩
theorem HZ.lt {lo : Nat} {w : World} {v : Value} {zs : List Nat} (h : HZ lo w v zs) : ∀ B, v.ownBlock = some B → lo ≤ B ∧ B < w.heap.size := by
  rcases h with ⟨_, rfl⟩ | ⟨B, L, l, cap, d, rfl, h1, h2, h3, h4, h5, h6⟩
  · intro B h; simp [Value.ownBlock] at h
  · intro B' h
    simp [Value.ownBlock] at h
    subst h
    exact ⟨h4, h5.lt⟩
theorem Below.but {lo B : Nat} {a w w' : World} (h : Below lo a w) (hb : But B w w') (hB : lo ≤ B) : Below lo a w' :=
  ⟨hb.os.trans h.os, hb.tape.trans h.tape, hb.output.trans h.output, by rw [hb.size]; exact h.size, fun k hk => (hb.block k (by omega)).trans (h.block k hk)⟩

theorem delete_any (lo hb zl zc : Nat) (v : Value) (zs : List Nat) (zp : Option Addr) (Z : Nat → Nat) (w : World) (H : HZ lo w v zs) (hlo : lo ≤ w.heap.size) (hhb : ∀ B, v.ownBlock = some B → hb ≠ B) (hzb : ∀ zb, zp = some ⟨zb, 0, none⟩ → zb < lo)
    (hc : w.cell? ⟨hb, 0, none⟩ = some (.slice zp zl zc)) (h : Hid (Zs w zp zl Z)) :
    Calls Yba.prog 22 #[v, .func (.func 23) #[] #[.pointer (some ⟨hb, 0, none⟩)]] w fun e w' => Below lo w w' ∧ w'.heap.size = w.heap.size ∧ ∃ v', e = .returned v' ∧ HZ lo w' v' (zs.filter (fun z => has zl Z z)) := by
  rcases H with ⟨rfl, rfl⟩ | ⟨B, L, l, cap, d, rfl, h1, h2, h3, h4, h5, h6⟩
  · refine (deleteNil_any _ w).mono ?_
    rintro e w' ⟨rfl, rfl⟩
    exact ⟨Below.refl _ _, rfl, _, rfl, .inl ⟨rfl, rfl⟩⟩
  · refine (deleteFunc_any B L l cap hb zl zc d zp Z w (by omega) h1 h2 (hhb B rfl) (fun zb hz => by have := hzb zb hz; omega) hc h h5).mono ?_
    rintro e w' ⟨hbut, l', d', hl', rfl, hrow, hseg⟩
    exact ⟨Below.but (Below.refl _ _) hbut h4, hbut.size, _, rfl, .inr ⟨B, L, l', cap, d', rfl, by omega, by omega, h3, h4, hrow, by rw [hseg, h6]⟩⟩

theorem delete_new (lo zl zc mask : Nat) (v : Value) (zs : List Nat) (zp : Option Addr) (w : World) (H : HZ lo w v zs) (hlo : lo ≤ w.heap.size) (hz : Zn lo w zp zl zc mask) :
    Calls Yba.prog 22 #[v, .func (.func 23) #[] #[.pointer (some ⟨w.heap.size, 0, none⟩)]] (w.alloc (.cells #[.slice zp zl zc] 22)) fun e w' => Below lo w w' ∧ ∃ v', e = .returned v' ∧ HZ lo w' v' (zs.filter (fun z => has zl (fun i => (zlist mask 8).getD i 0) z)) := by
  have BX : Below w.heap.size w (w.alloc (.cells #[.slice zp zl zc] 22)) := (Below.refl w.heap.size w).alloc (Nat.le_refl _) _
  have hc : (w.alloc (.cells #[.slice zp zl zc] 22)).cell? ⟨w.heap.size, 0, none⟩ = some (.slice zp zl zc) := by
    rw [cell_of_row _ w.heap.size 0 #[.slice zp zl zc] 22 (0, 0) (Go.Deep.blk_alloc_new _ _)]
    rfl
  refine (delete_any lo w.heap.size zl zc v zs zp (fun i => (zlist mask 8).getD i 0) _ (HZ.below H BX (fun B hB => (H.lt B hB).2)) (Nat.le_trans hlo BX.size) (fun B hB => by have := (H.lt B hB).2; omega) hz.lt hc (hz.below BX hlo).zs).mono ?_
  rintro e w' ⟨hb, _, v', rfl, h⟩
  exact ⟨(BX.mono hlo).trans hb, v', rfl, h⟩

theorem cloneZn_any (lo zl zc mask : Nat) (zp : Option Addr) (w : World) (h : Zn lo w zp zl zc mask) (hlo : lo ≤ w.heap.size) :
    Calls Yba.prog 21 #[.slice zp zl zc] w fun e w' => Below w.heap.size w w' ∧ ∃ v, e = .returned v ∧ HZ w.heap.size w' v (zlist mask 8) := by
  by_cases h0 : zl = 0
  · obtain ⟨rfl, rfl⟩ := h.nil h0
    subst h0
    refine (cloneNil_any w).mono ?_
    rintro e w' ⟨rfl, rfl⟩
    exact ⟨Below.refl _ _, _, rfl, .inl ⟨List.length_eq_zero_iff.1 h.len.symm, rfl⟩⟩
  · obtain ⟨zb, rfl, hc⟩ := h.zs.cells (by omega)
    have h8 := zlist_len mask 8
    refine (clone_any zb zl zc (zlist mask 8) w h.len (by omega) (by rw [h.len]; exact h8) hc).mono ?_
    rintro e w' ⟨hb, g, cap, rfl, h1, h2, h3⟩
    refine ⟨hb, _, rfl, .inr ⟨g, zl, zl, cap, _, rfl, Nat.le_refl _, h2, by have := h.len; omega, h1, h3, ?_⟩⟩
    rw [h.len]
    exact seg_getD _

theorem below_drewN (B : Nat) (w : World) (q : Nat) : Below B w (w.drewN q) := ⟨rfl, rfl, rfl, Nat.le_refl _, fun _ _ => rfl⟩
theorem Zn.drewN {lo zl zc mask : Nat} {zp : Option Addr} {w : World} (h : Zn lo w zp zl zc mask) (q : Nat) : Zn lo (w.drewN q) zp zl zc mask := h.below (below_drewN lo w q) (Nat.le_refl _)
theorem HZ.drewN {lo : Nat} {w : World} {v : Value} {zs : List Nat} (h : HZ lo w v zs) (q : Nat) : HZ lo (w.drewN q) v zs := h
/-- zonesOf answers at each of the items. -/
def ZO (w : World) (rp k : Nat) (it : Nat → Nat) (zp : Nat → Option Addr) (zl zc : Nat → Nat) : Prop :=
  ∀ u, Below w.heap.size w u → ∀ i, i < k → Calls Yba.prog 16 #[.pointer (some ⟨rp, 0, none⟩), .int .i64 (it i : Int)] u fun e u' => e = .returned (.slice (zp i) (zl i) (zc i)) ∧ ∃ q, u' = u.drewN q

theorem held_step (j : Nat) (mk : Nat → Nat) (n : Nat) (zs : List Nat) (hzs : zs = (zlist (mk 0) 8).filter fun z => (List.range j).all fun i => (mk (i + 1)).testBit z) (hn : n = (zlist (mk (j + 1)) 8).length) :
    zs.filter (fun z => has n (fun i => (zlist (mk (j + 1)) 8).getD i 0) z) = (zlist (mk 0) 8).filter fun z => (List.range (j + 1)).all fun i => (mk (i + 1)).testBit z := by
  subst hn hzs
  rw [List.filter_filter]
  apply List.filter_congr
  intro z hz
  rw [has_zlist _ z (mem_zlist.1 hz).1, List.range_succ, List.all_append, Bool.and_comm]
  simp

set_option maxHeartbeats 1000000 in
set_option maxRecDepth 100000 in
theorem held_any (rp ib k ic : Nat) (it : Nat → Nat) (zp : Nat → Option Addr) (zl zc mk : Nat → Nat) (w : World) (hk : 1 ≤ k) (hk2 : k ≤ 1024) (hkc : k ≤ ic)
    (HI : Hid (∀ i, i < k → w.cell? ⟨ib, i, none⟩ = some (.int .i64 (it i : Int)))) (hib : ib < w.heap.size) (O : Hid (ZO w rp k it zp zl zc)) (HZN : Hid (∀ i, i < k → Zn w.heap.size w (zp i) (zl i) (zc i) (mk i))) :
    Calls Yba.prog 17 #[.slice (some ⟨ib, 0, none⟩) k ic, .func (.func 16) #[.pointer (some ⟨rp, 0, none⟩)] #[]] w fun e w' => Below w.heap.size w w' ∧ ∃ v, e = .returned v ∧ HZ w.heap.size w' v ((zlist (mk 0) 8).filter fun z => (List.range (k - 1)).all fun i => (mk (i + 1)).testBit z) := by
  have c0 := HI.out 0 hk
  have hki : (0 : Int) < (k : Int) := by omega
  have hki1 : (1 : Int) ≤ (k : Int) := by omega
  have hki2 : (1 : Int) ≤ (ic : Int) := by omega
  have hki3 : (k : Int) ≤ (ic : Int) := by omega
  have hmf : ∀ fn first cap w, (Instr.makeFunc fn first cap).run Yba.prog w = .ok (.func fn first cap) w := fun _ _ _ _ => rfl
  by_cases hic : ic = 1
  · subst hic
    obtain rfl : k = 1 := by omega
    go_enter Yba.func17, Yba.ntmps17
    go_wp2_with (first
      | (go_at_call 16; refine (O.out _ (Below.refl _ _) 0 hk).mono ?_; rintro e w' ⟨rfl, q, rfl⟩)
      | (go_at_call 21; refine (cloneZn_any w.heap.size (zl 0) (zc 0) (mk 0) (zp 0) (w.drewN q) ((HZN.out 0 hk).drewN q) (Nat.le_refl _)).mono ?_; rintro e w' ⟨hb1, v, rfl, hv⟩))
    have HB1 : Hid (Below w.heap.size w w') := (below_drewN _ w q).trans hb1
    have HV : Hid (HZ w.heap.size w' v (zlist (mk 0) 8)) := hv
    clear hb1 hv
    go_loopg [5, 18] 0 (fun gk s5 s18 wr => gk = 0 ∧ s5 = v ∧ s18 = .int .i64 0 ∧ wr = w')
    case atStart => exact ⟨rfl, rfl, rfl, rfl⟩
    case round =>
      obtain ⟨rfl, rfl, rfl, rfl⟩ := hrel
      go_wp2_with fail
      go_ret
      refine ⟨HB1.out, _, rfl, ?_⟩
      have e1 : (zlist (mk 0) 8).filter (fun z => (List.range (1 - 1)).all fun i => (mk (i + 1)).testBit z) = zlist (mk 0) 8 := List.filter_eq_self.2 fun z _ => by simp
      rw [e1]
      exact HV.out
  · have hicn : ic = 1 ↔ False := by simp [hic]
    go_enter Yba.func17, Yba.ntmps17
    go_wp2_with (first
      | (go_at_call 16; refine (O.out _ (Below.refl _ _) 0 hk).mono ?_; rintro e w' ⟨rfl, q, rfl⟩)
      | (go_at_call 21; refine (cloneZn_any w.heap.size (zl 0) (zc 0) (mk 0) (zp 0) (w.drewN q) ((HZN.out 0 hk).drewN q) (Nat.le_refl _)).mono ?_; rintro e w' ⟨hb1, v, rfl, hv⟩))
    have HB1 : Hid (Below w.heap.size w w') := (below_drewN _ w q).trans hb1
    have HV : Hid (HZ w.heap.size w' v (zlist (mk 0) 8)) := hv
    clear hb1 hv
    go_loopg [5, 18] (k - 1) (fun gk s5 s18 wr => ∃ j : Nat, j ≤ k - 1 ∧ gk = k - 1 - j ∧ s18 = .int .i64 (j : Int) ∧ Below w.heap.size w wr ∧ HZ w.heap.size wr s5 ((zlist (mk 0) 8).filter fun z => (List.range j).all fun i => (mk (i + 1)).testBit z))
    case atStart =>
      refine ⟨0, Nat.zero_le _, rfl, rfl, HB1.out, ?_⟩
      have e1 : (zlist (mk 0) 8).filter (fun z => (List.range 0).all fun i => (mk (i + 1)).testBit z) = zlist (mk 0) 8 := List.filter_eq_self.2 fun z _ => by simp
      rw [e1]
      exact HV.out
    case round =>
      obtain ⟨j, hj, rfl, rfl, hb, hz⟩ := hrel
      have HB : Hid (Below w.heap.size w wr) := hb
      have HH : Hid (HZ w.heap.size wr u5 ((zlist (mk 0) 8).filter fun z => (List.range j).all fun i => (mk (i + 1)).testBit z)) := hz
      have hsz := hb.size
      by_cases hlt : j < k - 1
      · have hlti : (j : Int) < ((k - 1 : Nat) : Int) := by omega
        have c1 : wr.cell? ⟨ib, 1 + j, none⟩ = some (.int .i64 (it (j + 1) : Int)) := (hb.cell (p := ⟨ib, 1 + j, none⟩) hib).trans (by rw [Nat.add_comm 1 j]; exact HI.out (j + 1) (by omega))
        have hj1 : j + 1 < k := by omega
        clear hb hz
        go_wp2_with (first
          | (go_at_call 16; refine (O.out _ HB.out (j + 1) hj1).mono ?_; rintro e w1 ⟨rfl, q1, hq1⟩; have HQ : Hid (w1 = wr.drewN q1) := hq1;
             have HH1 : Hid (HZ w.heap.size w1 u5 ((zlist (mk 0) 8).filter fun z => (List.range j).all fun i => (mk (i + 1)).testBit z)) := by rw [hq1]; exact HH.out
             have HB1 : Hid (Below w.heap.size w w1) := by rw [hq1]; exact HB.out.trans (below_drewN _ _ _)
             have HX : Hid (Zn w.heap.size w1 (zp (j + 1)) (zl (j + 1)) (zc (j + 1)) (mk (j + 1))) := (HZN.out (j + 1) hj1).below HB1.out (Nat.le_refl _)
             clear hq1)
          | (go_at_call 22
             refine (delete_new w.heap.size _ _ _ u5 _ _ w1 HH1.out HB1.out.size HX.out).mono ?_
             rintro e w2 ⟨hb2, v2, rfl, hv2⟩
             have HV2 : Hid (HZ w.heap.size w2 v2 ((((zlist (mk 0) 8).filter fun z => (List.range j).all fun i => (mk (i + 1)).testBit z)).filter fun z => has (zl (j + 1)) (fun i => (zlist (mk (j + 1)) 8).getD i 0) z)) := hv2
             have HB2 : Hid (Below w.heap.size w w2) := HB1.out.trans hb2
             clear hb2 hv2))
        go_roundg (k - 1 - (j + 1))
        case measure => omega
        case rel =>
          refine ⟨j + 1, by omega, rfl, by go_num, HB2.out, ?_⟩
          rw [← held_step j mk _ _ rfl (HZN.out (j + 1) hj1).len]
          exact HV2.out
      · obtain rfl : j = k - 1 := by omega
        have hlti : ¬ ((k - 1 : Nat) : Int) < ((k - 1 : Nat) : Int) := by omega
        clear hb hz
        go_wp2_with fail
        go_ret
        exact ⟨HB.out, _, rfl, HH.out⟩
end SortA
end Go.Proofs.Ybulkdgou
