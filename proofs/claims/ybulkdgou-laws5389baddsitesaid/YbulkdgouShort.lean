import Derived.Test.YbulkdgouMaps
namespace Go.Proofs.Ybulkdgou
open Go.RowKit Go.Maps
attribute [local go_sem ↓] Go.wp_at_zero Go.wp_at_succ
namespace SortA

theorem info60 : (Yba.prog.info? 60).map (fun i => i.size) = some 2 := by kernel_rfl
/-- The frame of shortlistOf: what was there is as it was; its result's cell lies. -/
structure SF (w wr : World) : Prop where
  below : Below w.heap.size w wr
  res : wr.heap[w.heap.size]? = some (.cells #[.slice none 0 0, .map none] 60 (0, 0))
  sz : w.heap.size + 2 ≤ wr.heap.size
theorem SF.grown {w wr wr' : World} {row : Option Nat} (h : SF w wr) (hg : wr.grownBy wr' row) (hr : ∀ j, row = some j → w.heap.size < j) : SF w wr' :=
  ⟨h.below.grown hg (by have := h.sz; omega) (fun j hj => by have := hr j hj; omega), (hg.block _ (by have := h.sz; omega) (fun e => by have := hr _ e.symm; omega)).trans h.res, Nat.le_trans h.sz hg.size⟩
theorem grown_drewN (w : World) (q : Nat) (row : Option Nat) : w.grownBy (w.drewN q) row := ⟨rfl, rfl, rfl, Nat.le_refl _, fun _ _ _ => rfl⟩

set_option maxHeartbeats 2000000 in
set_option maxRecDepth 100000 in
theorem shortlist_any (rp ib k ic : Nat) (it : Nat → Nat) (zp : Nat → Option Addr) (zl zc mk : Nat → Nat) (w : World) (hk : 1 ≤ k) (hk2 : k ≤ 1024)
    (HI : Hid (∀ i, i < k → w.cell? ⟨ib, i, none⟩ = some (.int .i64 (it i : Int)))) (hib : ib < w.heap.size) (O : Hid (ZO w rp k it zp zl zc)) (HZN : Hid (∀ i, i < k → Zn w.heap.size w (zp i) (zl i) (zc i) (mk i))) :
    Calls Yba.prog 15 #[.slice (some ⟨ib, 0, none⟩) k ic, .func (.func 16) #[.pointer (some ⟨rp, 0, none⟩)] #[]] w fun e w' => Below w.heap.size w w' ∧ ∃ (wb n2 : Nat) (f : Nat → Option Value), e = .returned (.agg #[.slice (some ⟨ib, 0, none⟩) k ic, .map (some wb)]) ∧
      w.heap.size ≤ wb ∧ n2 ≤ 100000000 ∧ WMp w' wb n2 f ∧ (∀ z, z < 8 → (f z).isSome = decide (k < 2 * cn mk k z)) ∧ ∀ z v, z < 8 → f z = some v → Sl w.heap.size w' v (wo mk it k z) := by
  have hmm := @run_makeMap Yba.prog
  obtain ⟨H0, hH0⟩ : ∃ H0, H0 = w.heap.size := ⟨_, rfl⟩
  have HH0 : Hid (H0 = w.heap.size) := hH0
  have S0 : Hid (SF w ((w.alloc (.cells #[.slice none 0 0, .map none] 60)).alloc (.map #[] 0))) := by
    refine ⟨((Below.refl _ _).alloc (Nat.le_refl _) _).alloc (by simp) _, ?_, by simp⟩
    rw [Below.heap_alloc _ _ _ (by simp)]
    exact Go.Deep.blk_alloc_new _ _
  have M0 : Hid (HM ((w.alloc (.cells #[.slice none 0 0, .map none] 60)).alloc (.map #[] 0)) (w.heap.size + 1) 0 (.map []) (fun _ => 0)) := by
    have := HM.made (w.alloc (.cells #[.slice none 0 0, .map none] 60))
    have e1 : (w.alloc (.cells #[.slice none 0 0, .map none] 60)).heap.size = w.heap.size + 1 := by simp
    rw [e1] at this
    exact this
  clear hH0
  go_enter Yba.func15, Yba.ntmps15
  go_wp2_with fail
  go_loopg [20] k (fun gk s20 wr => ∃ i : Nat, i ≤ k ∧ gk = k - i ∧ s20 = .int .i64 (i : Int) ∧ SF w wr ∧ ∃ D n, n ≤ 8 * i ∧ HM wr (w.heap.size + 1) n D (cn mk i))
  case atStart => exact ⟨0, Nat.zero_le _, rfl, rfl, S0.out, _, 0, Nat.le_refl _, M0.out⟩
  case round =>
    obtain ⟨i, hi, rfl, rfl, hsf, D, n, hn, hm⟩ := hrel
    have HSF : Hid (SF w wr) := hsf
    have HHM : Hid (HM wr (w.heap.size + 1) n D (cn mk i)) := hm
    by_cases hlt : i < k
    · have hlti : (i : Int) < (k : Int) := by omega
      have c1 : wr.cell? ⟨ib, i, none⟩ = some (.int .i64 (it i : Int)) := (hsf.below.cell (p := ⟨ib, i, none⟩) hib).trans (HI.out i hlt)
      clear hsf hm
      obtain ⟨W1, hW1⟩ : ∃ W1 : World, W1 = wr := ⟨_, rfl⟩
      subst hW1
      go_wp2_with (first
        | (go_at_call 16; refine (O.out _ HSF.out.below i hlt).mono ?_; rintro e w1 ⟨rfl, q1, hq1⟩
           have HSF1 : Hid (SF w w1) := by rw [hq1]; exact HSF.out.grown (grown_drewN _ _ none) (fun j hj => by cases hj)
           have HHM1 : Hid (HM w1 (w.heap.size + 1) n D (cj mk i 0)) := by rw [cj_zero, hq1]; exact HHM.out.kept (grown_drewN _ _ none) (by simp)
           clear hq1))
      by_cases hzl0 : zl i = 0
      · have hcj : ∀ z, z < 8 → cj mk i 0 z = cn mk (i + 1) z := fun z hz => by
          have e0 : (zlist (mk i) 8).length = 0 := by rw [← (HZN.out i hlt).len]; exact hzl0
          rw [← cj_all mk i z hz, e0]
        have HCJ : Hid (∀ z, z < 8 → cj mk i 0 z = cn mk (i + 1) z) := hcj
        clear hcj
        rw [hzl0]
        go_loopg [28] 0 (fun gk s28 wr => gk = 0 ∧ s28 = .int .i64 0 ∧ wr = w1)
        case atStart => exact ⟨rfl, rfl, rfl⟩
        case round =>
          obtain ⟨rfl, rfl, rfl⟩ := hrel
          go_wp2_with fail
          go_roundg (k - (i + 1))
          case measure => omega
          case rel => exact ⟨i + 1, by omega, rfl, by go_num, HSF1.out, D, n, by omega, HHM1.out.congr HCJ.out⟩
      obtain ⟨zb, hzp, hcz0⟩ := (HZN.out i hlt).zs.cells (by omega)
      clear hcz0
      have HZP : Hid (zp i = some ⟨zb, 0, none⟩) := hzp
      rw [hzp]
      clear hzp
      go_loopg [28] (zl i) (fun gk s28 wr => ∃ j : Nat, j ≤ zl i ∧ gk = zl i - j ∧ s28 = .int .i64 (j : Int) ∧ SF w wr ∧ ∃ D n, n ≤ 8 * i + j ∧ HM wr (w.heap.size + 1) n D (cj mk i j))
      case atStart => exact ⟨0, Nat.zero_le _, rfl, rfl, HSF1.out, D, n, by omega, HHM1.out⟩
      case round =>
        obtain ⟨j, hj, rfl, rfl, hsf, D2, n2, hn2, hm⟩ := hrel
        have HSF2 : Hid (SF w wr) := hsf
        have HHM2 : Hid (HM wr (w.heap.size + 1) n2 D2 (cj mk i j)) := hm
        have hz8 : zl i ≤ 8 := by rw [(HZN.out i hlt).len]; exact zlist_len _ _
        by_cases hltj : j < zl i
        · have hltji : (j : Int) < ((zl i : Nat) : Int) := by omega
          obtain ⟨zb', hzp, hcz⟩ := ((HZN.out i hlt).below hsf.below (Nat.le_refl _)).zs.cells (by omega)
          obtain rfl : zb = zb' := by have e := HZP.out.symm.trans hzp; simpa using e
          obtain ⟨z, hz⟩ : ∃ z, z = (zlist (mk i) 8).getD j 0 := ⟨_, rfl⟩
          have hjl : j < (zlist (mk i) 8).length := by rw [← (HZN.out i hlt).len]; exact hltj
          have hzz : z < 8 := by rw [hz, getD_at hjl]; exact (mem_zlist.1 (List.getElem_mem hjl)).1
          have c2 : wr.cell? ⟨zb, j, none⟩ = some (.int .i64 (z : Int)) := by rw [hz]; exact hcz j hltj
          have HZE : Hid (z = (zlist (mk i) 8).getD j 0) := hz
          obtain ⟨cc, hcc⟩ : ∃ cc, cc = cj mk i j := ⟨_, rfl⟩
          have HCC : Hid (cc = cj mk i j) := hcc
          have HM2 : Hid (HM wr (w.heap.size + 1) n2 D2 cc) := by rw [hcc]; exact hm
          have hccz : cc z ≤ 1025 := by rw [hcc]; have := cj_le mk i j z; omega
          have hlk := HM.look HM2.out hzz
          clear hsf hm hcz hz hcc hzp
          go_wp2_with (first
            | (at_mapUpdate; refine wpList_store_hm _ rfl _ _ _ rfl (w.heap.size + 1) n2 z D2 cc rfl rfl (by first | rfl | simp) HM2.out hzz (by omega) (by omega) ?_; intro w2 hg2 hm2
               have HG2 : Hid (wr.grownBy w2 (some (w.heap.size + 1))) := hg2
               have HM3 : Hid (∃ D', HM w2 (w.heap.size + 1) (n2 + 1) D' (fun y => if y = z then cc y + 1 else cc y)) := hm2
               clear hg2 hm2))
          go_roundg (zl i - (j + 1))
          case measure => omega
          case rel =>
            obtain ⟨D3, h3⟩ := HM3.out
            rw [HCC.out, cj_succ mk i j z hjl HZE.out] at h3
            exact ⟨j + 1, by omega, rfl, by go_num, HSF2.out.grown HG2.out (fun j hj => by cases hj; omega), D3, n2 + 1, by omega, h3⟩
        · obtain rfl : j = zl i := by omega
          have hltji : ¬ ((zl i : Nat) : Int) < ((zl i : Nat) : Int) := by omega
          clear hsf hm
          go_wp2_with fail
          go_roundg (k - (i + 1))
          case measure => omega
          case rel =>
            refine ⟨i + 1, by omega, rfl, by go_num, HSF2.out, D2, n2, by omega, HHM2.out.congr fun z hz => ?_⟩
            rw [(HZN.out i hlt).len]
            exact cj_all mk i z hz
    · obtain rfl : i = k := by omega
      have hlti : ¬ (i : Int) < (i : Int) := by omega
      clear hsf hm
      have e1 : (wr.alloc (.map #[] 0)).heap.size = wr.heap.size + 1 := by simp
      obtain ⟨w0, hrun0, hrg0, hg0, hs0⟩ := (HHM.out.1.alloc (.map #[] 0)).range law3 (t := 72) Yba.underlying72
      rw [e1] at hrun0 hrg0 hs0
      have HW0 : Hid (WMp w0 wr.heap.size 0 (fun _ => none)) := (WMp.made wr).kept hg0 (by simp)
      have HS0 : Hid (SF w w0) := (HSF.out.grown (World.grownBy_alloc wr (.map #[] 0) none) (fun j hj => by cases hj)).grown hg0 (fun j hj => by cases hj)
      have HR0 : Hid (w0.ranges Yba.prog 3 (plainElem Yba.prog 3) (w.heap.size + 1) (wr.heap.size + 1) n D (Maps.has D) (Maps.size D)) := hrg0
      have hsz0 := HSF.out.sz
      have hmd : Maps.size D ≤ 8192 := by have := HHM.out.1.size_le; omega
      clear hrg0 hg0 hs0
      go_wp2_with fail
      obtain ⟨wb, hwb⟩ : ∃ wb, wr.heap.size = wb := ⟨_, rfl⟩
      have hwb2 : w.heap.size + 2 ≤ wb := by omega
      rw [hwb] at HR0 HW0 hrun0 e1 ⊢
      go_loopg [11] (Maps.size D) (fun gk s11 wr => ∃ (left : Lit → Bool) (f : Nat → Option Value) (n2 : Nat), wr.ranges Yba.prog 3 (plainElem Yba.prog 3) (w.heap.size + 1) (wb + 1) n D left gk ∧ SF w wr ∧ n2 + gk * 1025 ≤ 10000000 ∧ WMp wr wb n2 f ∧
        (∀ z : Nat, z < 8 → (f z).isSome = (!left (.int .i64 (z : Int)) && decide (i < 2 * cn mk i z))) ∧ (∀ x : Int, left (.int .i64 x) = true → Maps.has D (.int .i64 x) = true) ∧ ∀ z v, z < 8 → f z = some v → Sl (wb + 2) wr v (wo mk it i z))
      case atStart =>
        refine ⟨_, fun _ => none, 0, HR0.out, HS0.out, by omega, HW0.out, fun z hz => ?_, fun x h => h, fun z v _ h => by cases h⟩
        by_cases h0 : 0 < cn mk i z
        · rw [HHM.out.2.2.1 z hz h0]; rfl
        · rw [decide_eq_false (by omega), Bool.and_false]; rfl
      case round =>
        obtain ⟨left, f, n2, hrg, hsf, hn2, hwm, hf1, hlf, hf2⟩ := hrel
        have HSF3 : Hid (SF w wr) := hsf
        have HWM3 : Hid (WMp wr wb n2 f) := hwm
        have HF3 : Hid ((∀ z : Nat, z < 8 → (f z).isSome = (!left (.int .i64 (z : Int)) && decide (i < 2 * cn mk i z))) ∧ (∀ x : Int, left (.int .i64 x) = true → Maps.has D (.int .i64 x) = true) ∧ ∀ z v, z < 8 → f z = some v → Sl (wb + 2) wr v (wo mk it i z)) := ⟨hf1, hlf, hf2⟩
        clear hsf hwm hf1 hlf hf2
        go_wp2_with (first
          | (at_next; refine wpList_next_ranges_ii _ rfl _ rfl 3 3 .i64 .i64 law3 Yba.underlying3 Yba.underlying3 (w.heap.size + 1) (wb + 1) n D left _ rfl hrg ?_ ?_))
        · intro _ hl0
          have r0 : wr.cell? ⟨w.heap.size, 0, none⟩ = some (.slice none 0 0) := by rw [cell_of_row wr _ 0 _ _ _ HSF3.out.res]; rfl
          have r1 : wr.cell? ⟨w.heap.size, 1, none⟩ = some (.map none) := by rw [cell_of_row wr _ 1 _ _ _ HSF3.out.res]; rfl
          have f0 : wr.frozen? ⟨w.heap.size, 0, none⟩ = false := frozen_of_row wr _ 0 _ _ HSF3.out.res
          have f1 : wr.frozen? ⟨w.heap.size, 1, none⟩ = false := frozen_of_row wr _ 1 _ _ HSF3.out.res
          have HL0 : Hid (∀ kl, left kl = false) := hl0
          have hrs : ((wr.setCell ⟨w.heap.size, 0, none⟩ (.slice (some ⟨ib, 0, none⟩) i ic)).setCell ⟨w.heap.size, 1, none⟩ (.map (some wb))).heap[w.heap.size]? = some (.cells #[.slice (some ⟨ib, 0, none⟩) i ic, .map (some wb)] 60 (0, 0)) :=
            heap_setCell_same _ w.heap.size 1 _ 60 _ (heap_setCell_same wr w.heap.size 0 _ 60 _ HSF3.out.res)
          have HRS : Hid (((wr.setCell ⟨w.heap.size, 0, none⟩ (.slice (some ⟨ib, 0, none⟩) i ic)).setCell ⟨w.heap.size, 1, none⟩ (.map (some wb))).heap[w.heap.size]? = some (.cells #[.slice (some ⟨ib, 0, none⟩) i ic, .map (some wb)] 60 (0, 0))) := hrs
          have HGE : Hid (wr.grownBy ((wr.setCell ⟨w.heap.size, 0, none⟩ (.slice (some ⟨ib, 0, none⟩) i ic)).setCell ⟨w.heap.size, 1, none⟩ (.map (some wb))) (some w.heap.size)) :=
            ⟨rfl, rfl, rfl, by simp, fun k _ hk => by rw [Below.heap_setCell _ _ _ _ (fun e => hk (by rw [e])), Below.heap_setCell _ _ _ _ (fun e => hk (by rw [e]))]⟩
          clear hl0 hrs hrg
          go_wp2_with fail
          refine bodyPost_ret (results_cell_row rfl _ _ w.heap.size 60 _ (0, 0) _ (by rfl) HRS.out Yba.underlying60 rfl info60) rfl ?_
          refine ⟨HSF3.out.below.grown HGE.out (by have := HSF3.out.sz; omega) (fun j hj => by cases hj; exact Nat.le_refl _), wb, n2, f, rfl, by omega, by omega, HWM3.out.kept HGE.out (by intro e; have := Option.some.inj e; omega), fun z hz => ?_, fun z v hz hv => ?_⟩
          · rw [HF3.out.1 z hz, HL0.out]
            simp
          · obtain ⟨p, c, e1, h1⟩ := (HF3.out.2.2 z v hz hv).kept HGE.out (fun j hj => by cases hj; omega)
            refine ⟨p, c, e1, fun h0 => ?_⟩
            obtain ⟨b, e2, h2, h3⟩ := h1 h0
            exact ⟨b, e2, by omega, h3⟩
        · intro x c w1 cnt1 hwx hwc hlx hat hrg1 hlt1 hg1 hs1 hen
          obtain ⟨z, hz8, hxz, hcz0⟩ := HHM.out.2.1 x (HF3.out.2.1 x hlx)
          subst hxz
          have hcz : c = (cn mk i z : Int) := by
            have e := (hat (.lit (.int .i64 0))).symm.trans (HHM.out.2.2.2 z hz8)
            injection e with e1
            injection e1
          subst hcz
          obtain ⟨cz, hcz⟩ : ∃ cz, cn mk i z = cz := ⟨_, rfl⟩
          have HCZ : Hid (cn mk i z = cz) := hcz
          have hczl : cz ≤ 1024 := by have := cn_le mk i z; omega
          have HSF4 : Hid (SF w w1) := HSF3.out.grown hg1 (fun j hj => by cases hj; omega)
          have HWM4 : Hid (WMp w1 wb n2 f) := HWM3.out.kept hg1 (by simp)
          have HF4 : Hid (∀ z v, z < 8 → f z = some v → Sl (wb + 2) w1 v (wo mk it i z)) := fun z v h1 h2 => (HF3.out.2.2 z v h1 h2).kept hg1 (fun j hj => by cases hj; omega)
          have HRG1 : Hid (w1.ranges Yba.prog 3 (plainElem Yba.prog 3) (w.heap.size + 1) (wb + 1) n D (fun y => left y && !y.sameKey (.int .i64 (z : Int))) cnt1) := hrg1
          have HL4 : Hid (left (.int .i64 (z : Int)) = true) := hlx
          have HLN : Hid (∀ y : Nat, y ≠ z → (left (.int .i64 (y : Int)) && !(Lit.int .i64 (y : Int)).sameKey (.int .i64 (z : Int))) = left (.int .i64 (y : Int))) := fun y hy => by rw [sameKey_nat, decide_eq_false hy]; simp
          have hlz0 : (left (.int .i64 (z : Int)) && !(Lit.int .i64 (z : Int)).sameKey (.int .i64 (z : Int))) = false := by rw [sameKey_nat, decide_eq_true rfl]; simp
          have HLZ : Hid ((left (.int .i64 (z : Int)) && !(Lit.int .i64 (z : Int)).sameKey (.int .i64 (z : Int))) = false) := hlz0
          clear hlz0
          rw [hcz] at hen ⊢
          clear hrg hrg1 hlx hat hwx hwc hcz hg1 hs1
          by_cases h2 : i < 2 * cz
          · have h2i : ¬ (2 * (cz : Int)) ≤ (i : Int) := by omega
            have h2j : decide ((2 * (cz : Int)) ≤ (i : Int)) = false := decide_eq_false h2i
            have hown0 : Hid ((w1.alloc (.cells #[] 3)).ownsRow w1.heap.size 3 1 (.slice (some ⟨w1.heap.size, 0, none⟩) 0 0) 0 []) := World.ownsRow_lit w1 #[] 0 (Nat.le_refl _) (by unfold maxLen; omega) rfl
            have HWM5 : Hid (WMp (w1.alloc (.cells #[] 3)) wb n2 f) := HWM4.out.kept (World.grownBy_alloc w1 _ none) (by simp)
            obtain ⟨w2, hrun2, hg2, hm2⟩ := HWM5.out.store hz8 (by omega) (.slice (some ⟨w1.heap.size, 0, none⟩) 0 0)
            have HG2 : Hid (w1.grownBy w2 (some wb)) := (World.grownBy_alloc w1 (.cells #[] 3) (some wb)).andThen hg2 (fun j hj => .inr hj)
            have HM2 : Hid (WMp w2 wb (n2 + 1) (fun y => if y = z then some (.slice (some ⟨w1.heap.size, 0, none⟩) 0 0) else f y)) := hm2
            have HO2 : Hid (w2.ownsRow w1.heap.size 3 1 (.slice (some ⟨w1.heap.size, 0, none⟩) 0 0) 0 []) := hown0.out.kept hg2 (by right; intro e; simp [Value.ownBlock] at e; have := HWM4.out.lt; omega)
            clear hg2 hm2
            go_wp2_with fail
            obtain ⟨ii, hi0, hz0, hz1, hz2⟩ := info_parts info3
            go_loopg [56] i (fun gk s56 wr => ∃ (j n3 : Nat) (v : Value), j ≤ i ∧ gk = i - j ∧ s56 = .int .i64 (j : Int) ∧ w1.grownBy wr (some wb) ∧ n3 ≤ n2 + 1 + j ∧ WMp wr wb n3 (fun y => if y = z then some v else f y) ∧ wr.ownsRow w1.heap.size 3 1 v (wo mk it j z).length ((wo mk it j z).map fun (a : Nat) => Value.int .i64 (a : Int)))
            case atStart => exact ⟨0, n2 + 1, _, Nat.zero_le _, rfl, rfl, HG2.out, Nat.le_refl _, HM2.out, HO2.out⟩
            case round =>
              obtain ⟨j, n3, v, hj, rfl, rfl, hg6, hn3, hm6, ho6⟩ := hrel
              have HG6 : Hid (w1.grownBy wr (some wb)) := hg6
              have HM6 : Hid (WMp wr wb n3 (fun y => if y = z then some v else f y)) := hm6
              have HO6 : Hid (wr.ownsRow w1.heap.size 3 1 v (wo mk it j z).length ((wo mk it j z).map fun (a : Nat) => Value.int .i64 (a : Int))) := ho6
              have HS6 : Hid (SF w wr) := HSF4.out.grown hg6 (fun j hj => by cases hj; omega)
              clear hg6 hm6 ho6
              by_cases hlt6 : j < i
              · have hlti : (j : Int) < (i : Int) := by omega
                have c6 : wr.cell? ⟨ib, j, none⟩ = some (.int .i64 (it j : Int)) := (HS6.out.below.cell (p := ⟨ib, j, none⟩) hib).trans (HI.out j hlt6)
                obtain ⟨fb, hfb⟩ : ∃ fb, fb = (mk j).testBit z := ⟨_, rfl⟩
                have HFB : Hid (fb = (mk j).testBit z) := hfb
                have HFB2 : Hid (fb = has (zl j) (fun a => (zlist (mk j) 8).getD a 0) z) := by rw [(HZN.out j hlt6).len, has_zlist _ _ hz8]; exact hfb
                obtain ⟨ln, hln⟩ : ∃ ln, ln = (wo mk it j z).length := ⟨_, rfl⟩
                have hln2 : ln ≤ 1024 := by have := wo_len mk it j z; omega
                have HLN6 : Hid (ln = (wo mk it j z).length) := hln
                clear hfb hln
                cases fb with
                | true =>
                  go_wp2_with (first
                    | (go_at_call 16; refine (O.out _ HS6.out.below j hlt6).mono ?_; rintro e w5 ⟨rfl, q5, hq5⟩
                       have HZ5 : Hid (Zs w5 (zp j) (zl j) (fun a => (zlist (mk j) 8).getD a 0)) := by rw [hq5]; exact (((HZN.out j hlt6).below HS6.out.below (Nat.le_refl _)).drewN q5).zs
                       have HQ5 : Hid (w5 = wr.drewN q5) := hq5
                       clear hq5)
                    | (go_at_call 20; refine (bsearch_any (zp j) (zl j) (zc j) z _ true w5 HZ5 HFB2).mono ?_; rintro e w6 ⟨⟨k6, rfl⟩, hw6⟩; replace hw6 := hw6.symm; subst hw6))
                  go_roundg (i - (j + 1))
                  case measure => omega
                  case rel =>
                    have hq5 := HQ5.out
                    subst hq5
                    refine ⟨j + 1, n3, v, by omega, rfl, by go_num, HG6.out.andThen (grown_drewN wr q5 none) (fun j hj => by cases hj), by omega, HM6.out.kept (grown_drewN wr q5 none) (by simp), ?_⟩
                    rw [wo_succ, if_pos HFB.out.symm]
                    exact HO6.out
                | false =>
                  go_wp2_with (first
                    | (go_at_call 16; refine (O.out _ HS6.out.below j hlt6).mono ?_; rintro e w5 ⟨rfl, q5, hq5⟩
                       have HZ5 : Hid (Zs w5 (zp j) (zl j) (fun a => (zlist (mk j) 8).getD a 0)) := by rw [hq5]; exact (((HZN.out j hlt6).below HS6.out.below (Nat.le_refl _)).drewN q5).zs
                       have HG5 : Hid (w1.grownBy w5 (some wb)) := by rw [hq5]; exact HG6.out.andThen (grown_drewN wr q5 none) (fun j hj => by cases hj)
                       have HM5 : Hid (WMp w5 wb n3 (fun y => if y = z then some v else f y)) := by rw [hq5]; exact HM6.out.kept (grown_drewN wr q5 none) (by simp)
                       have HO5 : Hid (w5.ownsRow w1.heap.size 3 1 v ln ((wo mk it j z).map fun (a : Nat) => Value.int .i64 (a : Int))) := by rw [hq5, HLN6.out]; exact HO6.out
                       have hlk5 : (Instr.lookup 58 (.map (some wb)) (.int .i64 (z : Int)) false).run Yba.prog w5 = .ok v w5 := by have := HM5.out.look hz8; simpa using this
                       clear hq5)
                    | (go_at_call 20; refine (bsearch_any (zp j) (zl j) (zc j) z _ false w5 HZ5 HFB2).mono ?_; rintro e w6 ⟨⟨k6, rfl⟩, hw6⟩; replace hw6 := hw6.symm; subst hw6)
                    | (at_builtin
                       refine wpList_append_lies _ rfl _ _ _ rfl w1.heap.size 3 ii (.int .i64 0) 1 8 Yba.underlying22 hi0 hz0 hz1 hz2 rfl (by omega) v ln _ rfl (HO5.out.alloc _) ⟨w5.heap.size, 0, none⟩ 1 1 [.int .i64 (it j : Int)] rfl rfl (World.news_of_block (cs := #[.int .i64 (it j : Int)]) (Go.Deep.blk_alloc_new _ _)) (by simp [Value.oneCell']) (by omega) (by unfold maxLen; omega) (by omega) (by have := HG5.out.size; simp; omega) (w5.heap.size + 1) (by simp) ?_
                       intro g7 cap7 w7 hown7 hgrow7 hat7 hlt7
                       have HO7 : Hid (w7.ownsRow w1.heap.size 3 1 (.slice (some ⟨g7, 0, none⟩) (ln + 1) cap7) (ln + 1) (((wo mk it j z).map fun (a : Nat) => Value.int .i64 (a : Int)) ++ [.int .i64 (it j : Int)])) := hown7
                       have HG7 : Hid (w1.grownBy w7 (some wb)) := (HG5.out.andThen (World.grownBy_alloc w5 _ none) (fun j hj => by cases hj)).andThen hgrow7 (fun k hk => .inl (HO5.out.lt k hk).1)
                       have HM7 : Hid (WMp w7 wb n3 (fun y => if y = z then some v else f y)) := (HM5.out.kept (World.grownBy_alloc w5 _ none) (by simp)).kept hgrow7 (fun e => by have := (HO5.out.lt wb e.symm).1; have := HWM4.out.lt; omega)
                       clear hown7 hgrow7 hat7 hlt7)
                    | (at_mapUpdate
                       refine wpList_store_wm _ rfl _ _ _ rfl wb n3 z _ _ rfl rfl rfl HM7.out hz8 (by omega) ?_
                       intro w8 hg8 hm8
                       have HG8 : Hid (w7.grownBy w8 (some wb)) := hg8
                       have HM8 : Hid (WMp w8 wb (n3 + 1) (fun y => if y = z then some (.slice (some ⟨g7, 0, none⟩) (ln + 1) cap7) else (fun y => if y = z then some v else f y) y)) := hm8
                       clear hg8 hm8))
                  go_roundg (i - (j + 1))
                  case measure => omega
                  case rel =>
                    refine ⟨j + 1, n3 + 1, .slice (some ⟨g7, 0, none⟩) (ln + 1) cap7, by omega, rfl, by go_num, HG7.out.andThen HG8.out (fun j hj => .inr hj), by omega, ?_, ?_⟩
                    · have e1 : (fun y => if y = z then some (Value.slice (some ⟨g7, 0, none⟩) (ln + 1) cap7) else (fun y => if y = z then some v else f y) y) = fun y => if y = z then some (Value.slice (some ⟨g7, 0, none⟩) (ln + 1) cap7) else f y := by
                        funext y
                        by_cases e : y = z <;> simp [e]
                      rw [← e1]
                      exact HM8.out
                    · rw [wo_succ, if_neg (by rw [← HFB.out]; simp), List.length_append, List.map_append, ← HLN6.out]
                      exact HO7.out.kept HG8.out (.inr (fun e => by have := (HO7.out.lt wb e).1; have := HWM4.out.lt; omega))
              · obtain rfl : j = i := by omega
                have hlti : ¬ (j : Int) < (j : Int) := by omega
                go_wp2_with fail
                go_roundg cnt1
                case measure => omega
                case rel =>
                  refine ⟨_, _, n3, HRG1.out.kept HG6.out (by intro e; have := Option.some.inj e; omega) (by intro e; have := Option.some.inj e; omega), HS6.out, by omega, HM6.out, fun y hy => ?_, fun x hx => HF3.out.2.1 x (by simp at hx; exact hx.1), fun y v' hy hv => ?_⟩
                  · by_cases e : y = z
                    · subst e
                      rw [HLZ.out, HCZ.out, decide_eq_true h2]
                      simp
                    · rw [HLN.out y e, if_neg e]
                      exact HF3.out.1 y hy
                  · by_cases e : y = z
                    · subst e
                      rw [if_pos rfl] at hv
                      obtain rfl := Option.some.inj hv
                      exact Sl.of_owns rfl HO6.out (by have := HRG1.out.lt; omega)
                    · rw [if_neg e] at hv
                      exact (HF4.out y v' hy hv).kept HG6.out (fun j hj => by cases hj; omega)
          · have h2i : (2 * (cz : Int)) ≤ (i : Int) := by omega
            go_wp2_with fail
            go_roundg cnt1
            case measure => omega
            case rel =>
              refine ⟨_, f, n2, HRG1.out, HSF4.out, by omega, HWM4.out, fun y hy => ?_, fun x hx => HF3.out.2.1 x (by simp at hx; exact hx.1), HF4.out⟩
              by_cases e : y = z
              · subst e
                rw [HF3.out.1 y hy, HL4.out, HCZ.out, decide_eq_false h2]
                simp
              · rw [HLN.out y e]
                exact HF3.out.1 y hy
end SortA
end Go.Proofs.Ybulkdgou
