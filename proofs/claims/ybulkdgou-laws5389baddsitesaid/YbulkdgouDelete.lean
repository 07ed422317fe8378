import Derived.Test.YbulkdgouClear
namespace Go.Proofs.Ybulkdgou
open Go.RowKit
attribute [local go_sem ↓] Go.wp_at_zero Go.wp_at_succ
namespace SortA

theorem Zs.but {B zl : Nat} {zp : Option Addr} {Z : Nat → Nat} {w w' : World} (h : Zs w zp zl Z) (hb : But B w w') (hz : ∀ zb, zp = some ⟨zb, 0, none⟩ → zb ≠ B) : Zs w' zp zl Z := by
  refine ⟨fun h0 => ?_, h.asc, h.len⟩
  obtain ⟨zb, e, hc⟩ := h.cells h0
  exact ⟨zb, e, fun i hi => (hb.cell (p := ⟨zb, i, none⟩) (hz zb e)).trans (hc i hi)⟩
theorem seg_succ (d : Nat → Nat) (b : Nat) : seg d 0 (b + 1) = seg d 0 b ++ [d b] := by
  rw [seg_split d (Nat.zero_le b) (Nat.le_succ b)]
  congr 1
  simp [seg]
theorem zero3 (w : World) : (zeroValue 3).run Yba.prog w = .ok (.int .i64 0) w := by
  obtain ⟨i, hi, hz, _, _⟩ := info_parts info3
  simp [zeroValue, typeInfo, run_program, hi, hz]

set_option maxHeartbeats 1000000 in
set_option maxRecDepth 100000 in
theorem deleteFunc_any (B L l cap hb zl zc : Nat) (d : Nat → Nat) (zp : Option Addr) (Z : Nat → Nat) (w : World) (hl : l ≤ 1024) (hlL : l ≤ L) (hlc : l ≤ cap) (hhb : hb ≠ B) (hzb : Hid (∀ zb, zp = some ⟨zb, 0, none⟩ → zb ≠ B))
    (hc : w.cell? ⟨hb, 0, none⟩ = some (.slice zp zl zc)) (h : Hid (Zs w zp zl Z)) (R : Hid (PRow B L d w)) :
    Calls Yba.prog 22 #[.slice (some ⟨B, 0, none⟩) l cap, .func (.func 23) #[] #[.pointer (some ⟨hb, 0, none⟩)]] w fun e w' => But B w w' ∧ ∃ (l' : Nat) (d' : Nat → Nat), l' ≤ l ∧ e = .returned (.slice (some ⟨B, 0, none⟩) l' cap) ∧ PRow B L d' w' ∧ seg d' 0 l' = (seg d 0 l).filter (fun z => has zl Z z) := by
  have HR : Hid (∀ i, i < l → w.cell? ⟨B, i, none⟩ = some (.int .i64 (d i : Int))) := fun i hi => R.out.cell (by omega)
  go_enter Yba.func22, Yba.ntmps22
  go_wp2_with (first | (
    go_at_call 28
    refine (indexFunc_any B l cap hb zl zc d zp Z w hl hc h HR).mono ?_
    rintro e w' ⟨hw', ⟨rfl, hall⟩ | ⟨k, hkl, rfl, hk, hall⟩⟩ <;> (replace hw' := hw'.symm; subst hw')
    all_goals try (have hk1 : ((k : Int) == -1) = false := by simp; omega)))
  · go_ret
    refine ⟨But.refl _ _, l, d, Nat.le_refl _, rfl, R.out, ?_⟩
    symm
    rw [List.filter_eq_self]
    intro z hz
    obtain ⟨i, _, hi, rfl⟩ := mem_seg.1 hz
    exact hall i hi
  · have HK : Hid (has zl Z (d k) = false ∧ ∀ i, i < k → has zl Z (d i) = true) := ⟨hk, hall⟩
    clear hk hall
    go_loopg [5, 6] (l - (k + 1)) (fun gk s5 s6 wr => ∃ (i j : Nat) (e : Nat → Nat), i < j ∧ j ≤ l ∧ gk = l - j ∧ s5 = .int .i64 (i : Int) ∧ s6 = .int .i64 (j : Int) ∧ But B w wr ∧ PRow B L e wr ∧ (∀ x, j ≤ x → e x = d x) ∧ seg e 0 i = (seg d 0 j).filter (fun z => has zl Z z))
    case atStart =>
      refine ⟨k, k + 1, d, by omega, by omega, rfl, rfl, by go_num, But.refl _ _, R.out, fun _ _ => rfl, ?_⟩
      rw [seg_succ, List.filter_append]
      have e1 : [d k].filter (fun z => has zl Z z) = [] := by simp [HK.out.1]
      rw [e1, List.append_nil]
      symm
      rw [List.filter_eq_self]
      intro z hz
      obtain ⟨i, _, hi, rfl⟩ := mem_seg.1 hz
      exact HK.out.2 i hi
    case round =>
      obtain ⟨i, j, e, hij, hjl, rfl, rfl, rfl, hbut, hrow, hrest, hseg⟩ := hrel
      have HS : Hid (But B w wr ∧ PRow B L e wr ∧ (∀ x, j ≤ x → e x = d x) ∧ seg e 0 i = (seg d 0 j).filter (fun z => has zl Z z)) := ⟨hbut, hrow, hrest, hseg⟩
      by_cases hlt : j < l
      · have hlti : (j : Int) < (l : Int) := by omega
        have c1 := hrow.cell (i := j) (by omega)
        have c2 := hrow.cell (i := i) (by omega)
        have f2 := hrow.frozen i
        have hil : (i : Int) < (l : Int) := by omega
        have hc' : wr.cell? ⟨hb, 0, none⟩ = some (.slice zp zl zc) := (hbut.cell (p := ⟨hb, 0, none⟩) hhb).trans hc
        have h' : Hid (Zs wr zp zl Z) := h.out.but hbut hzb.out
        clear hbut hrow hrest hseg
        obtain ⟨nb, hnb⟩ : ∃ nb, nb = !has zl Z (e j) := ⟨_, rfl⟩
        have HN : Hid (nb = !has zl Z (e j)) := hnb
        clear hnb
        cases nb with
        | true =>
          go_wp2_with (first | (go_at_call 23; refine (notHeld_any hb zl zc (e j) zp Z true wr hc' h' HN).mono ?_; rintro e' w' ⟨rfl, hw'⟩; replace hw' := hw'.symm; subst hw'))
          go_roundg (l - (j + 1))
          case measure => omega
          case rel =>
            refine ⟨i, j + 1, e, by omega, by omega, rfl, rfl, by go_num, HS.out.1, HS.out.2.1, fun x hx => HS.out.2.2.1 x (by omega), ?_⟩
            have e0 := HS.out.2.2.1 j (Nat.le_refl _)
            have e1 := HN.out
            rw [e0] at e1
            have e2 : has zl Z (d j) = false := by simpa using e1.symm
            rw [seg_succ, List.filter_append, ← HS.out.2.2.2]
            simp [e2]
        | false =>
          go_wp2_with (first | (go_at_call 23; refine (notHeld_any hb zl zc (e j) zp Z false wr hc' h' HN).mono ?_; rintro e' w' ⟨rfl, hw'⟩; replace hw' := hw'.symm; subst hw'))
          go_roundg (l - (j + 1))
          case measure => omega
          case rel =>
            refine ⟨i + 1, j + 1, fun x => if x = i then e j else e x, by omega, by omega, rfl, by go_num, by go_num, HS.out.1.setCell _ _, HS.out.2.1.set i (e j), fun x hx => ?_, ?_⟩
            · show (if x = i then e j else e x) = d x
              rw [if_neg (by omega)]; exact HS.out.2.2.1 x (by omega)
            · have e0 := HS.out.2.2.1 j (Nat.le_refl _)
              have e1 := HN.out
              rw [e0] at e1
              have e2 : has zl Z (d j) = true := by simpa using e1.symm
              rw [seg_succ, seg_succ, List.filter_append, ← HS.out.2.2.2, seg_congr (d := fun x => if x = i then e j else e x) (d' := e) (a := 0) (b := i) (fun x _ hx => by show (if x = i then e j else e x) = e x; rw [if_neg (by omega)])]
              simp [e2, e0]
      · obtain rfl : j = l := by omega
        have hlti : ¬ (j : Int) < (j : Int) := by omega
        have hcl : ∀ ty, (Builtin.clear_ #[22] ty #[.slice (some ⟨B, i, none⟩) (j - i) (cap - i)]).run Yba.prog wr = .ok (.tuple #[]) (wr.setCells B i (List.replicate (j - i) (.int .i64 0))) := fun ty =>
          Lib.run_clear_slice wr 22 3 ty (.int .i64 0) Yba.underlying22 zero3 rfl rfl B i (j - i) (cap - i) (by omega) (fun t ht => by rw [hrow.cell (i := i + t) (by omega)]; rfl) (fun t _ => hrow.frozen (i + t))
        have hil : (i : Int) ≤ (j : Int) := by omega
        have hic : (i : Int) ≤ (cap : Int) := by omega
        clear hbut hrow hrest hseg
        go_wp2
        go_ret
        refine ⟨But.setCells _ _ _ _ HS.out.1, i, by omega, rfl, _, PRow.clear _ _ _ _ HS.out.2.1, ?_⟩
        rw [seg_congr (d' := e) (fun x _ hx => by show (if i ≤ x ∧ x < i + (j - i) then 0 else e x) = e x; rw [if_neg (by omega)])]
        exact HS.out.2.2.2
end SortA
end Go.Proofs.Ybulkdgou
