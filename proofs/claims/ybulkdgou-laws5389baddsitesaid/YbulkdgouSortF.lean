import Derived.Test.YbulkdgouSortE
namespace Go.Proofs.Ybulkdgou
open Go.RowKit
attribute [local go_sem ↓] Go.wp_at_zero Go.wp_at_succ
namespace SortA

set_option maxHeartbeats 2000000 in
set_option maxRecDepth 100000 in
theorem symMerge_right (B L cap a m n : Nat) (key d : Nat → Nat) (c : Value) (w : World) (hL : L ≤ 1024) (ham : a + 1 < m) (hm : m + 1 ≤ L) (R : Hid (Row B L d w)) (hd : Hid (∀ i, i < L → d i < n)) (C : Hid (CmpOK B n key c w)) (A1 : Hid (Asc key d a m)) :
    Calls Yba.prog 25 #[.slice (some ⟨B, 0, none⟩) L cap, .int .i64 (a : Int), .int .i64 (m : Int), .int .i64 ((m + 1 : Nat) : Int), .func (.func 13) #[] #[c]] w fun e w' => e = .returned (.tuple #[]) ∧ But B w w' ∧ ∃ d', Row B L d' w' ∧ Merged key d d' a (m + 1) ∧ Asc key d' a (m + 1) := by
  obtain ⟨b, hbd⟩ : ∃ b : Nat, b = m + 1 := ⟨_, rfl⟩
  rw [← hbd] at hm ⊢
  have HMB : Hid (b = m + 1) := hbd
  obtain ⟨g, hg, hg1⟩ : ∃ g : Int, (m : Int) - (a : Int) = g ∧ (g == 1) = false := ⟨_, rfl, by simp; omega⟩
  have hbm : (b : Int) - (m : Int) = 1 := by omega
  have hmb : m < b := by omega
  clear hbd
  go_enter Yba.func25, Yba.ntmps25
  go_wp2_with fail
  go_loopg [14, 15] (m - a) (fun gk s14 s15 wr => ∃ (i j : Nat), a ≤ i ∧ i ≤ j ∧ j ≤ m ∧ gk = j - i ∧ s14 = .int .i64 (i : Int) ∧ s15 = .int .i64 (j : Int) ∧ But B w wr ∧ Row B L d wr ∧ (∀ x, a ≤ x → x < i → key (d x) ≤ key (d m)) ∧ (∀ x, j ≤ x → x < m → key (d m) < key (d x)))
  case atStart => exact ⟨a, m, Nat.le_refl _, by omega, Nat.le_refl _, rfl, rfl, rfl, But.refl _ _, R.out, fun x h1 h2 => by omega, fun x h1 h2 => by omega⟩
  case round =>
    obtain ⟨i, j, hi, hij, hj, rfl, rfl, rfl, hbut, hrow, h1, h2⟩ := hrel
    have HS : Hid (But B w wr ∧ Row B L d wr ∧ (∀ x, a ≤ x → x < i → key (d x) ≤ key (d m)) ∧ (∀ x, j ≤ x → x < m → key (d m) < key (d x))) := ⟨hbut, hrow, h1, h2⟩
    by_cases hlt : i < j
    · have hlti : (i : Int) < (j : Int) := by omega
      obtain ⟨h, hh, hh1, hh2⟩ : ∃ h : Nat, ((i : Int) + (j : Int)) / 2 = (h : Int) ∧ i ≤ h ∧ h < j := ⟨(i + j) / 2, by omega, by omega, by omega⟩
      have c1 := hrow.cell (i := h) (by omega)
      have c2 := hrow.cell (i := m) (by omega)
      have hhL : (h : Int) < (L : Int) := by omega
      have haL : (m : Int) < (L : Int) := by omega
      have HC : Hid (∀ q, Calls Yba.prog 13 #[.int .i64 (d m : Int), .int .i64 (d h : Int), c] (wr.drewN q) fun e u' => e = .returned (.int .i64 (cmpv (key (d m)) (key (d h)))) ∧ ∃ p, u' = (wr.drewN q).drewN p) :=
        C.out wr hbut (d m) (d h) (hd.out m (by omega)) (hd.out h (by omega))
      clear hbut hrow h1 h2
      by_cases hk : key (d m) < key (d h)
      · have hcv : cmpv (key (d m)) (key (d h)) = -1 := if_pos hk
        rw [hcv] at HC
        have HK : Hid (key (d m) < key (d h)) := hk
        clear hk hcv
        go_wp2_with fail
        go_quiet ((go_at_call 13; exact Calls.quiet_of (HC.out _)))
        go_wp2_with fail
        go_roundg (h - i)
        case measure => omega
        case rel =>
          refine ⟨i, h, hi, hh1, by omega, rfl, rfl, by go_num, HS.out.1.drewN _, HS.out.2.1, HS.out.2.2.1, fun x p q => ?_⟩
          exact Nat.lt_of_lt_of_le HK.out (A1.out h x (by omega) p q)
      · obtain ⟨z, hz, hz0⟩ : ∃ z : Int, cmpv (key (d m)) (key (d h)) = z ∧ 0 ≤ z := ⟨_, rfl, by unfold cmpv; rw [if_neg hk]; split <;> omega⟩
        rw [hz] at HC
        have hz1 : decide (z < 0) = false := by simp; omega
        have HK : Hid (¬ key (d m) < key (d h)) := hk
        clear hk hz
        go_wp2_with fail
        go_quiet ((go_at_call 13; exact Calls.quiet_of (HC.out _)))
        go_wp2_with fail
        go_roundg (j - (h + 1))
        case measure => omega
        case rel =>
          refine ⟨h + 1, j, by omega, by omega, hj, rfl, by go_num, rfl, HS.out.1.drewN _, HS.out.2.1, fun x p q => ?_, HS.out.2.2.2⟩
          have := A1.out x h p (by omega) (by omega)
          have := HK.out
          omega
    · obtain rfl : i = j := by omega
      have hlti : ¬ (i : Int) < (i : Int) := by omega
      clear hbut hrow h1 h2
      obtain ⟨W1, hW1⟩ : ∃ W1 : World, W1 = wr := ⟨_, rfl⟩
      subst hW1
      go_wp2_with fail
      go_loopg [17] (m - i) (fun gk s17 wr => ∃ (k : Nat) (e : Nat → Nat), i ≤ k ∧ k ≤ m ∧ gk = k - i ∧ s17 = .int .i64 (k : Int) ∧ But B W1 wr ∧ Row B L e wr ∧ Rot d e k m (m + 1))
      case atStart => exact ⟨m, d, by omega, Nat.le_refl _, rfl, rfl, But.refl _ _, HS.out.2.1, Rot.none_right _ _⟩
      case round =>
        obtain ⟨k, e, hk1, hk2, rfl, rfl, hbut, hrow, hrot⟩ := hrel
        have HT : Hid (But B W1 wr ∧ Row B L e wr ∧ Rot d e k m (m + 1)) := ⟨hbut, hrow, hrot⟩
        by_cases hkl : i < k
        · have hkli : (i : Int) < (k : Int) := by omega
          have hk1i : (k : Int) - 1 = ((k - 1 : Nat) : Int) := by omega
          have c1 := hrow.cell (i := k) (by omega)
          have c2 := hrow.cell (i := k - 1) (by omega)
          have f1 := hrow.frozen k
          have f2 := hrow.frozen (k - 1)
          have hkL : (k : Int) < (L : Int) := by omega
          have hkL2 : ((k - 1 : Nat) : Int) < (L : Int) := by omega
          have hne : ¬ k = k - 1 := by omega
          have hne' : ¬ k - 1 = k := by omega
          clear hbut hrow hrot
          go_wp2_with fail
          go_region
          go_wp2_with fail
          go_roundg (k - 1 - i)
          case measure => omega
          case rel =>
            refine ⟨k - 1, fun x => if x = k - 1 then e k else if x = k then e (k - 1) else e x, by omega, by omega, rfl, by go_num, ?_, ?_, HT.out.2.2.ext_right (by omega) hk2⟩
            · exact ((HT.out.1.setCell _ _).setCell _ _).drew
            · exact ((Row.set HT.out.2.1 k (e (k - 1))).set (k - 1) (e k)).congr (fun x _ => rfl)
        · obtain rfl : k = i := by omega
          have hkli : ¬ (k : Int) < (k : Int) := by omega
          clear hbut hrow hrot
          go_wp2
          refine bodyPost_ret (results_none rfl _ _ _) rfl ?_
          have e0 := HMB.out
          subst e0
          have hdone := right_done HT.out.2.2 hi hj A1.out HS.out.2.2.1 HS.out.2.2.2
          exact ⟨rfl, HS.out.1.trans HT.out.1, e, HT.out.2.1, hdone.1, hdone.2⟩
end SortA
end Go.Proofs.Ybulkdgou
