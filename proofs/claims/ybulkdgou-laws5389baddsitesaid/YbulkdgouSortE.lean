import Derived.Test.YbulkdgouSortD
namespace Go.Proofs.Ybulkdgou
open Go.RowKit
attribute [local go_sem ↓] Go.wp_at_zero Go.wp_at_succ
namespace SortA

theorem Rot.none_left (d : Nat → Nat) (a : Nat) : Rot d d a (a + 1) (a + 1) := ⟨fun _ _ => rfl, fun x hx => by omega, fun x hx => by rw [show a + (a + 1 - (a + 1)) + x = a + x by omega]⟩
theorem Rot.none_right (d : Nat → Nat) (m : Nat) : Rot d d m m (m + 1) := ⟨fun _ _ => rfl, fun _ _ => rfl, fun x hx => by omega⟩
theorem Rot.ext_left {d e : Nat → Nat} {a k : Nat} (h : Rot d e a (a + 1) (k + 1)) (hk : a ≤ k) : Rot d (fun x => if x = k + 1 then e k else if x = k then e (k + 1) else e x) a (a + 1) (k + 1 + 1) := by
  refine ⟨fun x hx => ?_, fun x hx => ?_, fun x hx => ?_⟩
  · show (if x = k + 1 then e k else if x = k then e (k + 1) else e x) = d x
    rw [if_neg (by omega), if_neg (by omega)]; exact h.out x (by omega)
  · show (if a + x = k + 1 then e k else if a + x = k then e (k + 1) else e (a + x)) = d (a + 1 + x)
    rw [if_neg (by omega)]
    by_cases hx2 : a + x = k
    · rw [if_pos hx2, h.out (k + 1) (by omega), show k + 1 = a + 1 + x by omega]
    · rw [if_neg hx2]; exact h.lo x (by omega)
  · have e0 : x = 0 := by omega
    subst e0
    show (if a + (k + 1 + 1 - (a + 1)) + 0 = k + 1 then e k else if a + (k + 1 + 1 - (a + 1)) + 0 = k then e (k + 1) else e (a + (k + 1 + 1 - (a + 1)) + 0)) = d (a + 0)
    rw [if_pos (by omega)]
    have := h.hi 0 (by omega)
    rw [show a + (k + 1 - (a + 1)) + 0 = k by omega] at this
    exact this
theorem Rot.ext_right {d e : Nat → Nat} {m k : Nat} (h : Rot d e k m (m + 1)) (hk : 1 ≤ k) (hkm : k ≤ m) : Rot d (fun x => if x = k - 1 then e k else if x = k then e (k - 1) else e x) (k - 1) m (m + 1) := by
  refine ⟨fun x hx => ?_, fun x hx => ?_, fun x hx => ?_⟩
  · show (if x = k - 1 then e k else if x = k then e (k - 1) else e x) = d x
    rw [if_neg (by omega), if_neg (by omega)]; exact h.out x (by omega)
  · have e0 : x = 0 := by omega
    subst e0
    show (if k - 1 + 0 = k - 1 then e k else if k - 1 + 0 = k then e (k - 1) else e (k - 1 + 0)) = d (m + 0)
    rw [if_pos (by omega)]
    exact h.lo 0 (by omega)
  · show (if k - 1 + (m + 1 - m) + x = k - 1 then e k else if k - 1 + (m + 1 - m) + x = k then e (k - 1) else e (k - 1 + (m + 1 - m) + x)) = d (k - 1 + x)
    rw [if_neg (by omega)]
    by_cases hx0 : x = 0
    · rw [if_pos (by omega), h.out (k - 1) (by omega), hx0, Nat.add_zero]
    · rw [if_neg (by omega)]
      have := h.hi (x - 1) (by omega)
      rw [show k + (m + 1 - m) + (x - 1) = k - 1 + (m + 1 - m) + x by omega, show k + (x - 1) = k - 1 + x by omega] at this
      exact this
theorem left_done {key d e : Nat → Nat} {a b i : Nat} (h : Rot d e a (a + 1) i) (h1 : a + 1 ≤ i) (h2 : i ≤ b) (A : Asc key d (a + 1) b) (hlt : ∀ x, a + 1 ≤ x → x < i → key (d x) < key (d a)) (hge : ∀ x, i ≤ x → x < b → key (d a) ≤ key (d x)) :
    Merged key d e a b ∧ Asc key e a b := by
  refine step (s := a) (m := a + 1) (e := i) (c := a + (i - (a + 1))) (Nat.le_refl _) (by omega) h1 h2 rfl ?_ A ?_ ?_ h (Merged.refl _ _ _ _) ?_ (Merged.refl _ _ _ _) ?_
  · exact Asc.one _ _ _
  · intro p q p1 p2 q1 q2
    have e0 : p = a := by omega
    rw [e0]; exact hlt q q1 q2
  · intro p q p1 p2; omega
  · intro p q p1 p2 p3
    have e1 := h.lo (p - a) (by omega)
    have e2 := h.lo (q - a) (by omega)
    rw [show a + (p - a) = p by omega] at e1
    rw [show a + (q - a) = q by omega] at e2
    rw [e1, e2]; exact A _ _ (by omega) (by omega) (by omega)
  · intro p q p1 p2 p3
    have e0 := h.hi 0 (by omega)
    rw [Nat.add_zero, Nat.add_zero] at e0
    by_cases hp : p = a + (i - (a + 1))
    · rw [hp, e0]
      by_cases hq : q = a + (i - (a + 1))
      · rw [hq, e0]; exact Nat.le_refl _
      · rw [h.out q (by omega)]; exact hge q (by omega) p3
    · rw [h.out p (by omega), h.out q (by omega)]; exact A p q (by omega) p2 p3
theorem right_done {key d e : Nat → Nat} {a m i : Nat} (h : Rot d e i m (m + 1)) (h1 : a ≤ i) (h2 : i ≤ m) (A : Asc key d a m) (hle : ∀ x, a ≤ x → x < i → key (d x) ≤ key (d m)) (hgt : ∀ x, i ≤ x → x < m → key (d m) < key (d x)) :
    Merged key d e a (m + 1) ∧ Asc key e a (m + 1) := by
  refine step (s := i) (m := m) (e := m + 1) (c := i + (m + 1 - m)) h1 h2 (by omega) (Nat.le_refl _) rfl A ?_ ?_ ?_ h (Merged.refl _ _ _ _) ?_ (Merged.refl _ _ _ _) ?_
  · exact Asc.one _ _ _
  · intro p q p1 p2 q1 q2
    have e0 : q = m := by omega
    rw [e0]; exact hgt p p1 p2
  · intro p q p1 p2 q1; omega
  · intro p q p1 p2 p3
    have e0 := h.lo 0 (by omega)
    rw [Nat.add_zero, Nat.add_zero] at e0
    by_cases hq : q = i
    · rw [hq, e0]
      by_cases hp : p = i
      · rw [hp, e0]; exact Nat.le_refl _
      · rw [h.out p (by omega)]; exact hle p p1 (by omega)
    · rw [h.out p (by omega), h.out q (by omega)]; exact A p q p1 p2 (by omega)
  · intro p q p1 p2 p3
    have e1 := h.hi (p - (i + (m + 1 - m))) (by omega)
    have e2 := h.hi (q - (i + (m + 1 - m))) (by omega)
    rw [show i + (m + 1 - m) + (p - (i + (m + 1 - m))) = p by omega] at e1
    rw [show i + (m + 1 - m) + (q - (i + (m + 1 - m))) = q by omega] at e2
    rw [e1, e2]; exact A _ _ (by omega) (by omega) (by omega)

set_option maxHeartbeats 2000000 in
set_option maxRecDepth 100000 in
theorem symMerge_left (B L cap a b n : Nat) (key d : Nat → Nat) (c : Value) (w : World) (hL : L ≤ 1024) (hab : a + 1 < b) (hb : b ≤ L) (R : Hid (Row B L d w)) (hd : Hid (∀ i, i < L → d i < n)) (C : Hid (CmpOK B n key c w)) (A2 : Hid (Asc key d (a + 1) b)) :
    Calls Yba.prog 25 #[.slice (some ⟨B, 0, none⟩) L cap, .int .i64 (a : Int), .int .i64 ((a + 1 : Nat) : Int), .int .i64 (b : Int), .func (.func 13) #[] #[c]] w fun e w' => e = .returned (.tuple #[]) ∧ But B w w' ∧ ∃ d', Row B L d' w' ∧ Merged key d d' a b ∧ Asc key d' a b := by
  obtain ⟨m, hm⟩ : ∃ m : Nat, m = a + 1 := ⟨_, rfl⟩
  rw [← hm] at A2 hab ⊢
  have HMA : Hid (m = a + 1) := hm
  have hma : (m : Int) - (a : Int) = 1 := by omega
  have hma2 : a < m := by omega
  clear hm
  go_enter Yba.func25, Yba.ntmps25
  go_wp2_with fail
  go_loopg [10, 11] (b - m) (fun gk s10 s11 wr => ∃ (i j : Nat), m ≤ i ∧ i ≤ j ∧ j ≤ b ∧ gk = j - i ∧ s10 = .int .i64 (i : Int) ∧ s11 = .int .i64 (j : Int) ∧ But B w wr ∧ Row B L d wr ∧ (∀ x, m ≤ x → x < i → key (d x) < key (d a)) ∧ (∀ x, j ≤ x → x < b → key (d a) ≤ key (d x)))
  case atStart => exact ⟨m, b, Nat.le_refl _, by omega, Nat.le_refl _, rfl, rfl, rfl, But.refl _ _, R.out, fun x h1 h2 => by omega, fun x h1 h2 => by omega⟩
  case round =>
    obtain ⟨i, j, hi, hij, hj, rfl, rfl, rfl, hbut, hrow, h1, h2⟩ := hrel
    have HS : Hid (But B w wr ∧ Row B L d wr ∧ (∀ x, m ≤ x → x < i → key (d x) < key (d a)) ∧ (∀ x, j ≤ x → x < b → key (d a) ≤ key (d x))) := ⟨hbut, hrow, h1, h2⟩
    by_cases hlt : i < j
    · have hlti : (i : Int) < (j : Int) := by omega
      obtain ⟨h, hh, hh1, hh2⟩ : ∃ h : Nat, ((i : Int) + (j : Int)) / 2 = (h : Int) ∧ i ≤ h ∧ h < j := ⟨(i + j) / 2, by omega, by omega, by omega⟩
      have c1 := hrow.cell (i := h) (by omega)
      have c2 := hrow.cell (i := a) (by omega)
      have hhL : (h : Int) < (L : Int) := by omega
      have haL : (a : Int) < (L : Int) := by omega
      have HC : Hid (∀ q, Calls Yba.prog 13 #[.int .i64 (d h : Int), .int .i64 (d a : Int), c] (wr.drewN q) fun e u' => e = .returned (.int .i64 (cmpv (key (d h)) (key (d a)))) ∧ ∃ p, u' = (wr.drewN q).drewN p) :=
        C.out wr hbut (d h) (d a) (hd.out h (by omega)) (hd.out a (by omega))
      clear hbut hrow h1 h2
      by_cases hk : key (d h) < key (d a)
      · have hcv : cmpv (key (d h)) (key (d a)) = -1 := if_pos hk
        rw [hcv] at HC
        have HK : Hid (key (d h) < key (d a)) := hk
        clear hk hcv
        go_wp2_with fail
        go_quiet ((go_at_call 13; exact Calls.quiet_of (HC.out _)))
        go_wp2_with fail
        go_roundg (j - (h + 1))
        case measure => omega
        case rel =>
          refine ⟨h + 1, j, by omega, by omega, hj, rfl, by go_num, rfl, HS.out.1.drewN _, HS.out.2.1, fun x p q => ?_, HS.out.2.2.2⟩
          exact Nat.lt_of_le_of_lt (A2.out x h p (by omega) (by omega)) HK.out
      · obtain ⟨z, hz, hz0⟩ : ∃ z : Int, cmpv (key (d h)) (key (d a)) = z ∧ 0 ≤ z := ⟨_, rfl, by unfold cmpv; rw [if_neg hk]; split <;> omega⟩
        rw [hz] at HC
        have hz1 : ¬ z < 0 := by omega
        have HK : Hid (¬ key (d h) < key (d a)) := hk
        clear hk hz
        go_wp2_with fail
        go_quiet ((go_at_call 13; exact Calls.quiet_of (HC.out _)))
        go_wp2_with fail
        go_roundg (h - i)
        case measure => omega
        case rel =>
          refine ⟨i, h, hi, hh1, by omega, rfl, rfl, by go_num, HS.out.1.drewN _, HS.out.2.1, HS.out.2.2.1, fun x p q => ?_⟩
          have := A2.out h x (by omega) p q
          have := HK.out
          omega
    · obtain rfl : i = j := by omega
      have hlti : ¬ (i : Int) < (i : Int) := by omega
      have hi1 : (i : Int) - 1 = ((i - 1 : Nat) : Int) := by omega
      clear hbut hrow h1 h2
      obtain ⟨W1, hW1⟩ : ∃ W1 : World, W1 = wr := ⟨_, rfl⟩
      subst hW1
      go_wp2_with fail
      go_loopg [13] (i - 1 - a) (fun gk s13 wr => ∃ (k : Nat) (e : Nat → Nat), a ≤ k ∧ k ≤ i - 1 ∧ gk = i - 1 - k ∧ s13 = .int .i64 (k : Int) ∧ But B W1 wr ∧ Row B L e wr ∧ Rot d e a (a + 1) (k + 1))
      case atStart => exact ⟨a, d, Nat.le_refl _, by omega, rfl, rfl, But.refl _ _, HS.out.2.1, Rot.none_left _ _⟩
      case round =>
        obtain ⟨k, e, hk1, hk2, rfl, rfl, hbut, hrow, hrot⟩ := hrel
        have HT : Hid (But B W1 wr ∧ Row B L e wr ∧ Rot d e a (a + 1) (k + 1)) := ⟨hbut, hrow, hrot⟩
        by_cases hkl : k < i - 1
        · have hkli : (k : Int) < ((i - 1 : Nat) : Int) := by omega
          have c1 := hrow.cell (i := k) (by omega)
          have c2 := hrow.cell (i := k + 1) (by omega)
          have f1 := hrow.frozen k
          have f2 := hrow.frozen (k + 1)
          have hkL : (k : Int) < (L : Int) := by omega
          have hkL2 : (k : Int) + 1 < (L : Int) := by omega
          have hne : ¬ k = k + 1 := by omega
          have hne' : ¬ k + 1 = k := by omega
          clear hbut hrow hrot
          go_wp2_with fail
          go_region
          go_wp2_with fail
          go_roundg (i - 1 - (k + 1))
          case measure => omega
          case rel =>
            refine ⟨k + 1, fun x => if x = k + 1 then e k else if x = k then e (k + 1) else e x, by omega, by omega, rfl, by go_num, ?_, ?_, HT.out.2.2.ext_left hk1⟩
            · first | exact ((HT.out.1.setCell _ _).setCell _ _).drew | exact (HT.out.1.setCell _ _).setCell _ _
            · exact ((Row.set HT.out.2.1 k (e (k + 1))).set (k + 1) (e k)).congr (fun x _ => rfl)
        · obtain rfl : k = i - 1 := by omega
          have hkli : ¬ ((i - 1 : Nat) : Int) < ((i - 1 : Nat) : Int) := by omega
          clear hbut hrow hrot
          go_wp2
          refine bodyPost_ret (results_none rfl _ _ _) rfl ?_
          have hr := HT.out.2.2
          rw [show i - 1 + 1 = i by omega] at hr
          have e0 := HMA.out
          subst e0
          have hdone := left_done hr hi hj A2.out HS.out.2.2.1 HS.out.2.2.2
          exact ⟨rfl, HS.out.1.trans HT.out.1, e, HT.out.2.1, hdone.1, hdone.2⟩
end SortA
end Go.Proofs.Ybulkdgou
