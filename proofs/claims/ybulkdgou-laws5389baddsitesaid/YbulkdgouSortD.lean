import Derived.Test.YbulkdgouSortC
namespace Go.Proofs.Ybulkdgou
open Go.RowKit
attribute [local go_sem ↓] Go.wp_at_zero Go.wp_at_succ
namespace SortA

/-- What cmp.Compare answers. -/
def cmpv (a b : Nat) : Int := if a < b then -1 else if b < a then 1 else 0
/-- The comparer that the sort is handed, in every world that differs in the sorted row alone. -/
def CmpOK (B n : Nat) (key : Nat → Nat) (c : Value) (w : World) : Prop :=
  ∀ u, But B w u → ∀ x y, x < n → y < n → ∀ q, Calls Yba.prog 13 #[.int .i64 (x : Int), .int .i64 (y : Int), c] (u.drewN q) fun e u' => e = .returned (.int .i64 (cmpv (key x) (key y))) ∧ ∃ p, u' = (u.drewN q).drewN p
theorem CmpOK.but {B n : Nat} {key : Nat → Nat} {c : Value} {w u : World} (h : CmpOK B n key c w) (hb : But B w u) : CmpOK B n key c u := fun v hv => h v (hb.trans hv)

/-- Two neighbours exchanged. -/
def sw1 (d : Nat → Nat) (j x : Nat) : Nat := if x = j then d (j - 1) else if x = j - 1 then d j else d x

/-- The row while the element that lay at i sinks: it lies at j. -/
structure Sink (key d e : Nat → Nat) (a i j : Nat) : Prop where
  out : ∀ x, ¬ (a ≤ x ∧ x ≤ i) → e x = d x
  lo : ∀ x, a ≤ x → x < j → e x = d x
  at_ : e j = d i
  hi : ∀ x, j < x → x ≤ i → e x = d (x - 1)
  gt : ∀ x, j ≤ x → x < i → key (d i) < key (d x)

theorem Asc.one (key d : Nat → Nat) (a : Nat) : Asc key d a (a + 1) := by
  intro p q h1 h2 h3
  have e : p = q := by omega
  rw [e]; exact Nat.le_refl _
theorem Sink.start (key d : Nat → Nat) (a i : Nat) : Sink key d d a i i := ⟨fun _ _ => rfl, fun _ _ _ => rfl, rfl, fun x h1 h2 => by omega, fun x h1 h2 => by omega⟩
theorem Sink.step {key d e : Nat → Nat} {a i j : Nat} (h : Sink key d e a i j) (h1 : a < j) (h2 : j ≤ i) (hk : key (e j) < key (e (j - 1))) : Sink key d (fun x => if x = j - 1 then e j else if x = j then e (j - 1) else e x) a i (j - 1) := by
  have e1 := h.lo (j - 1) (by omega) (by omega)
  have e2 := h.at_
  refine ⟨fun x hx => ?_, fun x p q => ?_, ?_, fun x p q => ?_, fun x p q => ?_⟩
  · show (if x = j - 1 then e j else if x = j then e (j - 1) else e x) = d x
    rw [if_neg (by omega), if_neg (by omega)]; exact h.out x hx
  · show (if x = j - 1 then e j else if x = j then e (j - 1) else e x) = d x
    rw [if_neg (by omega), if_neg (by omega)]; exact h.lo x p (by omega)
  · show (if j - 1 = j - 1 then e j else if j - 1 = j then e (j - 1) else e (j - 1)) = d i
    rw [if_pos rfl]; exact e2
  · show (if x = j - 1 then e j else if x = j then e (j - 1) else e x) = d (x - 1)
    rw [if_neg (by omega)]
    by_cases hxj : x = j
    · rw [if_pos hxj, e1, hxj]
    · rw [if_neg hxj]; exact h.hi x (by omega) q
  · by_cases hxj : x = j - 1
    · rw [hxj, ← e1, ← e2]; exact hk
    · exact h.gt x (by omega) q
theorem Sink.done {key d e : Nat → Nat} {a b i j : Nat} (h : Sink key d e a i j) (h1 : a ≤ j) (h2 : j ≤ i) (h3 : i < b) (A : Asc key d a i) (hs : a < j → key (d (j - 1)) ≤ key (d i)) : Merged key d e a b ∧ Asc key e a (i + 1) := by
  constructor
  · have R : Rot d e j i (i + 1) := by
      refine ⟨fun x hx => ?_, fun x hx => ?_, fun x hx => ?_⟩
      · by_cases hxj : a ≤ x ∧ x < j
        · exact h.lo x hxj.1 hxj.2
        · exact h.out x (by omega)
      · obtain rfl : x = 0 := by omega
        exact h.at_
      · rw [show j + (i + 1 - i) + x = j + 1 + x by omega, h.hi (j + 1 + x) (by omega) (by omega), show j + 1 + x - 1 = j + x by omega]
    have hlt : ∀ p q, j ≤ p → p < i → i ≤ q → q < i + 1 → key (d q) < key (d p) := by
      intro p q p1 p2 q1 q2
      have e1 : q = i := by omega
      rw [e1]; exact h.gt p p1 p2
    exact (R.merged h2 (by omega) hlt).wider h1 (by omega) (by omega)
  · intro p q hp hpq hq
    by_cases p1 : p < j
    · rw [h.lo p hp p1]
      by_cases q1 : q < j
      · rw [h.lo q (by omega) q1]; exact A p q hp hpq (by omega)
      · by_cases q2 : q = j
        · rw [q2, h.at_]
          exact Nat.le_trans (A p (j - 1) hp (by omega) (by omega)) (hs (by omega))
        · rw [h.hi q (by omega) (by omega)]; exact A p (q - 1) hp (by omega) (by omega)
    · by_cases p2 : p = j
      · rw [p2, h.at_]
        by_cases q2 : q = j
        · rw [q2, h.at_]; exact Nat.le_refl _
        · rw [h.hi q (by omega) (by omega)]; exact Nat.le_of_lt (h.gt (q - 1) (by omega) (by omega))
      · rw [h.hi p (by omega) (by omega), h.hi q (by omega) (by omega)]; exact A (p - 1) (q - 1) (by omega) (by omega) (by omega)
theorem Merged.bound {key d e : Nat → Nat} {a b L n : Nat} (h : Merged key d e a b) (hb : b ≤ L) (hd : ∀ i, i < L → d i < n) : ∀ i, i < L → e i < n := by
  intro i hi
  by_cases hx : a ≤ i ∧ i < b
  · obtain ⟨j, j1, j2, j3⟩ := h.val hx.1 hx.2
    rw [← j3]; exact hd j (by omega)
  · rw [h.out i hx]; exact hd i hi
theorem Sink.bound {key d e : Nat → Nat} {a i j L n : Nat} (h : Sink key d e a i j) (hi : i < L) (hd : ∀ i, i < L → d i < n) : ∀ x, x < L → e x < n := by
  intro x hx
  by_cases h1 : a ≤ x ∧ x ≤ i
  · by_cases h3 : x < j
    · rw [h.lo x h1.1 h3]; exact hd x hx
    · by_cases h4 : x = j
      · rw [h4, h.at_]; exact hd i hi
      · rw [h.hi x (by omega) h1.2]; exact hd _ (by omega)
  · rw [h.out x h1]; exact hd x hx

set_option maxHeartbeats 1000000 in
set_option maxRecDepth 100000 in
theorem insertion_any (B L cap a b n : Nat) (key d : Nat → Nat) (c : Value) (w : World) (hL : L ≤ 1024) (hab : a ≤ b) (hb : b ≤ L) (R : Hid (Row B L d w)) (hd : Hid (∀ i, i < L → d i < n)) (C : Hid (CmpOK B n key c w)) :
    Calls Yba.prog 24 #[.slice (some ⟨B, 0, none⟩) L cap, .int .i64 (a : Int), .int .i64 (b : Int), .func (.func 13) #[] #[c]] w fun e w' => e = .returned (.tuple #[]) ∧ But B w w' ∧ ∃ d', Row B L d' w' ∧ Merged key d d' a b ∧ Asc key d' a b := by
  go_enter Yba.func24, Yba.ntmps24
  go_wp2_with fail
  go_loopg [8] (b - a) (fun gk s8 wr => ∃ (i : Nat) (e : Nat → Nat), a + 1 ≤ i ∧ (i ≤ b ∨ i = a + 1) ∧ gk = b + 1 - i ∧ s8 = .int .i64 (i : Int) ∧ But B w wr ∧ Row B L e wr ∧ Merged key d e a b ∧ Asc key e a i)
  case atStart => exact ⟨a + 1, d, by omega, .inr rfl, by omega, by go_num, But.refl _ _, R.out, Merged.refl _ _ _ _, Asc.one _ _ _⟩
  case round =>
    obtain ⟨i, e, hi1, hi2, rfl, rfl, hbut, hrow, hmer, hasc⟩ := hrel
    obtain ⟨W1, hW1⟩ : ∃ W1 : World, W1 = wr := ⟨_, rfl⟩
    subst hW1
    have HI : Hid (But B w W1 ∧ Row B L e W1 ∧ Merged key d e a b ∧ Asc key e a i) := ⟨hbut, hrow, hmer, hasc⟩
    clear hbut hrow hmer hasc
    by_cases hlt : i < b
    · have hlti : (i : Int) < (b : Int) := by omega
      have he : Hid (∀ x, x < L → e x < n) := HI.out.2.2.1.bound hb hd.out
      go_wp2_with fail
      go_loopg [9] (i + 1 - a) (fun gk s9 wr => ∃ (j : Nat) (f : Nat → Nat), a ≤ j ∧ j ≤ i ∧ gk = j + 1 - a ∧ s9 = .int .i64 (j : Int) ∧ But B W1 wr ∧ Row B L f wr ∧ Sink key e f a i j)
      case atStart => exact ⟨i, e, by omega, Nat.le_refl _, rfl, rfl, But.refl _ _, HI.out.2.1, Sink.start _ _ _ _⟩
      case round =>
        obtain ⟨j, f, hj1, hj2, rfl, rfl, hbut, hrow, hsink⟩ := hrel
        have HJ : Hid (But B W1 wr ∧ Row B L f wr ∧ Sink key e f a i j) := ⟨hbut, hrow, hsink⟩
        by_cases hja : a < j
        · have hjai : (a : Int) < (j : Int) := by omega
          have c1 := hrow.cell (i := j) (by omega)
          have c2 := hrow.cell (i := j - 1) (by omega)
          have f1 := hrow.frozen j
          have f2 := hrow.frozen (j - 1)
          have hj0 : (0 : Int) ≤ (j : Int) - 1 := by omega
          have hj3 : (j : Int) - 1 = ((j - 1 : Nat) : Int) := by omega
          have hjL : (j : Int) < (L : Int) := by omega
          have hjL2 : ((j - 1 : Nat) : Int) < (L : Int) := by omega
          have hne : ¬ j = j - 1 := by omega
          have hne' : ¬ j - 1 = j := by omega
          have hfb := hsink.bound (by omega : i < L) he.out
          have HC : Hid (∀ q, Calls Yba.prog 13 #[.int .i64 (f j : Int), .int .i64 (f (j - 1) : Int), c] (wr.drewN q) fun e u' => e = .returned (.int .i64 (cmpv (key (f j)) (key (f (j - 1))))) ∧ ∃ p, u' = (wr.drewN q).drewN p) :=
            C.out wr (HI.out.1.trans hbut) (f j) (f (j - 1)) (hfb j (by omega)) (hfb (j - 1) (by omega))
          clear hbut hrow hsink hfb
          by_cases hk : key (f j) < key (f (j - 1))
          · have hcv : cmpv (key (f j)) (key (f (j - 1))) = -1 := if_pos hk
            rw [hcv] at HC
            have HK : Hid (key (f j) < key (f (j - 1))) := hk
            clear hk hcv
            go_wp2_with fail
            go_quiet ((go_at_call 13; exact Calls.quiet_of (HC.out _)))
            go_wp2_with fail
            go_region
            go_wp2_with fail
            go_roundg (j - 1 + 1 - a)
            case measure => omega
            case rel =>
              refine ⟨j - 1, fun x => if x = j - 1 then f j else if x = j then f (j - 1) else f x, by omega, by omega, by omega, by go_num, ?_, ?_, HJ.out.2.2.step hja hj2 HK.out⟩
              · exact ((HJ.out.1.drewN _).setCell _ _).setCell _ _
              · exact ((Row.set HJ.out.2.1 j (f (j - 1))).set (j - 1) (f j)).congr (fun x _ => rfl)
          · have hcv : 0 ≤ cmpv (key (f j)) (key (f (j - 1))) := by unfold cmpv; rw [if_neg hk]; split <;> omega
            obtain ⟨z, hz, hz0⟩ : ∃ z : Int, cmpv (key (f j)) (key (f (j - 1))) = z ∧ 0 ≤ z := ⟨_, rfl, hcv⟩
            rw [hz] at HC
            have hz1 : ¬ z < 0 := by omega
            have HK : Hid (¬ key (f j) < key (f (j - 1))) := hk
            clear hk hcv hz
            go_wp2_with fail
            go_quiet ((go_at_call 13; exact Calls.quiet_of (HC.out _)))
            go_wp2_with fail
            go_roundg (b + 1 - (i + 1))
            case measure => omega
            case rel =>
              have e1 := HJ.out.2.2.lo (j - 1) (by omega) (by omega)
              have e2 := HJ.out.2.2.at_
              have hdone := HJ.out.2.2.done hj1 hj2 hlt HI.out.2.2.2 (fun _ => by have := HK.out; rw [e1, e2] at this; omega)
              exact ⟨i + 1, f, by omega, by omega, by omega, by go_num, (HI.out.1.trans HJ.out.1).drewN _, HJ.out.2.1, HI.out.2.2.1.trans hdone.1, hdone.2⟩
        · obtain rfl : j = a := by omega
          have hjai : ¬ (j : Int) < (j : Int) := by omega
          clear hbut hrow hsink
          go_wp2_with fail
          go_quiet (fail)
          go_wp2_with fail
          go_roundg (b + 1 - (i + 1))
          case measure => omega
          case rel =>
            have hdone := HJ.out.2.2.done hj1 hj2 hlt HI.out.2.2.2 (fun h => absurd h (Nat.lt_irrefl _))
            exact ⟨i + 1, f, by omega, by omega, by omega, by go_num, (HI.out.1.trans HJ.out.1).drewN _, HJ.out.2.1, HI.out.2.2.1.trans hdone.1, hdone.2⟩
    · have hlti : ¬ (i : Int) < (b : Int) := by omega
      go_wp2
      go_end0
      refine ⟨rfl, HI.out.1, e, HI.out.2.1, HI.out.2.2.1, HI.out.2.2.2.sub (Nat.le_refl _) (by omega)⟩
end SortA
end Go.Proofs.Ybulkdgou
