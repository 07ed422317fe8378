import Derived.Test.YbulkdgouSortB
namespace Go.Proofs.Ybulkdgou
open Go.RowKit
attribute [local go_sem ↓] Go.wp_at_zero Go.wp_at_succ
namespace SortA

theorem sw_lo {d : Nat → Nat} {a b n x : Nat} (h : x < n) : sw d a b n (a + x) = d (b + x) := by
  unfold sw; rw [if_pos (by omega), show a + x - a + b = b + x by omega]
theorem sw_hi {d : Nat → Nat} {a b n x : Nat} (h : x < n) (hab : a + n ≤ b) : sw d a b n (b + x) = d (a + x) := by
  unfold sw; rw [if_neg (by omega), if_pos (by omega), show b + x - b + a = a + x by omega]
theorem sw_out {d : Nat → Nat} {a b n x : Nat} (h1 : ¬ (a ≤ x ∧ x < a + n)) (h2 : ¬ (b ≤ x ∧ x < b + n)) : sw d a b n x = d x := by
  unfold sw; rw [if_neg h1, if_neg h2]

theorem rot_end {e : Nat → Nat} {m i : Nat} (h : i ≤ m) : Rot e (sw e (m - i) m i) (m - i) m (m + i) := by
  refine ⟨fun x hx => sw_out (by omega) (by omega), fun x hx => sw_lo (by omega), fun x hx => ?_⟩
  rw [show m - i + (m + i - m) + x = m + x by omega, sw_hi (by omega) (by omega)]
theorem rot_left {e d' : Nat → Nat} {m i j : Nat} (h : i ≤ m) (hij : j < i) (R : Rot (sw e (m - i) m j) d' (m - (i - j)) m (m + j)) : Rot e d' (m - i) m (m + j) := by
  refine ⟨fun x hx => ?_, fun x hx => ?_, fun x hx => ?_⟩
  · rw [R.out x (by omega), sw_out (by omega) (by omega)]
  · rw [R.out (m - i + x) (by omega), sw_lo (by omega)]
  · by_cases hxj : x < j
    · have := R.lo x (by omega)
      rw [show m - i + (m + j - m) + x = m - (i - j) + x by omega, this, sw_hi (by omega) (by omega)]
    · have := R.hi (x - j) (by omega)
      rw [show m - (i - j) + (m + j - m) + (x - j) = m - i + (m + j - m) + x by omega] at this
      rw [this, show m - (i - j) + (x - j) = m - i + x by omega, sw_out (by omega) (by omega)]
theorem rot_right {e d' : Nat → Nat} {m i j : Nat} (h : i ≤ m) (hij : i < j) (R : Rot (sw e (m - i) (m + j - i) i) d' (m - i) m (m + (j - i))) : Rot e d' (m - i) m (m + j) := by
  refine ⟨fun x hx => ?_, fun x hx => ?_, fun x hx => ?_⟩
  · rw [R.out x (by omega), sw_out (by omega) (by omega)]
  · by_cases hxj : x < j - i
    · rw [R.lo x (by omega), sw_out (by omega) (by omega)]
    · have := R.hi (x - (j - i)) (by omega)
      rw [show m - i + (m + (j - i) - m) + (x - (j - i)) = m - i + x by omega] at this
      rw [this, sw_lo (by omega), show m + j - i + (x - (j - i)) = m + x by omega]
  · rw [R.out (m - i + (m + j - m) + x) (by omega), show m - i + (m + j - m) + x = m + j - i + x by omega, sw_hi (by omega) (by omega)]

set_option maxHeartbeats 1000000 in
set_option maxRecDepth 100000 in
theorem rotate_any (B L cap a m b : Nat) (d : Nat → Nat) (f : Value) (w : World) (hL : L ≤ 1024) (ham : a < m) (hmb : m < b) (hb : b ≤ L) (R : Hid (Row B L d w)) :
    Calls Yba.prog 29 #[.slice (some ⟨B, 0, none⟩) L cap, .int .i64 (a : Int), .int .i64 (m : Int), .int .i64 (b : Int), f] w fun e w' => e = .returned (.tuple #[]) ∧ But B w w' ∧ ∃ d', Rot d d' a m b ∧ Row B L d' w' := by
  have e1 : (m : Int) - (a : Int) = ((m - a : Nat) : Int) := by omega
  have e2 : (b : Int) - (m : Int) = ((b - m : Nat) : Int) := by omega
  go_enter Yba.func29, Yba.ntmps29
  go_wp2_with fail
  go_loopg [10, 11] (b - a) (fun gk s10 s11 wr => ∃ (i j : Nat) (e : Nat → Nat), 1 ≤ i ∧ 1 ≤ j ∧ a + i ≤ m ∧ m + j ≤ b ∧ gk = i + j ∧ s10 = .int .i64 (i : Int) ∧ s11 = .int .i64 (j : Int) ∧ But B w wr ∧ Row B L e wr ∧ ∀ d', Rot e d' (m - i) m (m + j) → Rot d d' a m b)
  case atStart => exact ⟨m - a, b - m, d, by omega, by omega, by omega, by omega, by omega, rfl, rfl, But.refl _ _, R.out, fun d' h => by rw [show m - (m - a) = a by omega, show m + (b - m) = b by omega] at h; exact h⟩
  case round =>
    obtain ⟨i, j, e, hi, hj, hai, hmj, rfl, rfl, rfl, hbut, hrow, hrot⟩ := hrel
    have HB : Hid (But B w wr ∧ Row B L e wr ∧ ∀ d', Rot e d' (m - i) m (m + j) → Rot d d' a m b) := ⟨hbut, hrow, hrot⟩
    clear hbut hrow hrot
    have HROW : Hid (Row B L e wr) := HB.out.2.1
    have hmi : (m : Int) - (i : Int) = ((m - i : Nat) : Int) := by omega
    by_cases hij : i = j
    · subst hij
      go_wp2_with (first | (
        go_at_call 30
        refine (swapRange_any B L cap (m - i) m i e f wr hL (by omega) (by omega) HROW).mono ?_
        rintro e w' ⟨rfl, hbut, hrow⟩))
      go_end0
      exact ⟨rfl, HB.out.1.trans hbut, _, HB.out.2.2 _ (rot_end (by omega)), hrow⟩
    · have hne : ¬ (i : Int) = (j : Int) := by omega
      by_cases hlt : j < i
      · have hlti : (j : Int) < (i : Int) := by omega
        have hs : (i : Int) - (j : Int) = ((i - j : Nat) : Int) := by omega
        go_wp2_with (first | (
          go_at_call 30
          refine (swapRange_any B L cap (m - i) m j e f wr hL (by omega) (by omega) HROW).mono ?_
          rintro e' w' ⟨rfl, hbut, hrow⟩))
        go_roundg ((i - j) + j)
        case measure => omega
        case rel => exact ⟨i - j, j, _, by omega, hj, by omega, hmj, rfl, rfl, rfl, HB.out.1.trans hbut, hrow, fun d' h => HB.out.2.2 d' (rot_left (by omega) hlt h)⟩
      · have hlti : ¬ (j : Int) < (i : Int) := by omega
        have hs : (j : Int) - (i : Int) = ((j - i : Nat) : Int) := by omega
        have hs2 : (m : Int) + (j : Int) - (i : Int) = ((m + j - i : Nat) : Int) := by omega
        go_wp2_with (first | (
          go_at_call 30
          refine (swapRange_any B L cap (m - i) (m + j - i) i e f wr hL (by omega) (by omega) HROW).mono ?_
          rintro e' w' ⟨rfl, hbut, hrow⟩))
        go_roundg (i + (j - i))
        case measure => omega
        case rel => exact ⟨i, j - i, _, hi, by omega, hai, by omega, rfl, rfl, rfl, HB.out.1.trans hbut, hrow, fun d' h => HB.out.2.2 d' (rot_right (by omega) (by omega) h)⟩
end SortA
end Go.Proofs.Ybulkdgou
