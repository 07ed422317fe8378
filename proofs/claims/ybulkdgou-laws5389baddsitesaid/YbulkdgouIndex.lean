import Derived.Test.YbulkdgouGroup
namespace Go.Proofs.Ybulkdgou
open Go.RowKit
attribute [local go_sem ↓] Go.wp_at_zero Go.wp_at_succ
namespace SortA

set_option maxHeartbeats 1000000 in
set_option maxRecDepth 100000 in
theorem notHeld_any (hb zl zc z : Nat) (zp : Option Addr) (Z : Nat → Nat) (nb : Bool) (w : World) (hc : w.cell? ⟨hb, 0, none⟩ = some (.slice zp zl zc)) (h : Hid (Zs w zp zl Z)) (HN : Hid (nb = !has zl Z z)) :
    Calls Yba.prog 23 #[.int .i64 (z : Int), .pointer (some ⟨hb, 0, none⟩)] w fun e w' => e = .returned (.bool nb) ∧ w' = w := by
  obtain ⟨fb, hfb⟩ : ∃ fb, fb = has zl Z z := ⟨_, rfl⟩
  have HF : Hid (fb = has zl Z z) := hfb
  have hnb : nb = !fb := by rw [hfb]; exact HN.out
  subst hnb
  clear hfb
  go_enter Yba.func23, Yba.ntmps23
  go_wp2_with (first | (go_at_call 20; refine (bsearch_any zp zl zc z Z fb w h HF).mono ?_; rintro e w' ⟨⟨k, rfl⟩, hw'⟩; replace hw' := hw'.symm; subst hw'))
  go_ret
  exact ⟨rfl, rfl⟩

set_option maxHeartbeats 1000000 in
set_option maxRecDepth 100000 in
theorem indexFunc_any (B l cap hb zl zc : Nat) (d : Nat → Nat) (zp : Option Addr) (Z : Nat → Nat) (w : World) (hl : l ≤ 1024) (hc : w.cell? ⟨hb, 0, none⟩ = some (.slice zp zl zc)) (h : Hid (Zs w zp zl Z)) (R : Hid (∀ i, i < l → w.cell? ⟨B, i, none⟩ = some (.int .i64 (d i : Int)))) :
    Calls Yba.prog 28 #[.slice (some ⟨B, 0, none⟩) l cap, .func (.func 23) #[] #[.pointer (some ⟨hb, 0, none⟩)]] w fun e w' => w' = w ∧ ((e = .returned (.int .i64 (-1)) ∧ ∀ i, i < l → has zl Z (d i) = true) ∨ ∃ k, k < l ∧ e = .returned (.int .i64 (k : Int)) ∧ has zl Z (d k) = false ∧ ∀ i, i < k → has zl Z (d i) = true) := by
  go_enter Yba.func28, Yba.ntmps28
  go_wp2_with fail
  go_loopg [8] l (fun gk s8 wr => ∃ i : Nat, i ≤ l ∧ gk = l - i ∧ s8 = .int .i64 (i : Int) ∧ wr = w ∧ ∀ j, j < i → has zl Z (d j) = true)
  case atStart => exact ⟨0, Nat.zero_le _, rfl, rfl, rfl, fun j hj => by omega⟩
  case round =>
    obtain ⟨i, hi, rfl, rfl, rfl, hall⟩ := hrel
    have HA : Hid (∀ j, j < i → has zl Z (d j) = true) := hall
    clear hall
    by_cases hlt : i < l
    · have hlti : (i : Int) < (l : Int) := by omega
      have c1 := R.out i hlt
      obtain ⟨nb, hnb⟩ : ∃ nb, nb = !has zl Z (d i) := ⟨_, rfl⟩
      have HN : Hid (nb = !has zl Z (d i)) := hnb
      clear hnb
      cases nb with
      | true =>
        go_wp2_with (first | (go_at_call 23; refine (notHeld_any hb zl zc (d i) zp Z true wr hc h HN).mono ?_; rintro e w' ⟨rfl, hw'⟩; replace hw' := hw'.symm; subst hw'))
        go_ret
        exact ⟨rfl, .inr ⟨i, hlt, rfl, by have := HN.out; simpa using this, HA.out⟩⟩
      | false =>
        go_wp2_with (first | (go_at_call 23; refine (notHeld_any hb zl zc (d i) zp Z false wr hc h HN).mono ?_; rintro e w' ⟨rfl, hw'⟩; replace hw' := hw'.symm; subst hw'))
        go_roundg (l - (i + 1))
        case measure => omega
        case rel =>
          refine ⟨i + 1, by omega, rfl, by go_num, rfl, fun j hj => ?_⟩
          by_cases e : j = i
          · rw [e]; have := HN.out; simpa using this
          · exact HA.out j (by omega)
    · obtain rfl : i = l := by omega
      have hlti : ¬ (i : Int) < (i : Int) := by omega
      go_wp2
      go_ret
      exact ⟨rfl, .inl ⟨rfl, HA.out⟩⟩
end SortA
end Go.Proofs.Ybulkdgou
