import Derived.Test.YbulkdgouSortH
namespace Go.Proofs.Ybulkdgou
open Go.RowKit
attribute [local go_sem ↓] Go.wp_at_zero Go.wp_at_succ
namespace SortA

set_option maxHeartbeats 400000 in
theorem isNaN_any (a : Int) (w : World) : Calls Yba.prog 19 #[.int .i64 a] w fun e w' => e = .returned (.bool false) ∧ w' = w := by
  go_enter Yba.func19, Yba.ntmps19
  go_wp2
  go_ret
  exact ⟨rfl, rfl⟩
set_option maxHeartbeats 400000 in
theorem compare_any (a b : Nat) (w : World) : Calls Yba.prog 14 #[.int .i64 (a : Int), .int .i64 (b : Int)] w fun e w' => e = .returned (.int .i64 (cmpv a b)) ∧ w' = w := by
  by_cases h1 : a < b
  · have h1i : (a : Int) < (b : Int) := by omega
    have e0 : cmpv a b = -1 := if_pos h1
    rw [e0]
    go_enter Yba.func14, Yba.ntmps14
    go_wp2_with (first | (go_at_call 19; refine (isNaN_any _ _).mono ?_; rintro e w' ⟨rfl, hw'⟩; replace hw' := hw'.symm; subst hw'))
    go_ret
    exact ⟨rfl, rfl⟩
  · have h1i : ¬ (a : Int) < (b : Int) := by omega
    by_cases h2 : b < a
    · have h2i : (b : Int) < (a : Int) := by omega
      have e0 : cmpv a b = 1 := by unfold cmpv; rw [if_neg h1, if_pos h2]
      rw [e0]
      go_enter Yba.func14, Yba.ntmps14
      go_wp2_with (first | (go_at_call 19; refine (isNaN_any _ _).mono ?_; rintro e w' ⟨rfl, hw'⟩; replace hw' := hw'.symm; subst hw'))
      go_ret
      exact ⟨rfl, rfl⟩
    · have h2i : ¬ (b : Int) < (a : Int) := by omega
      have e0 : cmpv a b = 0 := by unfold cmpv; rw [if_neg h1, if_neg h2]
      rw [e0]
      go_enter Yba.func14, Yba.ntmps14
      go_wp2_with (first | (go_at_call 19; refine (isNaN_any _ _).mono ?_; rintro e w' ⟨rfl, hw'⟩; replace hw' := hw'.symm; subst hw'))
      go_ret
      exact ⟨rfl, rfl⟩

/-- The comparer's memory: the captured variable, the reach, the members' sets. -/
structure Mem (rc rp mb n : Nat) (set : Nat → Nat) (w : World) : Prop where
  rc : w.cell? ⟨rc, 0, none⟩ = some (.pointer (some ⟨rp, 0, none⟩))
  ms : w.cell? ⟨rp, 0, none⟩ = some (.slice (some ⟨mb, 0, none⟩) n n)
  st : ∀ x, x < n → w.cell? ⟨mb, x * 6 + 4, none⟩ = some (.int .i64 (set x : Int))

set_option maxHeartbeats 1000000 in
set_option maxRecDepth 100000 in
theorem cmp_any (rc rp mb n : Nat) (set : Nat → Nat) (x y : Nat) (w : World) (hx : x < n) (hy : y < n) (h : Hid (Mem rc rp mb n set w)) :
    Calls Yba.prog 13 #[.int .i64 (x : Int), .int .i64 (y : Int), .pointer (some ⟨rc, 0, none⟩)] w fun e u' => e = .returned (.int .i64 (cmpv (set x) (set y))) ∧ ∃ p, u' = w.drewN p := by
  have c1 := h.out.rc
  have c2 := h.out.ms
  have c3 := h.out.st x hx
  have c4 := h.out.st y hy
  have hxi : (x : Int) < (n : Int) := by omega
  have hyi : (y : Int) < (n : Int) := by omega
  obtain ⟨z, hz⟩ : ∃ z, cmpv (set x) (set y) = z := ⟨_, rfl⟩
  have HC : Hid (∀ u : World, Calls Yba.prog 14 #[.int .i64 (set x : Int), .int .i64 (set y : Int)] u fun e w' => e = .returned (.int .i64 z) ∧ w' = u) := fun u => by rw [← hz]; exact compare_any _ _ u
  rw [hz]
  clear hz
  go_enter Yba.func13, Yba.ntmps13
  go_wp2_with fail
  go_quiet ((go_at_call 14; exact Calls.quiet_of_same (HC.out _)))
  go_wp2_with fail
  go_ret
  exact ⟨rfl, _, rfl⟩
theorem cmpOK {B rc rp mb n : Nat} {set : Nat → Nat} {w : World} (h : Mem rc rp mb n set w) (h1 : rc ≠ B) (h2 : rp ≠ B) (h3 : mb ≠ B) : CmpOK B n set (.pointer (some ⟨rc, 0, none⟩)) w := by
  intro u hu x y hx hy q
  have hm : Mem rc rp mb n set (u.drewN q) := ⟨(hu.cell h1).trans h.rc, (hu.cell h2).trans h.ms, fun x hx => (hu.cell (p := ⟨mb, x * 6 + 4, none⟩) h3).trans (h.st x hx)⟩
  exact cmp_any rc rp mb n set x y (u.drewN q) hx hy hm
end SortA
end Go.Proofs.Ybulkdgou
