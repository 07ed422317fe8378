import Derived.Test.YbulkdgouLawE
namespace Go.Proofs.Ybulkdgou
open Go.RowKit
attribute [local go_sem ↓] Go.wp_at_zero Go.wp_at_succ
namespace SortA

set_option maxHeartbeats 1000000 in
set_option maxRecDepth 100000 in
theorem law_trivial (a0 a1 : Option Addr) (n c0 pl c1 : Nat) (sel pre : Int) (w : World) (h : n = 0 ∨ 256 < n ∨ 1024 < pl) :
    Calls Yba.prog 5 #[.slice a0 n c0, .slice a1 pl c1, .int .u8 sel, .int .u8 pre] w fun e w' => e = .returned (.bool true) ∧ Below w.heap.size w w' := by
  by_cases h1 : n = 0
  · have t1 : ((n : Int) == 0) = true := by simp [h1]
    clear h1 h
    go_enter Yba.func5, Yba.ntmps5
    go_wp2_with fail
    go_ret
    exact ⟨rfl, Below.refl _ _⟩
  · have t1 : ((n : Int) == 0) = false := by simp; omega
    by_cases h2 : 256 < n
    · have t2 : decide ((256 : Int) < (n : Int)) = true := decide_eq_true (by omega)
      have t2' : (256 : Int) < (n : Int) := by omega
      clear h1 h2 h
      go_enter Yba.func5, Yba.ntmps5
      go_wp2_with fail
      go_ret
      exact ⟨rfl, Below.refl _ _⟩
    · have t2 : decide ((256 : Int) < (n : Int)) = false := decide_eq_false (by omega)
      have t2' : ¬ (256 : Int) < (n : Int) := by omega
      have t3 : decide ((1024 : Int) < (pl : Int)) = true := decide_eq_true (by omega)
      have t3' : (1024 : Int) < (pl : Int) := by omega
      clear h1 h2 h
      go_enter Yba.func5, Yba.ntmps5
      go_wp2_with fail
      go_ret
      exact ⟨rfl, Below.refl _ _⟩
end SortA
end Go.Proofs.Ybulkdgou
