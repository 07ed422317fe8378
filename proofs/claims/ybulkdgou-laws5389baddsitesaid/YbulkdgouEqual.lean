import Derived.Test.YbulkdgouZones
namespace Go.Proofs.Ybulkdgou
open Go.RowKit
attribute [local go_sem ↓] Go.wp_at_zero Go.wp_at_succ
namespace SortA

/-- A slice that holds a list of ints. -/
def Holds (w : World) (p : Option Addr) (l : List Nat) : Prop := 0 < l.length → ∃ b, p = some ⟨b, 0, none⟩ ∧ ∀ i, i < l.length → w.cell? ⟨b, i, none⟩ = some (.int .i64 ((l.getD i 0 : Nat) : Int))

set_option maxHeartbeats 1000000 in
set_option maxRecDepth 100000 in
theorem equal_true (xp yp : Option Addr) (n xc yc : Nat) (l : List Nat) (w : World) (hn : n ≤ 1024) (HL : Hid (n = l.length)) (hx : Hid (Holds w xp l)) (hy : Hid (Holds w yp l)) :
    Calls Yba.prog 11 #[.slice xp n xc, .slice yp n yc] w fun e w' => e = .returned (.bool true) ∧ ∃ q, w' = w.drewN q := by
  go_enter Yba.func11, Yba.ntmps11
  go_wp2_with fail
  go_loopg [13] n (fun gk s13 wr => ∃ i q : Nat, i ≤ n ∧ gk = n - i ∧ s13 = .int .i64 (i : Int) ∧ wr = w.drewN q)
  case atStart => exact ⟨0, 0, Nat.zero_le _, rfl, rfl, rfl⟩
  case round =>
    obtain ⟨i, q, hi, rfl, rfl, rfl⟩ := hrel
    by_cases hlt : i < n
    · have hlti : (i : Int) < (n : Int) := by omega
      obtain ⟨xb, rfl, cx⟩ := hx.out (by have := HL.out; omega)
      obtain ⟨yb, rfl, cy⟩ := hy.out (by have := HL.out; omega)
      obtain ⟨z, hz⟩ : ∃ z : Nat, z = l.getD i 0 := ⟨_, rfl⟩
      have c1 : (w.drewN q).cell? ⟨xb, i, none⟩ = some (.int .i64 (z : Int)) := by rw [hz]; exact cx i (by have := HL.out; omega)
      have c2 : (w.drewN q).cell? ⟨yb, i, none⟩ = some (.int .i64 (z : Int)) := by rw [hz]; exact cy i (by have := HL.out; omega)
      clear cx cy hz
      obtain ⟨W, hW⟩ : ∃ W, W = w.drewN q := ⟨_, rfl⟩
      rw [← hW] at c1 c2 ⊢
      have HWW : Hid (W = w.drewN q) := hW
      clear hW
      go_wp2_with fail
      go_quiet (fail)
      go_wp2_with fail
      go_roundg (n - (i + 1))
      case measure => omega
      case rel => exact ⟨i + 1, _, by omega, rfl, by go_num, by rw [HWW.out, World.drewN_drewN]⟩
    · obtain rfl : i = n := by omega
      have hlti : ¬ (i : Int) < (i : Int) := by omega
      go_wp2
      go_ret
      exact ⟨rfl, q, rfl⟩
end SortA
end Go.Proofs.Ybulkdgou
