import Derived.Test.YbulkdgouEqual
namespace Go.Proofs.Ybulkdgou
open Go.RowKit
attribute [local go_sem ↓] Go.wp_at_zero Go.wp_at_succ
namespace SortA

set_option maxHeartbeats 1000000 in
set_option maxRecDepth 100000 in
theorem groupZones_any (rp mb n gb gl gc g xb k kc m zl zc : Nat) (zp : Option Addr) (w : World) (hg : g < gl) (hk : 1 ≤ k) (hm : m < n)
    (c0 : w.cell? ⟨rp, 0, none⟩ = some (.slice (some ⟨mb, 0, none⟩) n n)) (c11 : w.cell? ⟨rp, 11, none⟩ = some (.slice (some ⟨gb, 0, none⟩) gl gc)) (cg : w.cell? ⟨gb, g, none⟩ = some (.slice (some ⟨xb, 0, none⟩) k kc))
    (cx : w.cell? ⟨xb, 0, none⟩ = some (.int .i64 (m : Int))) (cz : w.cell? ⟨mb, m * 6 + 3, none⟩ = some (.slice zp zl zc)) :
    Calls Yba.prog 16 #[.pointer (some ⟨rp, 0, none⟩), .int .i64 (g : Int)] w fun e w' => e = .returned (.slice zp zl zc) ∧ ∃ q, w' = w.drewN q := by
  have hgi : (g : Int) < (gl : Int) := by omega
  have hki : (0 : Int) < (k : Int) := by omega
  have hmi : (m : Int) < (n : Int) := by omega
  go_enter Yba.func16, Yba.ntmps16
  go_wp2_with fail
  go_quiet (fail)
  go_wp2_with fail
  go_ret
  exact ⟨rfl, _, rfl⟩
end SortA
end Go.Proofs.Ybulkdgou
