import Derived.Test.YbulkdghgForgetA
namespace Go.Proofs.Ybulkdghg
open Go.RowKit
theorem mk0 (w : World) :
    (Instr.makeSlice 37 (.int .i64 0) (.int .i64 0)).run Yba.prog w = .ok (.slice (some ⟨w.heap.size, 0, none⟩) 0 0) (w.alloc (.cells (mk7 0) 45)) := run_mk 0 (by omega) w

set_option maxRecDepth 100000 in
set_option maxHeartbeats 400000 in
theorem walkBig (a : Option Addr) (len cap : Nat) (sel raw : Int) (w : World) (hl : 1024 < len) :
    Calls Yba.prog 3 #[.slice a len cap, .int .u16 sel, .int .u16 raw] w fun e w' => e = .returned (.bool true) ∧ Below w.heap.size w w' := by
  have hle : ((1024 : Int) < (len : Int)) := by omega
  go_enter Yba.func3, Yba.ntmps3
  go_wp2
  go_ret
  exact ⟨rfl, Below.refl _ _⟩

set_option maxRecDepth 100000 in
set_option maxHeartbeats 1000000 in
theorem walk0 (a : Option Addr) (cap : Nat) (sel raw : Int) (w : World) :
    Calls Yba.prog 3 #[.slice a 0 cap, .int .u16 sel, .int .u16 raw] w fun e w' => e = .returned (.bool true) ∧ Below w.heap.size w w' := by
  go_enter Yba.func3, Yba.ntmps3
  have hmk := mk0
  go_wp2_with (go_at_call 5; refine (apf _ _).mono ?_; rintro e w' ⟨rfl, rfl⟩)
  clear hmk
  go_loopg [44] 0 (fun n i wr => n = 0 ∧ i = .int .i64 0 ∧ Inv1 (fun _ => 0) (fun _ => ⟨#[]⟩) raw 0 w wr 0)
  case atStart => exact ⟨rfl, rfl, inv1_start _ _ raw 0 w _ _⟩
  case round =>
    obtain ⟨rfl, rfl, hinv⟩ := hrel
    obtain ⟨W1, hW1⟩ : ∃ W1 : World, W1 = wr := ⟨_, rfl⟩
    subst hW1
    obtain ⟨bel, gone, bs, row, hbs⟩ := hinv
    have hlt3 : w.heap.size + 3 < W1.heap.size := row.lt
    have g0 : W1.cell? ⟨w.heap.size + 1 + 1, 0, none⟩ = some (.int .u64 0) := by simp [World.cell?, gone]
    have g1 : W1.cell? ⟨w.heap.size + 1 + 1, 1, none⟩ = some (.int .u64 0) := by simp [World.cell?, gone]
    have g2 : W1.cell? ⟨w.heap.size + 1 + 1, 2, none⟩ = some (.pointer none) := by simp [World.cell?, gone]
    have g3 : W1.cell? ⟨w.heap.size + 1 + 1, 3, none⟩ = some (.int .u16 raw) := by simp [World.cell?, gone]
    have hg : w.heap.size + 1 + 1 < W1.heap.size := by omega
    have HB : Hid (Below w.heap.size w W1 ∧ W1.rowIs (w.heap.size + 3) 45 (0 * 7) (rowF (fun _ => 0) (fun _ => ⟨#[]⟩) bs 0)) := ⟨bel, row⟩
    clear bel gone row hbs hlt3
    go_wp2_with (first | (refine wpList_node rfl rfl _ _ rfl ?_; intro cs hcs; refine wpList_box99 rfl _ rfl cs rfl ?_))
    obtain ⟨bel, row⟩ := HB.out
    have hlt3 : w.heap.size + 3 < W1.heap.size := row.lt
    refine (forget (fun _ => 0) (fun _ => ⟨#[]⟩) bs raw 0 W1.heap.size (w.heap.size + 1 + 1 + 1) (W1.alloc (.cells cs 99)) (by omega) (by omega) (by simp) (by rw [World.cell?_alloc_new]; exact hcs) (row.alloc _)).mono ?_
    rintro e w2 ⟨rfl, hbut, hrow2⟩
    have n1 : w2.cell? ⟨W1.heap.size, 110, none⟩ = some (.slice (some ⟨w.heap.size + 1 + 1 + 1, 0, none⟩) 0 0) := by
      rw [hbut.cell (by simp) (by simp; omega), World.cell?_alloc_new]; exact hcs
    have hbel2 : Below w.heap.size w w2 := (bel.trans ((Below.refl _ _).alloc (by omega) _)).trans (hbut.below (by omega) (by simp; omega))
    have HB2 : Hid (Below w.heap.size w w2) := hbel2
    clear hbut hrow2 hbel2 bel row HB hlt3 g0 g1 g2 g3 hg
    go_wp2_with fail
    go_loopg [84] 0 (fun n i w3 => n = 0 ∧ i = .int .i64 0 ∧ w3 = w2)
    case atStart => exact ⟨rfl, rfl, rfl⟩
    case round =>
      obtain ⟨rfl, rfl, rfl⟩ := hrel
      go_wp2
      go_ret
      exact ⟨rfl, HB2.out⟩
end Go.Proofs.Ybulkdghg
