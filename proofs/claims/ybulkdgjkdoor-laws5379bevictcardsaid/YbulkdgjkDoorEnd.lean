import Derived.Test.YbulkdgjkDoorDrop
import Derived.Test.YbulkdgjkDoorRecord

import Derived.BigRegion
namespace Go.Proofs.YbulkdgjkDoor
open Go.RowKit
attribute [local go_sem ↓] Go.wp_at_zero Go.wp_at_succ

/-- The closure's cells: calls, gotTx, gotIn, gotC. -/
structure Got (w : World) (cb gb ib cc : Nat) (x : Int) (t i : Value) (c : Bool) : Prop where
  r1 : w.rowIs cb 3 1 (fun _ => .int .i64 x)
  r2 : w.rowIs gb 52 1 (fun _ => t)
  r3 : w.rowIs ib 20 1 (fun _ => i)
  r4 : w.rowIs cc 4 1 (fun _ => .bool c)
theorem Got.off {w w' : World} {cb gb ib cc : Nat} {x : Int} {t i : Value} {c : Bool} {P : Nat → Prop} (h : Got w cb gb ib cc x t i c) (o : Off P w w') (h1 : ¬ P cb) (h2 : ¬ P gb) (h3 : ¬ P ib) (h4 : ¬ P cc) : Got w' cb gb ib cc x t i c :=
  ⟨o.row h1 h.r1, o.row h2 h.r2, o.row h3 h.r3, o.row h4 h.r4⟩

theorem row_one {w : World} {b t : Nat} {v : Value} (h : w.rowIs b t 1 (fun _ => v)) (x : Value) : (w.setCell ⟨b, 0, none⟩ x).rowIs b t 1 (fun _ => x) :=
  (h.set 0 x).congr fun i hi => by
    obtain rfl : i = 0 := by omega
    rfl

set_option maxHeartbeats 1000000 in
set_option maxRecDepth 100000 in
theorem end_any (cb gb ib cc tb : Nat) (y : Int) (c d : Bool) (w : World) (h1 : cb < gb) (h2 : gb < ib) (h3 : ib < cc) (G : Hid (Got w cb gb ib cc 0 (.pointer none) .nilIface d)) :
    Calls Ybad.prog 5 #[.pointer (some ⟨tb, 0, none⟩), .iface 3 (.int .i64 y), .bool c, .pointer (some ⟨cb, 0, none⟩), .pointer (some ⟨gb, 0, none⟩), .pointer (some ⟨ib, 0, none⟩), .pointer (some ⟨cc, 0, none⟩)] w fun e w' =>
      e = .returned (.tuple #[]) ∧ Off (fun b => b = cb ∨ b = gb ∨ b = ib ∨ b = cc) w w' ∧ Got w' cb gb ib cc 1 (.pointer (some ⟨tb, 0, none⟩)) (.iface 3 (.int .i64 y)) c := by
  have a1 : w.cell? ⟨cb, 0, none⟩ = some (.int .i64 0) := G.out.r1.cell (by omega)
  have a2 : w.cell? ⟨gb, 0, none⟩ = some (.pointer none) := G.out.r2.cell (by omega)
  have a3 : w.cell? ⟨ib, 0, none⟩ = some .nilIface := G.out.r3.cell (by omega)
  have a4 : w.cell? ⟨cc, 0, none⟩ = some (.bool d) := G.out.r4.cell (by omega)
  have f1 := G.out.r1.frozen 0
  have f2 := G.out.r2.frozen 0
  have f3 := G.out.r3.frozen 0
  have f4 := G.out.r4.frozen 0
  have n1 : ¬ cb = gb := by omega
  have n2 : ¬ cb = ib := by omega
  have n3 : ¬ cb = cc := by omega
  have n4 : ¬ gb = ib := by omega
  have n5 : ¬ gb = cc := by omega
  have n6 : ¬ ib = cc := by omega
  go_enter Ybad.func5, Ybad.ntmps5
  go_wp2
  go_end0
  refine ⟨rfl, ?_, ?_⟩
  · exact ((((Off.refl _ _).setCell _ _ (by simp)).setCell _ _ (by simp)).setCell _ _ (by simp)).setCell _ _ (by simp)
  · refine ⟨?_, ?_, ?_, ?_⟩
    · exact (((row_one G.out.r1 _).setOther n1 _).setOther n2 _).setOther n3 _
    · exact ((row_one (G.out.r2.setOther (a := ⟨cb, 0, none⟩) (by simpa using fun e : gb = cb => n1 e.symm) _) _).setOther n4 _).setOther n5 _
    · exact (row_one ((G.out.r3.setOther (a := ⟨cb, 0, none⟩) (by simpa using fun e : ib = cb => n2 e.symm) _).setOther (a := ⟨gb, 0, none⟩) (by simpa using fun e : ib = gb => n4 e.symm) _) _).setOther n6 _
    · exact row_one (((G.out.r4.setOther (a := ⟨cb, 0, none⟩) (by simpa using fun e : cc = cb => n3 e.symm) _).setOther (a := ⟨gb, 0, none⟩) (by simpa using fun e : cc = gb => n5 e.symm) _).setOther (a := ⟨ib, 0, none⟩) (by simpa using fun e : cc = ib => n6 e.symm) _) _
end Go.Proofs.YbulkdgjkDoor
