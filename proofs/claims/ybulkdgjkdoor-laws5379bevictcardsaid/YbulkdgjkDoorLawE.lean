import Derived.Test.YbulkdgjkDoorLawD
namespace Go.Proofs.YbulkdgjkDoor
open Go.RowKit

theorem sz118 : (Ybad.prog.info? 118).map (fun i => i.size) = some 30 := by kernel_rfl
theorem sz78 : (Ybad.prog.info? 78).map (fun i => i.size) = some 26 := by kernel_rfl
theorem sz129 : (Ybad.prog.info? 129).map (fun i => i.size) = some 12 := by kernel_rfl
theorem sz125 : (Ybad.prog.info? 125).map (fun i => i.size) = some 5 := by kernel_rfl
theorem neq52 (a : Addr) (w : World) : (binOp .neq 52 (.pointer (some a)) (.pointer (some a))).run Ybad.prog w = .ok (.bool false) w := by
  obtain ⟨i, hi⟩ := info_some sz118
  exact Lib.run_neq_ptr_same w a Ybad.underlying52 hi
theorem neq53 (a : Addr) (w : World) : (binOp .neq 53 (.pointer (some a)) (.pointer (some a))).run Ybad.prog w = .ok (.bool false) w := by
  obtain ⟨i, hi⟩ := info_some sz78
  exact Lib.run_neq_ptr_same w a Ybad.underlying53 hi
theorem neq68 (a : Addr) (w : World) : (binOp .neq 68 (.pointer (some a)) (.pointer (some a))).run Ybad.prog w = .ok (.bool false) w := by
  obtain ⟨i, hi⟩ := info_some sz129
  exact Lib.run_neq_ptr_same w a Ybad.underlying68 hi
theorem neq95 (a : Addr) (w : World) : (binOp .neq 95 (.pointer (some a)) (.pointer (some a))).run Ybad.prog w = .ok (.bool false) w := by
  obtain ⟨i, hi⟩ := info_some sz125
  exact Lib.run_neq_ptr_same w a Ybad.underlying95 hi

/-- The eviction that the transaction bears behind the call. -/
structure Ev (F : World) (tb bb ob bit xb xv : Nat) (evicted : Bool) (obj name : ByteArray) : Prop where
  c : F.cell? ⟨tb, 10, none⟩ = some (.pointer (some ⟨xv, 0, none⟩))
  s : F.shape? xv = some (125, 5)
  t : evicted = true → xv = xb
  f : evicted = false → ∃ A : Nat, F.cell? ⟨xv, 0, none⟩ = some (.pointer (some ⟨A, 0, none⟩)) ∧ F.cell? ⟨xv, 1, none⟩ = some (.pointer (some ⟨bb, 0, none⟩)) ∧ F.cell? ⟨xv, 2, none⟩ = some (.pointer (some ⟨ob, 0, none⟩)) ∧ F.cell? ⟨xv, 3, none⟩ = some (.int .u64 (bit : Int)) ∧ F.cell? ⟨xv, 4, none⟩ = some (.int .u64 0) ∧
    F.cell? ⟨A, 0, none⟩ = some (.string obj) ∧ F.cell? ⟨A, 1, none⟩ = some (.string name)
theorem Aft.ev {D F : World} {nb yb cb gb ib cc ob tb bb mb rb hb ch b1 b2 b3 xb sb k nf np cf cp n pm pw pd wn ci bit : Nat} {hist ended evicted : Bool} {fp pp : Option Addr} {y : Int} {obj name : ByteArray}
    (h : Aft D F nb yb cb gb ib cc ob tb bb mb rb hb ch b1 b2 b3 xb sb k nf np cf cp n pm pw pd wn ci bit hist ended evicted fp pp y obj name) : ∃ xv, Ev F tb bb ob bit xb xv evicted obj name := by
  cases evicted with
  | true => exact ⟨xb, (h.ev1 rfl).1, (h.ev1 rfl).2, fun _ => rfl, by simp⟩
  | false =>
    obtain ⟨A, B, a1, a2, a3, a4, a5, a6, a7, a8, a9, a10, a11⟩ := (h.ev2 rfl).a
    exact ⟨B, a3, a4, by simp, fun _ => ⟨A, a5, a6, a7, a8, a9, a10, a11⟩⟩
theorem Off.below {w F : World} (h : Off (fun _ => False) w F) : Below w.heap.size w F := ⟨h.os, h.tape, h.output, h.size, fun k hk => h.block k hk id⟩
theorem assert3 (y : Int) (w : World) : (Instr.typeAssert (.iface 3 (.int .i64 y)) 20 3 true).run Ybad.prog w = .ok (.tuple #[.int .i64 y, .bool true]) w := by
  simp [Instr.typeAssert, run_underlying Ybad.underlying3]
theorem bit_at (s c : Nat) (hs : s < 18446744073709551616) : ∃ z : Int, cnt s 0 c = .int .i64 z ∧ wrap64 (bits .and .u64 ((s : Int) / 2 ^ c) 1) = z := by
  refine ⟨_, rfl, ?_⟩
  have e1 : ((s : Int) / 2 ^ c) = ((s / 2 ^ c : Nat) : Int) := by simp
  have hl : s / 2 ^ c < 18446744073709551616 := Nat.lt_of_le_of_lt (Nat.div_le_self _ _) hs
  have e2 := u64_and_nat (s / 2 ^ c) 1 hl (by omega)
  rw [e1, show (1 : Int) = ((1 : Nat) : Int) from rfl, e2, Nat.and_one_is_mod, Nat.testBit_eq_decide_div_mod_eq]
  have h2 : s / 2 ^ c % 2 = 0 ∨ s / 2 ^ c % 2 = 1 := by omega
  rcases h2 with e | e <;> rw [e] <;> simp [wrap64]
end Go.Proofs.YbulkdgjkDoor
