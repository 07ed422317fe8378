import Derived.Test.YbulkdgjkDoorRows
import Derived.WalkKit
import Derived.WalkSpells
import Derived.WalkLawsBesides
import Derived.Laws.LoneSync
import Derived.Laws.CopyOwn
import Derived.Laws.OwnMore
import Derived.Laws.BitsAllLaws
import Derived.Lib.Builder
import Derived.Deep.RegionHeld3
import Derived.Deep.DeepCutAuto
import Derived.Deep.CutBlock
import Derived.Deep.OwnRows
import Derived.Deep.DrawnRows
import Derived.Deep.QuietTactic
import Derived.BigQuiet
import Derived.Deep.AppendLies
namespace Go.Proofs.YbulkdgjkDoor
open Go.RowKit

-- internal/race, sync/atomic
theorem dis38 (w : World) : (callFunc 38 #[]).run Ybad.prog w = .ok (.value (.tuple #[])) w :=
  run_call_mark0 Ybad.func38 (by kernel_rfl) (by kernel_rfl) (by kernel_rfl) _ rfl w
theorem ena40 (w : World) : (callFunc 40 #[]).run Ybad.prog w = .ok (.value (.tuple #[])) w :=
  run_call_mark0 Ybad.func40 (by kernel_rfl) (by kernel_rfl) (by kernel_rfl) _ rfl w
theorem acq41 (a : Addr) (w : World) : (callFunc 41 #[.pointer (some a)]).run Ybad.prog w = .ok (.value (.tuple #[])) w :=
  run_call_marked Ybad.func41 (by kernel_rfl) (by kernel_rfl) (by kernel_rfl) _ rfl a w
theorem rel43 (a : Addr) (w : World) : (callFunc 43 #[.pointer (some a)]).run Ybad.prog w = .ok (.value (.tuple #[])) w :=
  run_call_marked Ybad.func43 (by kernel_rfl) (by kernel_rfl) (by kernel_rfl) _ rfl a w
theorem cas39 {a : Addr} {x y : Int} {w : World} (hc : w.cell? a = some (.int .i32 x)) (hz : w.frozen? a = false) : (callFunc 39 #[.pointer (some a), .int .i32 x, .int .i32 y]).run Ybad.prog w = .ok (.value (.bool true)) (w.setCell a (.int .i32 y)) :=
  run_call_cas_hit Ybad.func39 (by kernel_rfl) (by kernel_rfl) (by kernel_rfl) .i32 (by kernel_rfl) hc hz
theorem add44 {a : Addr} {w : World} (hc : w.cell? a = some (.int .i32 1)) (hz : w.frozen? a = false) : (callFunc 44 #[.pointer (some a), .int .i32 (-1)]).run Ybad.prog w = .ok (.value (.int .i32 0)) (w.setCell a (.int .i32 0)) :=
  run_call_add Ybad.func44 (by kernel_rfl) (by kernel_rfl) (by kernel_rfl) .i32 (by kernel_rfl) hc hz (by kernel_rfl)
theorem loadp14 {a : Addr} {x : Option Addr} {w : World} (hc : w.cell? a = some (.pointer x)) : (callFunc 14 #[.pointer (some a)]).run Ybad.prog w = .ok (.value (.pointer x)) w := by
  rw [run_callFunc_extern Ybad.func14 (by kernel_rfl) (by kernel_rfl) (by kernel_rfl) (show Extern.find Ybad.f14 = some (Extern.Atomic.loadT .ptr) by kernel_rfl)]
  change (Sem.run Ybad.prog (do Extern.Atomic.read .ptr (← asAddr (.pointer (some a)))) w).andThen _ = _
  simp [Extern.Atomic.read, asAddr, hc, Result.andThen]
theorem storep10 {a : Addr} {x : Option Addr} {u : Value} {w : World} (hc : w.cell? a = some u) (hz : w.frozen? a = false) : (callFunc 10 #[.pointer (some a), .pointer x]).run Ybad.prog w = .ok (.value (.tuple #[])) (w.setCell a (.pointer x)) := by
  rw [run_callFunc_extern Ybad.func10 (by kernel_rfl) (by kernel_rfl) (by kernel_rfl) (show Extern.find Ybad.f10 = some Extern.Atomic.storeT by kernel_rfl)]
  change (Sem.run Ybad.prog (do
    store (← asAddr (.pointer (some a))) (.pointer x) .atomic
    pure Extern.Atomic.none_) w).andThen _ = _
  simp [asAddr, hc, hz, run_store Ybad.prog w a (.pointer x) .atomic rfl, Result.andThen, Extern.Atomic.none_]
theorem casp_hit20 {a : Addr} {x : Option Addr} {w : World} (hc : w.cell? a = some (.pointer none)) (hz : w.frozen? a = false) : (callFunc 20 #[.pointer (some a), .pointer none, .pointer x]).run Ybad.prog w = .ok (.value (.bool true)) (w.setCell a (.pointer x)) := by
  rw [run_callFunc_extern Ybad.func20 (by kernel_rfl) (by kernel_rfl) (by kernel_rfl) (show Extern.find Ybad.f20 = some (Extern.Atomic.casT .ptr) by kernel_rfl)]
  change (Sem.run Ybad.prog (do
    let a' ← asAddr (.pointer (some a))
    if ← Extern.Atomic.touchesFrozen a' then unsupported (.unsafePointer "a write to bytes that a string shares")
    let eq ← match Extern.Atomic.T.ptr, ← Extern.Atomic.read .ptr a', Value.pointer none with
      | _, .int _ x, .int _ y => pure (x == y)
      | .ptr, .pointer x, .pointer y => samePointer x y
      | .int _, .pointer (some _), .int _ 0 | .int _, .int _ 0, .pointer (some _) => pure false
      | .int _, .pointer (some _), _ | .int _, _, .pointer (some _) => unsupported .addressObserved
      | _, _, _ => stuck "atomic.CompareAndSwap: old is no T"
    if eq then store a' (.pointer x) .atomic
    pure (Value.bool eq)) w).andThen _ = _
  simp [Extern.Atomic.touchesFrozen, Extern.Atomic.read, asAddr, viewAt, samePointer, World.shape?_isSome_of_cell? hc, hc, hz, run_store Ybad.prog w a (.pointer x) .atomic rfl, Result.andThen]
theorem casp_miss20 {a b : Addr} {x : Option Addr} {w : World} (hc : w.cell? a = some (.pointer (some b))) (hz : w.frozen? a = false) : (callFunc 20 #[.pointer (some a), .pointer none, .pointer x]).run Ybad.prog w = .ok (.value (.bool false)) w := by
  rw [run_callFunc_extern Ybad.func20 (by kernel_rfl) (by kernel_rfl) (by kernel_rfl) (show Extern.find Ybad.f20 = some (Extern.Atomic.casT .ptr) by kernel_rfl)]
  change (Sem.run Ybad.prog (do
    let a' ← asAddr (.pointer (some a))
    if ← Extern.Atomic.touchesFrozen a' then unsupported (.unsafePointer "a write to bytes that a string shares")
    let eq ← match Extern.Atomic.T.ptr, ← Extern.Atomic.read .ptr a', Value.pointer none with
      | _, .int _ x, .int _ y => pure (x == y)
      | .ptr, .pointer x, .pointer y => samePointer x y
      | .int _, .pointer (some _), .int _ 0 | .int _, .int _ 0, .pointer (some _) => pure false
      | .int _, .pointer (some _), _ | .int _, _, .pointer (some _) => unsupported .addressObserved
      | _, _, _ => stuck "atomic.CompareAndSwap: old is no T"
    if eq then store a' (.pointer x) .atomic
    pure (Value.bool eq)) w).andThen _ = _
  simp [Extern.Atomic.touchesFrozen, Extern.Atomic.read, asAddr, viewAt, samePointer, World.shape?_isSome_of_cell? hc, hc, hz, Result.andThen]
-- pointers to and from the untyped pointer
theorem conv170 {a : Addr} {v : Value} {w : World} (hc : w.cell? a = some v) : (convert 170 40 (.pointer (some a))).run Ybad.prog w = .ok (.pointer (some a)) w :=
  run_convert_to_unsafe (t := 35) Ybad.underlying170 Ybad.underlying40 (by kernel_rfl) hc
theorem conv95 {a : Addr} {v : Value} {w : World} (hc : w.cell? a = some v) : (convert 95 40 (.pointer (some a))).run Ybad.prog w = .ok (.pointer (some a)) w :=
  run_convert_to_unsafe (t := 125) Ybad.underlying95 Ybad.underlying40 (by kernel_rfl) hc
theorem conv80 {a : Addr} {v : Value} {w : World} (hc : w.cell? a = some v) : (convert 80 40 (.pointer (some a))).run Ybad.prog w = .ok (.pointer (some a)) w :=
  run_convert_to_unsafe (t := 90) Ybad.underlying80 Ybad.underlying40 (by kernel_rfl) hc
theorem conv95n {w : World} : (convert 95 40 (.pointer none)).run Ybad.prog w = .ok (.pointer none) w := by
  simp [convert, run_underlying Ybad.underlying95, run_underlying Ybad.underlying40, Conv.unsafePointer]
theorem info125 : (Ybad.prog.info? 125).map (fun i => i.size) = some (Ybad.prog.cellsOf 125) := by kernel_rfl
theorem cells125 : Ybad.prog.cellsOf 125 = 5 := by kernel_rfl
theorem cells90 : Ybad.prog.cellsOf 90 = 4 := by kernel_rfl
theorem lies125 : liesAt Ybad.prog Ybad.prog.depth 125 1 0 125 1 = true := by kernel_rfl
theorem lies90 : liesAt Ybad.prog Ybad.prog.depth 90 1 0 90 1 = true := by kernel_rfl
theorem info_some {P : Program} {t : TypeId} {n : Nat} (h : (P.info? t).map (fun i => i.size) = some n) : ∃ i, P.info? t = some i := by
  cases hi : P.info? t with
  | none => rw [hi] at h; simp at h
  | some i => exact ⟨i, rfl⟩
theorem info125' : (Ybad.prog.info? 125).map (fun i => i.size) = some 5 := by kernel_rfl
theorem info90' : (Ybad.prog.info? 90).map (fun i => i.size) = some 4 := by kernel_rfl
theorem back95 {b : Nat} {w : World} (hsh : w.shape? b = some (125, 5)) : (convert 40 95 (.pointer (some ⟨b, 0, none⟩))).run Ybad.prog w = .ok (.pointer (some ⟨b, 0, none⟩)) w := by
  obtain ⟨i, hi⟩ := info_some info125'
  exact Lib.run_from_unsafe w ⟨b, 0, none⟩ Ybad.underlying40 Ybad.underlying95 hi hsh (by rw [cells125]; exact lies125)
theorem back80 {b : Nat} {w : World} (hsh : w.shape? b = some (90, 4)) : (convert 40 80 (.pointer (some ⟨b, 0, none⟩))).run Ybad.prog w = .ok (.pointer (some ⟨b, 0, none⟩)) w := by
  obtain ⟨i, hi⟩ := info_some info90'
  exact Lib.run_from_unsafe w ⟨b, 0, none⟩ Ybad.underlying40 Ybad.underlying80 hi hsh (by rw [cells90]; exact lies90)

set_option maxHeartbeats 400000 in
set_option maxRecDepth 100000 in
theorem lock30 (b off : Nat) (w : World) (hc : w.cell? ⟨b, off, none⟩ = some (.int .i32 0)) (hz : w.frozen? ⟨b, off, none⟩ = false) :
    Calls Ybad.prog 30 #[.pointer (some ⟨b, off, none⟩)] w fun e w' => e = .returned (.tuple #[]) ∧ w' = w.setCell ⟨b, off, none⟩ (.int .i32 1) := by
  have h1 := dis38 w
  have h2 := cas39 (y := 1) hc hz
  have h3 := ena40 (w.setCell ⟨b, off, none⟩ (.int .i32 1))
  have hc2 : (w.setCell ⟨b, off, none⟩ (.int .i32 1)).cell? ⟨b, off, none⟩ = some (.int .i32 1) := World.cell?_setCell_same _ _ _ hc
  have h4 := conv170 hc2
  have h5 := acq41 ⟨b, off, none⟩ (w.setCell ⟨b, off, none⟩ (.int .i32 1))
  go_enter Ybad.func30, Ybad.ntmps30
  go_wp2
  refine bodyPost_ret (results_none rfl _ _ _) rfl ?_
  exact ⟨rfl, rfl⟩

set_option maxHeartbeats 400000 in
set_option maxRecDepth 100000 in
theorem unlock31 (b off : Nat) (w : World) (hc : w.cell? ⟨b, off, none⟩ = some (.int .i32 1)) (hz : w.frozen? ⟨b, off, none⟩ = false) :
    Calls Ybad.prog 31 #[.pointer (some ⟨b, off, none⟩)] w fun e w' => e = .returned (.tuple #[]) ∧ w' = w.setCell ⟨b, off, none⟩ (.int .i32 0) := by
  have h1 := dis38 w
  have h2 := add44 hc hz
  have h3 := ena40 (w.setCell ⟨b, off, none⟩ (.int .i32 0))
  have h4 := conv170 hc
  have h5 := rel43 ⟨b, off, none⟩ w
  go_enter Ybad.func31, Ybad.ntmps31
  go_wp2
  go_end0
  exact ⟨rfl, rfl⟩

set_option maxHeartbeats 400000 in
set_option maxRecDepth 100000 in
theorem lock21 (b off : Nat) (w : World) (hc : w.cell? ⟨b, off, none⟩ = some (.int .i32 0)) (hz : w.frozen? ⟨b, off, none⟩ = false) :
    Calls Ybad.prog 21 #[.pointer (some ⟨b, off, none⟩)] w fun e w' => e = .returned (.tuple #[]) ∧ w' = w.setCell ⟨b, off, none⟩ (.int .i32 1) := by
  go_enter Ybad.func21, Ybad.ntmps21
  go_wp2_with (first | (go_at_call 30; refine (lock30 b off w hc hz).mono ?_; rintro e w' ⟨rfl, rfl⟩))
  go_end0
  exact ⟨rfl, rfl⟩

set_option maxHeartbeats 400000 in
set_option maxRecDepth 100000 in
theorem unlock22 (b off : Nat) (w : World) (hc : w.cell? ⟨b, off, none⟩ = some (.int .i32 1)) (hz : w.frozen? ⟨b, off, none⟩ = false) :
    Calls Ybad.prog 22 #[.pointer (some ⟨b, off, none⟩)] w fun e w' => e = .returned (.tuple #[]) ∧ w' = w.setCell ⟨b, off, none⟩ (.int .i32 0) := by
  go_enter Ybad.func22, Ybad.ntmps22
  go_wp2_with (first | (go_at_call 31; refine (unlock31 b off w hc hz).mono ?_; rintro e w' ⟨rfl, rfl⟩))
  go_end0
  exact ⟨rfl, rfl⟩

set_option maxHeartbeats 400000 in
set_option maxRecDepth 100000 in
theorem load9 (b off : Nat) (x : Nat) (w : World) (hc : w.cell? ⟨b, off, none⟩ = some (.pointer (some ⟨x, 0, none⟩))) (hsh : w.shape? x = some (125, 5)) :
    Calls Ybad.prog 9 #[.pointer (some ⟨b, off, none⟩)] w fun e w' => e = .returned (.pointer (some ⟨x, 0, none⟩)) ∧ w' = w := by
  have h1 := loadp14 hc
  have h2 := back95 hsh
  go_enter Ybad.func9, Ybad.ntmps9
  go_wp2
  go_ret
  exact ⟨rfl, rfl⟩

set_option maxHeartbeats 400000 in
set_option maxRecDepth 100000 in
theorem load28 (b off : Nat) (x : Nat) (w : World) (hc : w.cell? ⟨b, off, none⟩ = some (.pointer (some ⟨x, 0, none⟩))) (hsh : w.shape? x = some (90, 4)) :
    Calls Ybad.prog 28 #[.pointer (some ⟨b, off, none⟩)] w fun e w' => e = .returned (.pointer (some ⟨x, 0, none⟩)) ∧ w' = w := by
  have h1 := loadp14 hc
  have h2 := back80 hsh
  go_enter Ybad.func28, Ybad.ntmps28
  go_wp2
  go_ret
  exact ⟨rfl, rfl⟩

set_option maxHeartbeats 400000 in
set_option maxRecDepth 100000 in
theorem store6 (b off : Nat) (x : Nat) (u v : Value) (w : World) (hc : w.cell? ⟨b, off, none⟩ = some u) (hz : w.frozen? ⟨b, off, none⟩ = false) (hx : w.cell? ⟨x, 0, none⟩ = some v) :
    Calls Ybad.prog 6 #[.pointer (some ⟨b, off, none⟩), .pointer (some ⟨x, 0, none⟩)] w fun e w' => e = .returned (.tuple #[]) ∧ w' = w.setCell ⟨b, off, none⟩ (.pointer (some ⟨x, 0, none⟩)) := by
  have h1 := storep10 (x := some ⟨x, 0, none⟩) hc hz
  have h2 := conv80 hx
  go_enter Ybad.func6, Ybad.ntmps6
  go_wp2
  go_end0
  exact ⟨rfl, rfl⟩

set_option maxHeartbeats 400000 in
set_option maxRecDepth 100000 in
theorem store7 (b off : Nat) (x : Nat) (u v : Value) (w : World) (hc : w.cell? ⟨b, off, none⟩ = some u) (hz : w.frozen? ⟨b, off, none⟩ = false) (hx : w.cell? ⟨x, 0, none⟩ = some v) :
    Calls Ybad.prog 7 #[.pointer (some ⟨b, off, none⟩), .pointer (some ⟨x, 0, none⟩)] w fun e w' => e = .returned (.tuple #[]) ∧ w' = w.setCell ⟨b, off, none⟩ (.pointer (some ⟨x, 0, none⟩)) := by
  have h1 := storep10 (x := some ⟨x, 0, none⟩) hc hz
  have h2 := conv95 hx
  go_enter Ybad.func7, Ybad.ntmps7
  go_wp2
  go_end0
  exact ⟨rfl, rfl⟩

set_option maxHeartbeats 400000 in
set_option maxRecDepth 100000 in
theorem cas15_hit (b off : Nat) (x : Nat) (v : Value) (w : World) (hc : w.cell? ⟨b, off, none⟩ = some (.pointer none)) (hz : w.frozen? ⟨b, off, none⟩ = false) (hx : w.cell? ⟨x, 0, none⟩ = some v) :
    Calls Ybad.prog 15 #[.pointer (some ⟨b, off, none⟩), .pointer none, .pointer (some ⟨x, 0, none⟩)] w fun e w' => e = .returned (.bool true) ∧ w' = w.setCell ⟨b, off, none⟩ (.pointer (some ⟨x, 0, none⟩)) := by
  have h1 := casp_hit20 (x := some ⟨x, 0, none⟩) hc hz
  have h2 := conv95 hx
  have h3 := conv95n (w := w)
  go_enter Ybad.func15, Ybad.ntmps15
  go_wp2
  go_ret
  exact ⟨rfl, rfl⟩

set_option maxHeartbeats 400000 in
set_option maxRecDepth 100000 in
theorem cas15_miss (b off : Nat) (x y : Nat) (v : Value) (w : World) (hc : w.cell? ⟨b, off, none⟩ = some (.pointer (some ⟨y, 0, none⟩))) (hz : w.frozen? ⟨b, off, none⟩ = false) (hx : w.cell? ⟨x, 0, none⟩ = some v) :
    Calls Ybad.prog 15 #[.pointer (some ⟨b, off, none⟩), .pointer none, .pointer (some ⟨x, 0, none⟩)] w fun e w' => e = .returned (.bool false) ∧ w' = w := by
  have h1 := casp_miss20 (x := some ⟨x, 0, none⟩) hc hz
  have h2 := conv95 hx
  have h3 := conv95n (w := w)
  go_enter Ybad.func15, Ybad.ntmps15
  go_wp2
  go_ret
  exact ⟨rfl, rfl⟩
end Go.Proofs.YbulkdgjkDoor
