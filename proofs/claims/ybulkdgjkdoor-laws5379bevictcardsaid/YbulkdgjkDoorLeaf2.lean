import Derived.Test.YbulkdgjkDoorLeaf
import Derived.Defers
namespace Go.Proofs.YbulkdgjkDoor
open Go.RowKit
attribute [local go_sem ↓] Go.wp_at_zero Go.wp_at_succ

theorem wrap_pow {r bit : Nat} (h : 2 ^ r = bit) (hb : bit < 18446744073709551616) : IntKind.u64.wrap ((2 : Int) ^ r) = (bit : Int) := by
  have e : ((2 : Int) ^ r) = (bit : Int) := by rw [← h]; simp
  rw [e]
  show (bit : Int) % 18446744073709551616 = (bit : Int)
  omega
theorem pow_lt64 {r : Nat} (h : r < 64) : 2 ^ r < 18446744073709551616 := Nat.pow_lt_pow_right (a := 2) (by decide) h

set_option maxHeartbeats 400000 in
set_option maxRecDepth 100000 in
theorem with_any (s c : Nat) (w : World) (hs : s < 18446744073709551616) (hc : c < 64) :
    Calls Ybad.prog 11 #[.int .u64 (s : Int), .int .i64 (c : Int)] w fun e w' => e = .returned (.int .u64 ((s ||| 2 ^ c : Nat) : Int)) ∧ w' = w := by
  obtain ⟨bit, hbit⟩ : ∃ bit, 2 ^ c = bit := ⟨_, rfl⟩
  have hb : bit < 18446744073709551616 := by rw [← hbit]; exact pow_lt64 hc
  have hwrap := wrap_pow hbit hb
  have hor := u64_or_nat s bit hs hb
  rw [hbit]
  clear hbit
  go_enter Ybad.func11, Ybad.ntmps11
  go_wp2
  go_ret
  exact ⟨rfl, rfl⟩

set_option maxHeartbeats 400000 in
set_option maxRecDepth 100000 in
theorem mask_any (n : Nat) (w : World) (h1 : 1 ≤ n) (h2 : n ≤ 64) :
    Calls Ybad.prog 4 #[.int .i64 (n : Int)] w fun e w' => e = .returned (.int .u64 ((2 ^ n - 1 : Nat) : Int)) ∧ w' = w := by
  by_cases h : n = 64
  · subst h
    go_enter Ybad.func4, Ybad.ntmps4
    go_wp2
    go_ret
    exact ⟨rfl, rfl⟩
  · have hlt : n < 64 := by omega
    have hlti : ¬ (64 : Int) ≤ (n : Int) := by omega
    obtain ⟨bit, hbit⟩ : ∃ bit, 2 ^ n = bit := ⟨_, rfl⟩
    have hb : bit < 18446744073709551616 := by rw [← hbit]; exact pow_lt64 hlt
    have hb1 : 1 ≤ bit := by rw [← hbit]; exact Nat.one_le_two_pow
    have hwrap := wrap_pow hbit hb
    have hsub : IntKind.u64.wrap ((bit : Int) - 1) = ((bit - 1 : Nat) : Int) := by
      show ((bit : Int) - 1) % 18446744073709551616 = _
      omega
    rw [hbit]
    clear hbit
    go_enter Ybad.func4, Ybad.ntmps4
    go_wp2
    go_ret
    exact ⟨rfl, rfl⟩

set_option maxHeartbeats 400000 in
set_option maxRecDepth 100000 in
theorem wakeWaiters_none (mb lb lo : Nat) (w : World) (hc : w.cell? ⟨mb, 8, none⟩ = some (.slice none 0 0)) :
    Calls Ybad.prog 19 #[.pointer (some ⟨mb, 0, none⟩), .pointer (some ⟨lb, lo, none⟩)] w fun e w' => e = .returned (.tuple #[]) ∧ w' = w := by
  go_enter Ybad.func19, Ybad.ntmps19
  go_wp2
  go_loopg [11] 0 (fun gk s11 wr => s11 = .int .i64 0 ∧ wr = w)
  case atStart => exact ⟨rfl, rfl⟩
  case round =>
    obtain ⟨rfl, hwr⟩ := hrel
    subst hwr
    go_wp2
    go_end0
    exact ⟨rfl, rfl⟩

set_option maxHeartbeats 400000 in
set_option maxRecDepth 100000 in
theorem unlock_deferred (b off : Nat) (u : FrameMode) (w : World) (hc : w.cell? ⟨b, off, none⟩ = some (.int .i32 1)) (hz : w.frozen? ⟨b, off, none⟩ = false) :
    CallsD Ybad.prog 22 #[.pointer (some ⟨b, off, none⟩)] u w fun e u' w' => u' = u ∧ (e = .returned (.tuple #[]) ∧ w' = w.setCell ⟨b, off, none⟩ (.int .i32 0)) := by
  go_enter_d Ybad.func22, Ybad.ntmps22
  go_wp2_with (first | (go_at_call 31; refine (unlock31 b off w hc hz).mono ?_; rintro e w' ⟨rfl, rfl⟩))
  go_end0
  exact ⟨rfl, rfl⟩

set_option maxHeartbeats 400000 in
set_option maxRecDepth 100000 in
theorem wakeEvicted_any (eb tb : Nat) (w : World) (hlt : eb < w.heap.size) (_hlt2 : tb < w.heap.size) (hne : ¬ eb = tb) (hc : w.cell? ⟨eb, 2, none⟩ = some (.int .i32 0)) (hz : w.frozen? ⟨eb, 2, none⟩ = false)
    (h0 : w.cell? ⟨tb, 26, none⟩ = some (.pointer none)) (h1 : w.cell? ⟨tb, 27, none⟩ = some (.int .u64 0)) (h2 : w.cell? ⟨tb, 28, none⟩ = some (.bool false)) :
    Calls Ybad.prog 16 #[.pointer (some ⟨eb, 0, none⟩), .pointer (some ⟨tb, 0, none⟩)] w fun e w' => e = .returned (.tuple #[]) ∧ w' = (((w.setCell ⟨eb, 2, none⟩ (.int .i32 1)).alloc (.cells #[.pointer none, .int .u64 0, .bool false] 115)).setCell ⟨eb, 2, none⟩ (.int .i32 0)) := by
  have hne' : ¬ tb = eb := fun e => hne e.symm
  go_enter_defers Ybad.func16, Ybad.ntmps16
  go_wp2_with (first | (go_at_call 21; refine (lock21 eb 2 w hc hz).mono ?_; rintro e w' ⟨rfl, hw'⟩; subst hw'))
  refine leaves_cons (f := 22) (args := #[.pointer (some ⟨eb, 2, none⟩)]) (by simp) (by simp [go_sem]) ?_
  refine (unlock_deferred eb 2 .returning _ ?_ ?_).mono ?_
  · rw [World.cell?_alloc_lt _ _ _ (by simpa using hlt)]
    exact World.cell?_setCell_same _ _ _ hc
  · rw [World.frozen?_alloc_past _ _ _ (by simpa using hlt)]
    simpa using hz
  rintro e u' w'' ⟨rfl, rfl, rfl⟩
  exact ⟨_, results_none rfl _ _ _, rfl, rfl⟩

/-- Behind an eviction that is the first. -/
def evictW (w : World) (eb tb x : Nat) : World :=
  ((((w.setCell ⟨tb, 10, none⟩ (.pointer (some ⟨x, 0, none⟩))).setCell ⟨eb, 2, none⟩ (.int .i32 1)).setCell ⟨eb, 2, none⟩ (.int .i32 0)).alloc (.cells #[.pointer none, .int .u64 0, .bool false] 115))

set_option maxHeartbeats 400000 in
set_option maxRecDepth 100000 in
theorem evict12_hit (eb tb x : Nat) (v : Value) (w : World) (hlt : eb < w.heap.size) (hlt2 : tb < w.heap.size) (hne : ¬ eb = tb) (hc : w.cell? ⟨eb, 2, none⟩ = some (.int .i32 0)) (hz : w.frozen? ⟨eb, 2, none⟩ = false)
    (he : w.cell? ⟨tb, 0, none⟩ = some (.pointer (some ⟨eb, 0, none⟩))) (hev : w.cell? ⟨tb, 10, none⟩ = some (.pointer none)) (hzt : w.frozen? ⟨tb, 10, none⟩ = false) (hx : w.cell? ⟨x, 0, none⟩ = some v)
    (h0 : w.cell? ⟨tb, 26, none⟩ = some (.pointer none)) (h1 : w.cell? ⟨tb, 27, none⟩ = some (.int .u64 0)) (h2 : w.cell? ⟨tb, 28, none⟩ = some (.bool false)) :
    Calls Ybad.prog 12 #[.pointer (some ⟨tb, 0, none⟩), .pointer (some ⟨x, 0, none⟩)] w fun e w' => e = .returned (.tuple #[]) ∧ w' = evictW w eb tb x := by
  have hne' : ¬ tb = eb := fun e => hne e.symm
  go_enter Ybad.func12, Ybad.ntmps12
  go_wp2_with (first
    | (go_at_call 15; refine (cas15_hit tb 10 x v w hev hzt hx).mono ?_; rintro e w' ⟨rfl, hw'⟩; subst hw')
    | (go_at_call 16; refine (wakeEvicted_any eb tb (w.setCell ⟨tb, 10, none⟩ (.pointer (some ⟨x, 0, none⟩))) (by simpa using hlt) (by simpa using hlt2) hne (by rw [World.cell?_setCell_far _ _ _ _ (by simpa using hne')]; exact hc) (by simpa using hz) (by rw [World.cell?_setCell_other _ _ _ _ (by simp)]; exact h0) (by rw [World.cell?_setCell_other _ _ _ _ (by simp)]; exact h1) (by rw [World.cell?_setCell_other _ _ _ _ (by simp)]; exact h2)).mono ?_; rintro e w' ⟨rfl, hw'⟩; subst hw'))
  go_end0
  exact ⟨rfl, rfl⟩

set_option maxHeartbeats 400000 in
set_option maxRecDepth 100000 in
theorem evict12_miss (tb x y : Nat) (v : Value) (w : World) (hev : w.cell? ⟨tb, 10, none⟩ = some (.pointer (some ⟨y, 0, none⟩))) (hzt : w.frozen? ⟨tb, 10, none⟩ = false) (hx : w.cell? ⟨x, 0, none⟩ = some v) :
    Calls Ybad.prog 12 #[.pointer (some ⟨tb, 0, none⟩), .pointer (some ⟨x, 0, none⟩)] w fun e w' => e = .returned (.tuple #[]) ∧ w' = w := by
  go_enter Ybad.func12, Ybad.ntmps12
  go_wp2_with (first | (go_at_call 15; refine (cas15_miss tb 10 x y v w hev hzt hx).mono ?_; rintro e w' ⟨rfl, hw'⟩; subst hw'))
  go_end0
  exact ⟨rfl, rfl⟩

theorem info76 : (Ybad.prog.info? 76).map (fun i => i.size) = some 3 := by kernel_rfl
theorem neq70 (a : Addr) (w : World) : (binOp .neq 70 (.pointer (some a)) (.pointer (some a))).run Ybad.prog w = .ok (.bool false) w := by
  obtain ⟨i, hi⟩ := info_some info76
  exact Lib.run_neq_ptr_same w a Ybad.underlying70 hi

set_option maxHeartbeats 1000000 in
set_option maxRecDepth 100000 in
theorem dropSole_any (rb ro ob cap : Nat) (m : Value) (w : World) (h2 : w.cell? ⟨rb, ro + 2, none⟩ = some (.slice (some ⟨rb, ro + 3, none⟩) 1 cap)) (hcap : 1 ≤ cap) (h3 : w.cell? ⟨rb, ro + 3, none⟩ = some m) (h4 : w.cell? ⟨rb, ro + 4, none⟩ = some (.pointer (some ⟨ob, 19, none⟩)))
    (f2 : w.frozen? ⟨rb, ro + 2, none⟩ = false) (f3 : w.frozen? ⟨rb, ro + 3, none⟩ = false) :
    Calls Ybad.prog 25 #[.pointer (some ⟨rb, ro, none⟩), .pointer (some ⟨ob, 0, none⟩)] w fun e w' => e = .returned (.bool true) ∧ ∃ n, w' = ((w.drewN n).setCell ⟨rb, ro + 3, none⟩ (.pointer none)).setCell ⟨rb, ro + 2, none⟩ (.slice (some ⟨rb, ro + 3, none⟩) 0 cap) := by
  have hneq := neq70 ⟨ob, 19, none⟩
  go_enter Ybad.func25, Ybad.ntmps25
  go_wp2_with fail
  go_quiet (fail)
  go_wp2
  go_ret
  exact ⟨rfl, _, rfl⟩
end Go.Proofs.YbulkdgjkDoor
