import Derived.Test.YbulkdgjkFmtRows
import Derived.WalkKit
import Derived.WalkSpells
import Derived.WalkLawsBesides
import Derived.Laws.LoneSync
import Derived.Laws.CopyOwn
import Derived.Stop.CallBack
import Derived.Stop.IfaceNil
import Derived.Deep.RegionHeld3
import Derived.Deep.DeepCutAuto
import Derived.Deep.CutBlock
import Derived.Deep.OwnRows
import Derived.Deep.DrawnRows
import Derived.Deep.QuietTactic
import Derived.BigQuiet
import Derived.Deep.AppendLies
namespace Go.Proofs.YbulkdgjkFmt
open Go.RowKit Go.Extern.Stop Go.Stop Go.Extern

-- sync/atomic
theorem load18 {a : Addr} {x : Int} {w : World} (hc : w.cell? a = some (.int .i32 x)) : (callFunc 18 #[.pointer (some a)]).run Ybaf.prog w = .ok (.value (.int .i32 x)) w :=
  run_call_load Ybaf.func18 (by kernel_rfl) (by kernel_rfl) (by kernel_rfl) .i32 (by kernel_rfl) hc
theorem cas29 {a : Addr} {x y : Int} {w : World} (hc : w.cell? a = some (.int .i32 x)) (hz : w.frozen? a = false) : (callFunc 29 #[.pointer (some a), .int .i32 x, .int .i32 y]).run Ybaf.prog w = .ok (.value (.bool true)) (w.setCell a (.int .i32 y)) :=
  run_call_cas_hit Ybaf.func29 (by kernel_rfl) (by kernel_rfl) (by kernel_rfl) .i32 (by kernel_rfl) hc hz
theorem add31 {a : Addr} {w : World} (hc : w.cell? a = some (.int .i32 1)) (hz : w.frozen? a = false) : (callFunc 31 #[.pointer (some a), .int .i32 (-1)]).run Ybaf.prog w = .ok (.value (.int .i32 0)) (w.setCell a (.int .i32 0)) :=
  run_call_add Ybaf.func31 (by kernel_rfl) (by kernel_rfl) (by kernel_rfl) .i32 (by kernel_rfl) hc hz (by kernel_rfl)

set_option maxHeartbeats 400000 in
theorem load_any (ob off : Nat) (x : Int) (w : World) (hc : w.cell? ⟨ob, off, none⟩ = some (.int .i32 x)) :
    Calls Ybaf.prog 7 #[.pointer (some ⟨ob, off, none⟩)] w fun e w' => e = .returned (.int .i32 x) ∧ w' = w := by
  have hl := load18 hc
  go_enter Ybaf.func7, Ybaf.ntmps7
  go_wp2
  go_ret
  exact ⟨rfl, rfl⟩

set_option maxHeartbeats 400000 in
theorem lock_any (ob off : Nat) (w : World) (hc : w.cell? ⟨ob, off, none⟩ = some (.int .i32 0)) (hz : w.frozen? ⟨ob, off, none⟩ = false) :
    Calls Ybaf.prog 16 #[.pointer (some ⟨ob, off, none⟩)] w fun e w' => e = .returned (.tuple #[]) ∧ w' = w.setCell ⟨ob, off, none⟩ (.int .i32 1) := by
  have hl := load18 hc
  have hcas := cas29 (y := 1) hc hz
  have h1 : bits BinOp.and IntKind.i32 0 1 = 0 := by kernel_rfl
  have h2 : bits BinOp.or IntKind.i32 0 1 = 1 := by kernel_rfl
  go_enter Ybaf.func16, Ybaf.ntmps16
  go_wp2
  refine bodyPost_ret (results_none rfl _ _ _) rfl ?_
  exact ⟨rfl, rfl⟩

set_option maxHeartbeats 400000 in
theorem unlock_any (ob off : Nat) (w : World) (hc : w.cell? ⟨ob, off, none⟩ = some (.int .i32 1)) (hz : w.frozen? ⟨ob, off, none⟩ = false) :
    Calls Ybaf.prog 17 #[.pointer (some ⟨ob, off, none⟩)] w fun e w' => e = .returned (.tuple #[]) ∧ w' = w.setCell ⟨ob, off, none⟩ (.int .i32 0) := by
  have hl := add31 hc hz
  have h1 : bits BinOp.and IntKind.i32 0 1 = 0 := by kernel_rfl
  have h2 : bits BinOp.and IntKind.i32 0 12 = 0 := by kernel_rfl
  go_enter Ybaf.func17, Ybaf.ntmps17
  go_wp2
  go_end0
  exact ⟨rfl, rfl⟩

theorem str_yes {a b : ByteArray} (h : a = b) : (a.toList == b.toList) = true := by rw [h]; simp
theorem str_no {a b : ByteArray} (h : ¬ a = b) : (a.toList == b.toList) = false := by
  cases e : (a.toList == b.toList) with
  | false => rfl
  | true =>
    have e2 := eq_of_beq e
    rw [ByteArray.toList_eq, ByteArray.toList_eq] at e2
    obtain ⟨⟨x⟩⟩ := a
    obtain ⟨⟨y⟩⟩ := b
    simp at e2
    exact absurd (by rw [e2]) h

/-- What conflict answers: the first place of the name among the first n, or -1. -/
def CRes (S : Nat → ByteArray) (n : Nat) (s : ByteArray) (r : Int) : Prop :=
  (r = -1 ∧ ∀ i, i < n → S i ≠ s) ∨ ∃ i : Nat, i < n ∧ r = i ∧ S i = s ∧ ∀ j, j < i → S j ≠ s

set_option maxHeartbeats 400000 in
theorem conflict_any (tb nb n c : Nat) (S : Nat → ByteArray) (s : ByteArray) (w : World) (hn : n ≤ 1024) (ht : w.cell? ⟨tb, 0, none⟩ = some (.slice (some ⟨nb, 0, none⟩) n c)) (hS : Hid (∀ i, i < n → w.cell? ⟨nb, i, none⟩ = some (.string (S i)))) :
    Calls Ybaf.prog 14 #[.pointer (some ⟨tb, 0, none⟩), .string s] w fun e w' => ∃ r, e = .returned (.int .i64 r) ∧ CRes S n s r ∧ w' = w := by
  go_enter Ybaf.func14, Ybaf.ntmps14
  go_wp2
  go_loop [12] (fun i => ∃ k : Nat, k ≤ n ∧ i = .int .i64 k ∧ ∀ j, j < k → S j ≠ s) (fun i => n - (intOf i).toNat)
  case atStart => exact ⟨0, Nat.zero_le _, rfl, fun j hj => by omega⟩
  case round =>
    obtain ⟨k, hk, rfl, hne⟩ := hrel
    have HNE : Hid (∀ j, j < k → S j ≠ s) := hne
    clear hne
    by_cases hlt : k < n
    · have hlti : (k : Int) < (n : Int) := by omega
      have hc := hS.out k hlt
      by_cases he : S k = s
      · have he' := str_yes he
        have HE : Hid (S k = s) := he
        clear he
        go_wp2
        go_ret
        exact ⟨_, rfl, .inr ⟨k, hlt, rfl, HE.out, HNE.out⟩, rfl⟩
      · have he' := str_no he
        have HE : Hid (¬ S k = s) := he
        clear he
        go_wp2
        go_round
        case rel =>
          refine ⟨k + 1, by omega, by go_num, fun j hj => ?_⟩
          rcases Nat.lt_or_ge j k with h | h
          · exact HNE.out j h
          · obtain rfl : j = k := by omega
            exact HE.out
        case measure => simp [intOf]; omega
    · obtain rfl : k = n := by omega
      have hlti : ¬ (k : Int) < (k : Int) := by omega
      go_wp2
      go_ret
      exact ⟨_, rfl, .inl ⟨rfl, HNE.out⟩, rfl⟩
end Go.Proofs.YbulkdgjkFmt
