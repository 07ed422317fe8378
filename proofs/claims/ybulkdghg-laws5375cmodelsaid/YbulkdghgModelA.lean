import Derived.Test.YbulkdghgRows
import Derived.WalkKit
import Derived.WalkSpells
import Derived.WalkLawsBesides
import Derived.Laws.FloatArith
import Derived.Deep.RegionHeld3
import Derived.Deep.DeepCutAuto
import Derived.Deep.OwnRows
import Derived.Deep.DrawnRows
import Derived.Deep.QuietTactic
import Derived.BigQuiet
namespace Go.Proofs.Ybulkdghg.Model
open Go.RowKit

/-- The bits of 1.0. -/
def one : Nat := 4607182418800017408
def isN (x : Nat) : Bool := (Ieee.double.read x).isNaN
def isNum (x : Nat) : Bool := match Ieee.double.read x with | .number .. => true | _ => false
/-- Two floats that the law's own comparison holds equal: both NaN, or the same bits. -/
def SF (a b : Nat) : Prop := (isN a = true ∧ isN b = true) ∨ a = b
/-- The bits of 2^-(l+1). -/
def stepBits (l : Nat) : Nat := (1022 - l) * 4503599627370496
/-- The step forward or back. -/
def offv (l : Nat) (back : Bool) : Nat := if back then Op.negFloat .f64 (stepBits l) else stepBits l

theorem order_nan_left (x y : Nat) (h : isN x = true) : Ieee.double.order x y = none := by
  unfold isN Ieee.Datum.isNaN at h
  unfold Ieee.Format.order
  generalize Ieee.double.read x = d at h
  cases d <;> simp at h
  rfl

theorem order_self (x : Nat) (h : isN x = false) : Ieee.double.order x x = some .eq := by
  unfold isN Ieee.Datum.isNaN at h
  unfold Ieee.Format.order
  generalize Ieee.double.read x = d at h
  cases d with
  | number s m i => simp [Ieee.Datum.order]
  | infinity s => simp [Ieee.Datum.order]
  | nan s t => simp at h

theorem add_num_some (x y : Nat) (h : isN x = false) (hy : isNum y = true) : ∃ r, Ieee.double.add x y = some r := by
  unfold isN Ieee.Datum.isNaN at h
  unfold isNum at hy
  unfold Ieee.Format.add
  generalize Ieee.double.read x = d at h
  generalize Ieee.double.read y = c at hy
  cases d <;> cases c <;> simp [Ieee.Datum.sum] at h hy ⊢

theorem add_nan_none (x y : Nat) (h : isN x = true) : Ieee.double.add x y = none := by
  unfold isN Ieee.Datum.isNaN at h
  unfold Ieee.Format.add
  generalize Ieee.double.read x = d at h
  cases d <;> simp [Ieee.Datum.sum] at h ⊢

theorem sub_num_some (x y : Nat) (h : isN x = false) (hy : isNum y = true) : ∃ r, Ieee.double.sub x y = some r := by
  unfold isN Ieee.Datum.isNaN at h
  unfold isNum at hy
  unfold Ieee.Format.sub
  generalize Ieee.double.read x = d at h
  generalize Ieee.double.read y = c at hy
  cases d <;> cases c <;> simp [Ieee.Datum.sum, Ieee.Datum.opposite] at h hy ⊢

theorem nan_of_cut (x y t : Nat) : isN (Question.cut (.nanBits .f64 x y) t) = true := by
  have h1 : t / 2 % (2 ^ 52 - 1) < 2 ^ 52 - 1 := Nat.mod_lt _ (by omega)
  have h2 : t % 2 < 2 := Nat.mod_lt _ (by omega)
  simp only [Question.cut]
  generalize t / 2 % (2 ^ 52 - 1) = r at h1
  generalize t % 2 = s at h2
  have e : (s * 2 ^ 63 + 0x7ff0000000000000 + 1 + r) % 2 ^ 63 = 0x7ff0000000000000 + 1 + r := by omega
  unfold isN Ieee.Format.read
  have b1 : Ieee.double.signWeight = 2 ^ 63 := by decide
  have b2 : Ieee.double.binade = 4503599627370496 := by decide
  have b3 : Ieee.double.infRung = 9218868437227405312 := by decide
  simp only [b1, b2, b3, e]
  rw [if_neg (by omega), if_neg (by omega), if_neg (by omega)]
  rfl

theorem steps_num : (List.range 41).all (fun l => isNum (offv l true) && isNum (offv l false)) = true := by kernel_rfl
theorem off_num (l : Nat) (h : l ≤ 40) (b : Bool) : isNum (offv l b) = true := by
  have := List.all_eq_true.1 steps_num l (by simp; omega)
  simp at this
  cases b
  · exact this.2
  · exact this.1
theorem one_num : isNum one = true := by kernel_rfl
theorem halves : (List.range 41).all (fun l => Ieee.double.div (stepBits l) 4611686018427387904 == some (stepBits (l + 1))) = true := by kernel_rfl
theorem half (l : Nat) (h : l ≤ 40) : Ieee.double.div (stepBits l) 4611686018427387904 = some (stepBits (l + 1)) := by
  have := List.all_eq_true.1 halves l (by simp; omega)
  simpa using this
theorem muls : (List.range 41).all (fun l => Ieee.double.mul one (stepBits l) == some (stepBits l)) = true := by kernel_rfl
theorem mul_one (l : Nat) (h : l ≤ 40) : Ieee.double.mul one (stepBits l) = some (stepBits l) := by
  have := List.all_eq_true.1 muls l (by simp; omega)
  simpa using this

/-- Wrap on bits. -/
def up1 (x : Nat) : Nat := if (Ieee.double.order x 0 == some .lt) then (Ieee.double.add x one).getD 0 else x
def down1 (x : Nat) : Nat := if (Ieee.double.order x one == some .gt || Ieee.double.order x one == some .eq) then (Ieee.double.sub x one).getD 0 else x
def wrapv (x : Nat) : Nat := down1 (up1 x)

theorem notN_of_order {x y : Nat} {o : Ordering} (h : Ieee.double.order x y = some o) : isN x = false := by
  cases e : isN x with
  | false => rfl
  | true => rw [order_nan_left x y e] at h; cases h

theorem wrap_nan (x : Nat) (h : isN x = true) : wrapv x = x := by
  have h1 : up1 x = x := by simp [up1, order_nan_left x 0 h]
  rw [wrapv, h1]
  simp [down1, order_nan_left x one h]

/-- What a coordinate of a point may be. -/
def Pt (x off r : Nat) : Prop := (isN x = true ∧ isN r = true) ∨ (isN x = false ∧ r = wrapv ((Ieee.double.add x off).getD 0))

theorem Pt.same {x off r s : Nat} (h : Pt x off r) (k : Pt x off s) : SF r s := by
  rcases h with ⟨h1, h2⟩ | ⟨h1, h2⟩ <;> rcases k with ⟨k1, k2⟩ | ⟨k1, k2⟩
  · exact .inl ⟨h2, k2⟩
  · rw [h1] at k1; cases k1
  · rw [h1] at k1; cases k1
  · exact .inr (h2.trans k2.symm)

theorem SF.refl (a : Nat) : SF a a := .inr rfl

set_option maxHeartbeats 400000 in
theorem ceq_any (a b : Nat) (w : World) (h : SF a b) : Calls Yba.prog 8 #[.float .f64 a, .float .f64 b] w fun e w' => e = .returned (.bool true) ∧ w' = w := by
  have hf : FloatKind.f64.format = Ieee.double := rfl
  rcases h with ⟨h1, h2⟩ | rfl
  · have o1 := order_nan_left a a h1
    have o2 := order_nan_left b b h2
    clear h1 h2
    go_enter Yba.func8, Yba.ntmps8
    go_wp2
    go_ret
    exact ⟨rfl, rfl⟩
  · cases e : isN a with
    | true =>
      have o1 := order_nan_left a a e
      clear e
      go_enter Yba.func8, Yba.ntmps8
      go_wp2
      go_ret
      exact ⟨rfl, rfl⟩
    | false =>
      have o1 := order_self a e
      clear e
      go_enter Yba.func8, Yba.ntmps8
      go_wp2
      go_ret
      exact ⟨rfl, rfl⟩

end Go.Proofs.Ybulkdghg.Model
