import Derived.Test.YbulkdghgModelA
namespace Go.Proofs.Ybulkdghg.Model
open Go.RowKit

theorem ge_notN {r : Nat} (h2 : (Ieee.double.order r one == some .gt || Ieee.double.order r one == some .eq) = true) : isN r = false := by
  rw [Bool.or_eq_true] at h2
  rcases h2 with h | h
  · exact notN_of_order (y := one) (o := .gt) (by simpa using h)
  · exact notN_of_order (y := one) (o := .eq) (by simpa using h)

/-- '+' and '-' with 1.0 as the walk meets them. -/
theorem run_up {x r : Nat} (hr : Ieee.double.add x one = some r) (w : World) : (binOp .add 38 (.float .f64 x) (.float .f64 4607182418800017408)).run Yba.prog w = .ok (.float .f64 r) w := run_float_arith w .add 38 .f64 x one r hr
theorem run_down {x r : Nat} (hr : Ieee.double.sub x one = some r) (w : World) : (binOp .sub 38 (.float .f64 x) (.float .f64 4607182418800017408)).run Yba.prog w = .ok (.float .f64 r) w := run_float_arith w .sub 38 .f64 x one r hr

theorem up_yes {x : Nat} (h1 : (Ieee.double.order x 0 == some .lt) = true) : Ieee.double.add x one = some (up1 x) := by
  have hx : isN x = false := notN_of_order (by simpa using h1)
  obtain ⟨r, hr⟩ := add_num_some x one hx one_num
  simp only [up1, h1, if_true]
  rw [hr]; rfl
theorem up_no {x : Nat} (h1 : (Ieee.double.order x 0 == some .lt) = false) : up1 x = x := by simp [up1, h1]
theorem down_yes {x : Nat} (h2 : (Ieee.double.order x one == some .gt || Ieee.double.order x one == some .eq) = true) : Ieee.double.sub x one = some (down1 x) := by
  obtain ⟨r, hr⟩ := sub_num_some x one (ge_notN h2) one_num
  simp only [down1, h2, if_true]
  rw [hr]; rfl
theorem down_no {x : Nat} (h2 : (Ieee.double.order x one == some .gt || Ieee.double.order x one == some .eq) = false) : down1 x = x := by simp [down1, h2]

set_option maxHeartbeats 400000 in
theorem wrap_any (x : Nat) (w : World) : Calls Yba.prog 12 #[.float .f64 x] w fun e w' => e = .returned (.float .f64 (wrapv x)) ∧ w' = w := by
  have hf : FloatKind.f64.format = Ieee.double := rfl
  unfold wrapv
  cases h1 : (Ieee.double.order x 0 == some .lt) with
  | true =>
    have ha := run_up (up_yes h1)
    generalize up1 x = y at ha ⊢
    cases h2 : (Ieee.double.order y one == some .gt || Ieee.double.order y one == some .eq) with
    | true =>
      have hb := run_down (down_yes h2)
      have h2' : (Ieee.double.order y 4607182418800017408 == some .gt || Ieee.double.order y 4607182418800017408 == some .eq) = true := h2
      generalize down1 y = z at hb ⊢
      clear h2
      go_enter Yba.func12, Yba.ntmps12
      go_wp2
      go_ret
      exact ⟨rfl, rfl⟩
    | false =>
      rw [down_no h2]
      have h2' : (Ieee.double.order y 4607182418800017408 == some .gt || Ieee.double.order y 4607182418800017408 == some .eq) = false := h2
      clear h2
      go_enter Yba.func12, Yba.ntmps12
      go_wp2
      go_ret
      exact ⟨rfl, rfl⟩
  | false =>
    rw [up_no h1]
    cases h2 : (Ieee.double.order x one == some .gt || Ieee.double.order x one == some .eq) with
    | true =>
      have hb := run_down (down_yes h2)
      have h2' : (Ieee.double.order x 4607182418800017408 == some .gt || Ieee.double.order x 4607182418800017408 == some .eq) = true := h2
      generalize down1 x = z at hb ⊢
      clear h2
      go_enter Yba.func12, Yba.ntmps12
      go_wp2
      go_ret
      exact ⟨rfl, rfl⟩
    | false =>
      rw [down_no h2]
      have h2' : (Ieee.double.order x 4607182418800017408 == some .gt || Ieee.double.order x 4607182418800017408 == some .eq) = false := h2
      clear h2
      go_enter Yba.func12, Yba.ntmps12
      go_wp2
      go_ret
      exact ⟨rfl, rfl⟩

theorem fbits (b : Nat) (w : World) : Sem.run Yba.prog (callFunc 18 #[.float .f64 b]) w = .ok (.value (.int .u64 (b : Int))) w := by kernel_rfl
theorem ffrom (b : Nat) (w : World) : Sem.run Yba.prog (callFunc 21 #[.int .u64 (b : Int)]) w = .ok (.value (.float .f64 b)) w := by kernel_rfl


theorem ffrom1 (w : World) : Sem.run Yba.prog (callFunc 21 #[.int .u64 (bits BinOp.andNot IntKind.u64 4607182418800017408 9223372036854775808)]) w = .ok (.value (.float .f64 4607182418800017408)) w := by kernel_rfl

set_option maxHeartbeats 400000 in
theorem abs_one (w : World) : Calls Yba.prog 22 #[.float .f64 4607182418800017408] w fun e w' => e = .returned (.float .f64 4607182418800017408) ∧ w' = w := by
  have hb := fbits 4607182418800017408
  have hc := ffrom1
  go_enter Yba.func22, Yba.ntmps22
  go_wp2
  go_ret
  exact ⟨rfl, rfl⟩


theorem orsAll : (List.range 41).all (fun l => bits BinOp.or IntKind.u64 (bits BinOp.andNot IntKind.u64 4607182418800017408 9218868437227405312) ((-((l : Int) + 1) + 1023) * 4503599627370496) == ((stepBits l : Nat) : Int)) = true := by kernel_rfl
theorem ffrom2 (l : Nat) (h : l ≤ 40) (w : World) : Sem.run Yba.prog (callFunc 21 #[.int .u64 (bits BinOp.or IntKind.u64 (bits BinOp.andNot IntKind.u64 4607182418800017408 9218868437227405312) ((-((l : Int) + 1) + 1023) * 4503599627370496))]) w = .ok (.value (.float .f64 (stepBits l))) w := by
  have := List.all_eq_true.1 orsAll l (by simp; omega)
  rw [eq_of_beq this]
  exact ffrom (stepBits l) w

set_option maxHeartbeats 400000 in
set_option maxRecDepth 100000 in
theorem ldexp_any (l : Nat) (h : l ≤ 40) (w : World) : Calls Yba.prog 11 #[.float .f64 4607182418800017408, .int .i64 (-((l : Int) + 1))] w fun e w' => e = .returned (.float .f64 (stepBits l)) ∧ w' = w := by
  have hf : FloatKind.f64.format = Ieee.double := rfl
  have hb := fbits 4607182418800017408
  have hm : bits BinOp.and IntKind.i64 1023 2047 = 1023 := by kernel_rfl
  have hl : (l : Int) ≤ 40 := by omega
  have hl0 : (0 : Int) ≤ (l : Int) := by omega
  have hfr := ffrom2 l h
  have hmul : ∀ w, (binOp .mul 38 (.float .f64 4607182418800017408) (.float .f64 (stepBits l))).run Yba.prog w = .ok (.float .f64 (stepBits l)) w := fun w => run_float_arith w .mul 38 .f64 one (stepBits l) (stepBits l) (mul_one l h)
  generalize stepBits l = sb at hfr hmul ⊢
  go_enter Yba.func11, Yba.ntmps11
  go_wp2_with (first | (go_at_call 22; refine (abs_one _).mono ?_; rintro e w' ⟨rfl, rfl⟩) | go_in)
  go_ret
  exact ⟨rfl, rfl⟩
end Go.Proofs.Ybulkdghg.Model
