import Derived.Test.YbulkdgouSortI
namespace Go.Proofs.Ybulkdgou
open Go.RowKit
attribute [local go_sem ↓] Go.wp_at_zero Go.wp_at_succ
namespace SortA

set_option maxHeartbeats 400000 in
theorem less_any (a b : Nat) (w : World) : Calls Yba.prog 26 #[.int .i64 (a : Int), .int .i64 (b : Int)] w fun e w' => e = .returned (.bool (decide (a < b))) ∧ w' = w := by
  by_cases h1 : a < b
  · have h1i : (a : Int) < (b : Int) := by omega
    rw [decide_eq_true h1]
    go_enter Yba.func26, Yba.ntmps26
    go_wp2_with (first | (go_at_call 19; refine (isNaN_any _ _).mono ?_; rintro e w' ⟨rfl, hw'⟩; replace hw' := hw'.symm; subst hw'))
    go_ret
    exact ⟨rfl, rfl⟩
  · have h1i : ¬ (a : Int) < (b : Int) := by omega
    rw [decide_eq_false h1]
    go_enter Yba.func26, Yba.ntmps26
    go_wp2_with (first | (go_at_call 19; refine (isNaN_any _ _).mono ?_; rintro e w' ⟨rfl, hw'⟩; replace hw' := hw'.symm; subst hw'))
    go_ret
    exact ⟨rfl, rfl⟩
set_option maxHeartbeats 400000 in
theorem isNaN27_any (a : Int) (w : World) : Calls Yba.prog 27 #[.int .i64 a] w fun e w' => e = .returned (.bool false) ∧ w' = w := by
  go_enter Yba.func27, Yba.ntmps27
  go_wp2
  go_ret
  exact ⟨rfl, rfl⟩

/-- A slice of ints, ascending strictly. -/
structure Zs (w : World) (zp : Option Addr) (zl : Nat) (Z : Nat → Nat) : Prop where
  cells : 0 < zl → ∃ zb, zp = some ⟨zb, 0, none⟩ ∧ ∀ i, i < zl → w.cell? ⟨zb, i, none⟩ = some (.int .i64 (Z i : Int))
  asc : ∀ i j, i < j → j < zl → Z i < Z j
  len : zl ≤ 1024

/-- Is t among them? -/
def has (zl : Nat) (Z : Nat → Nat) (t : Nat) : Bool := (List.range zl).any fun i => Z i == t
theorem has_iff {zl : Nat} {Z : Nat → Nat} {t : Nat} : has zl Z t = true ↔ ∃ i, i < zl ∧ Z i = t := by simp [has]

set_option maxHeartbeats 1000000 in
set_option maxRecDepth 100000 in
theorem bsearch_any (zp : Option Addr) (zl zc t : Nat) (Z : Nat → Nat) (fb : Bool) (w : World) (h : Hid (Zs w zp zl Z)) (HF : Hid (fb = has zl Z t)) :
    Calls Yba.prog 20 #[.slice zp zl zc, .int .i64 (t : Int)] w fun e w' => (∃ k : Int, e = .returned (.tuple #[.int .i64 k, .bool fb])) ∧ w' = w := by
  have hl := h.out.len
  go_enter Yba.func20, Yba.ntmps20
  go_wp2_with fail
  go_loopg [7, 8] zl (fun gk s7 s8 wr => ∃ i j : Nat, i ≤ j ∧ j ≤ zl ∧ gk = j - i ∧ s7 = .int .i64 (i : Int) ∧ s8 = .int .i64 (j : Int) ∧ wr = w ∧ (∀ x, x < i → Z x < t) ∧ (∀ x, j ≤ x → x < zl → t ≤ Z x))
  case atStart => exact ⟨0, zl, Nat.zero_le _, Nat.le_refl _, rfl, rfl, rfl, rfl, fun x hx => by omega, fun x h1 h2 => by omega⟩
  case round =>
    obtain ⟨i, j, hij, hj, rfl, rfl, rfl, rfl, h1, h2⟩ := hrel
    have HS : Hid ((∀ x, x < i → Z x < t) ∧ (∀ x, j ≤ x → x < zl → t ≤ Z x)) := ⟨h1, h2⟩
    clear h1 h2
    by_cases hlt : i < j
    · have hlti : (i : Int) < (j : Int) := by omega
      obtain ⟨m, hm, hm1, hm2⟩ : ∃ m : Nat, ((i : Int) + (j : Int)) / 2 = (m : Int) ∧ i ≤ m ∧ m < j := ⟨(i + j) / 2, by omega, by omega, by omega⟩
      obtain ⟨zb, rfl, hc⟩ := h.out.cells (by omega)
      have c1 := hc m (by omega)
      have hml : (m : Int) < (zl : Int) := by omega
      clear hc
      by_cases hk : Z m < t
      · have HK : Hid (Z m < t) := hk
        go_wp2_with (first | (go_at_call 26; refine (less_any (Z m) t wr).mono ?_; rw [decide_eq_true hk]; rintro e w' ⟨rfl, hw'⟩; replace hw' := hw'.symm; subst hw'))
        go_roundg (j - (m + 1))
        case measure => omega
        case rel =>
          refine ⟨m + 1, j, by omega, hj, rfl, by go_num, rfl, rfl, fun x hx => ?_, HS.out.2⟩
          by_cases e : x = m
          · rw [e]; exact HK.out
          · have := h.out.asc x m (by omega) (by omega)
            have := HK.out
            omega
      · have HK : Hid (¬ Z m < t) := hk
        go_wp2_with (first | (go_at_call 26; refine (less_any (Z m) t wr).mono ?_; rw [decide_eq_false hk]; rintro e w' ⟨rfl, hw'⟩; replace hw' := hw'.symm; subst hw'))
        go_roundg (m - i)
        case measure => omega
        case rel =>
          refine ⟨i, m, hm1, by omega, rfl, rfl, by go_num, rfl, HS.out.1, fun x p q => ?_⟩
          have := HK.out
          by_cases e : x = m
          · rw [e]; omega
          · have := h.out.asc m x (by omega) q
            omega
    · obtain rfl : i = j := by omega
      have hlti : ¬ (i : Int) < (i : Int) := by omega
      by_cases hil : i < zl
      · have hili : (i : Int) < (zl : Int) := by omega
        obtain ⟨zb, rfl, hc⟩ := h.out.cells (by omega)
        have c1 := hc i hil
        clear hc
        by_cases he : Z i = t
        · have hei : ((Z i : Int) == (t : Int)) = true := by simp [he]
          have hfb : fb = true := by rw [HF.out]; exact has_iff.2 ⟨i, hil, he⟩
          subst hfb
          go_wp2_with (first | (go_at_call 27; refine (isNaN27_any _ _).mono ?_; rintro e w' ⟨rfl, hw'⟩; replace hw' := hw'.symm; subst hw'))
          go_ret2
          exact ⟨⟨_, rfl⟩, rfl⟩
        · have hei : ((Z i : Int) == (t : Int)) = false := by simp; omega
          have hfb : fb = false := by
            rw [HF.out, Bool.eq_false_iff]
            intro hh
            obtain ⟨x, hx, e⟩ := has_iff.1 hh
            by_cases hxi : x < i
            · have := HS.out.1 x hxi; omega
            · have := HS.out.2 x (by omega) hx
              by_cases hx2 : x = i
              · rw [hx2] at e; exact he e
              · have := h.out.asc i x (by omega) hx
                have := HS.out.2 i (Nat.le_refl _) hil
                omega
          subst hfb
          go_wp2_with (first | (go_at_call 27; refine (isNaN27_any _ _).mono ?_; rintro e w' ⟨rfl, hw'⟩; replace hw' := hw'.symm; subst hw'))
          go_ret2
          exact ⟨⟨_, rfl⟩, rfl⟩
      · have hili : ¬ (i : Int) < (zl : Int) := by omega
        have hfb : fb = false := by
          rw [HF.out, Bool.eq_false_iff]
          intro hh
          obtain ⟨x, hx, e⟩ := has_iff.1 hh
          have := HS.out.1 x (by omega)
          omega
        subst hfb
        go_wp2_with fail
        go_ret2
        exact ⟨⟨_, rfl⟩, rfl⟩
end SortA
end Go.Proofs.Ybulkdgou
