import Derived.Test.YbulkdghgModelB
namespace Go.Proofs.Ybulkdghg.Model
open Go.RowKit
attribute [local go_sem ↓] Go.wp_at_zero Go.wp_at_succ

theorem run_store_float (P : Program) (w : World) (a : Addr) (m : Mode) (k : FloatKind) (n : Nat) : (store a (.float k n) m).run P w = stored P w a (.float k n) m := run_store P w a _ m rfl
attribute [local go_sem] run_store_float

theorem info38 : (Yba.prog.info? 38).map (fun i => (i.zero, i.size, i.bytes)) = some (some (.float .f64 0), 1, 8) := by kernel_rfl

/-- Is bit m of s set: as the walk says it. -/
def bitB (s m : Nat) : Bool := bits BinOp.and IntKind.i64 ((s : Int) / 2 ^ m) 1 == 1

/-- The NaN that the tape gives. -/
def nanv (w : World) (x y : Nat) : Nat := Question.cut (.nanBits .f64 x y) (w.tape w.drawn (.nanBits .f64 x y))
theorem nanv_nan (w : World) (x y : Nat) : isN (nanv w x y) = true := nan_of_cut x y _
theorem run_add_nan {x y : Nat} (h : isN x = true) (w : World) : (binOp .add 38 (.float .f64 x) (.float .f64 y)).run Yba.prog w = .ok (.float .f64 (nanv w x y)) w.drew := by
  have hn : Ieee.double.add x y = none := add_nan_none x y h
  have hf : FloatKind.f64.format = Ieee.double := rfl
  simp [binOp, Op.floatArith, hf, hn, nanv, Question.forced]
theorem run_add_num {x y r : Nat} (h : Ieee.double.add x y = some r) (w : World) : (binOp .add 38 (.float .f64 x) (.float .f64 y)).run Yba.prog w = .ok (.float .f64 r) w := run_float_arith w .add 38 .f64 x y r h

theorem pt_num {x off r : Nat} (hx : isN x = false) (h : Ieee.double.add x off = some r) : Pt x off (wrapv r) := .inr ⟨hx, by rw [h]; rfl⟩
theorem pt_nan {x off r : Nat} (hx : isN x = true) (h : isN r = true) : Pt x off (wrapv r) := .inl ⟨hx, by rw [wrap_nan r h]; exact h⟩

theorem shift_step {X R : Nat → Nat} {l s d k N : Nat} {w wr : World} (v : Nat) (hbel : Below N w wr) (hrow : wr.rowIs N 38 d (fun m => .float .f64 (R m))) (hR : ∀ m, m < k → Pt (X m) (offv l (bitB s m)) (R m)) (hv : Pt (X k) (offv l (bitB s k)) v) :
    Below N w (wr.setCell ⟨N, k, none⟩ (.float .f64 v)) ∧ (wr.setCell ⟨N, k, none⟩ (.float .f64 v)).heap.size = wr.heap.size ∧ ∃ R' : Nat → Nat, (wr.setCell ⟨N, k, none⟩ (.float .f64 v)).rowIs N 38 d (fun m => .float .f64 (R' m)) ∧ ∀ m, m < k + 1 → Pt (X m) (offv l (bitB s m)) (R' m) := by
  refine ⟨hbel.setCell (Nat.le_refl _) _, Go.Deep.nblk_setCell _ _ _, fun m => if m = k then v else R m, (hrow.set k _).congr fun i _ => ?_, fun m hm => ?_⟩
  · by_cases e : i = k <;> simp [e]
  · by_cases e : m = k
    · subst e; simpa using hv
    · simp only [if_neg e]; exact hR m (by omega)

set_option maxHeartbeats 400000 in
set_option maxRecDepth 100000 in
theorem shifted_any (ib d l s : Nat) (X : Nat → Nat) (hl : l ≤ 40) (hd : d ≤ 8) (w : World) (hib : ib < w.heap.size) (hx : Hid (∀ m, m < d → w.cell? ⟨ib, m, none⟩ = some (.float .f64 (X m)))) :
    Calls Yba.prog 10 #[.slice (some ⟨ib, 0, none⟩) d d, .float .f64 (stepBits l), .int .i64 (s : Int)] w fun e w' => e = .returned (.slice (some ⟨w.heap.size, 0, none⟩) d d) ∧ Below w.heap.size w w' ∧ w'.heap.size = w.heap.size + 1 ∧
      ∃ R : Nat → Nat, w'.rowIs w.heap.size 38 d (fun m => .float .f64 (R m)) ∧ ∀ m, m < d → Pt (X m) (offv l (bitB s m)) (R m) := by
  have hf : FloatKind.f64.format = Ieee.double := rfl
  have hmk := run_make_row' (P := Yba.prog) 40 38 (.float .f64 0) 8 Yba.underlying40 info38 rfl .i64 .i64 d (by omega) (by omega)
  go_enter Yba.func10, Yba.ntmps10
  go_wp2
  clear hmk
  go_loopg [16] d (fun n i wr => ∃ k : Nat, k ≤ d ∧ n = d - k ∧ i = .int .i64 k ∧ Below w.heap.size w wr ∧ wr.heap.size = w.heap.size + 1 ∧
      ∃ R : Nat → Nat, wr.rowIs w.heap.size 38 d (fun m => .float .f64 (R m)) ∧ ∀ m, m < k → Pt (X m) (offv l (bitB s m)) (R m))
  case atStart => exact ⟨0, Nat.zero_le _, rfl, rfl, (Below.refl _ _).alloc (Nat.le_refl _) _, by simp, fun _ => 0, World.rowIs_made _ _ _ _, fun m hm => by omega⟩
  case round =>
    obtain ⟨k, hk, rfl, rfl, hbel, hsz, R, hrow, hR⟩ := hrel
    by_cases hlt : k < d
    · have hlti : (k : Int) < (d : Int) := by omega
      have hc : wr.cell? ⟨ib, k, none⟩ = some (.float .f64 (X k)) := by rw [hbel.cell hib]; exact hx.out k hlt
      have hz : wr.cell? ⟨w.heap.size, k, none⟩ = some (.float .f64 (R k)) := hrow.cell hlt
      have fz : wr.frozen? ⟨w.heap.size, k, none⟩ = false := hrow.frozen k
      have HB : Hid (Below w.heap.size w wr ∧ wr.heap.size = w.heap.size + 1 ∧ wr.rowIs w.heap.size 38 d (fun m => .float .f64 (R m)) ∧ ∀ m, m < k → Pt (X m) (offv l (bitB s m)) (R m)) := ⟨hbel, hsz, hrow, hR⟩
      clear hbel hsz hrow hR
      have hneg : Op.unary .neg (.float .f64 (stepBits l)) = pure (.float .f64 (Op.negFloat .f64 (stepBits l))) := rfl
      go_upto_if 26 with (fail)
      go_cut [10] (fun s10 wc => s10 = .float .f64 (offv l (bitB s k)) ∧ wc = wr)
      case first =>
        cases hb : bitB s k with
        | true =>
          have hb' : (bits BinOp.and IntKind.i64 ((s : Int) / 2 ^ k) 1 == 1) = true := hb
          go_wp2
          go_meet
          case rel => exact ⟨by simp only [hb, offv, if_true], rfl⟩
        | false =>
          have hb' : (bits BinOp.and IntKind.i64 ((s : Int) / 2 ^ k) 1 == 1) = false := hb
          go_wp2
          go_meet
          case rel => exact ⟨by simp only [hb, offv, if_false, Bool.false_eq_true], rfl⟩
      case rest =>
        obtain ⟨rfl, rfl⟩ := hcut
        have hn := off_num l hl (bitB s k)
        obtain ⟨off, ho⟩ : ∃ off, off = offv l (bitB s k) := ⟨_, rfl⟩
        rw [← ho] at hn ⊢
        have HO : Hid (off = offv l (bitB s k)) := ho
        clear ho hneg
        cases hxn : isN (X k) with
        | true =>
          have hadd := run_add_nan (y := off) hxn
          have HX : Hid (isN (X k) = true) := hxn
          clear hxn
          go_wp2_with (go_at_call 12; refine (wrap_any _ _).mono ?_; rintro e w' ⟨rfl, rfl⟩)
          go_roundg (d - (k + 1))
          case measure => omega
          case rel =>
            obtain ⟨hbel, hsz, hrow, hR⟩ := HB.out
            obtain ⟨q1, q2, R', q3, q4⟩ := shift_step (wrapv (nanv wc (X k) off)) hbel hrow hR (pt_nan HX.out (nanv_nan _ _ _))
            exact ⟨k + 1, by omega, rfl, by go_num, q1.drew, q2.trans hsz, R', q3.drew, q4⟩
        | false =>
          obtain ⟨r, hr⟩ := add_num_some (X k) off hxn hn
          have hadd := run_add_num hr
          have hpt : Hid (Pt (X k) off (wrapv r)) := pt_num hxn hr
          clear hxn hr
          go_wp2_with (go_at_call 12; refine (wrap_any _ _).mono ?_; rintro e w' ⟨rfl, rfl⟩)
          go_roundg (d - (k + 1))
          case measure => omega
          case rel =>
            obtain ⟨hbel, hsz, hrow, hR⟩ := HB.out
            obtain ⟨q1, q2, R', q3, q4⟩ := shift_step (wrapv r) hbel hrow hR (by rw [← HO.out]; exact hpt.out)
            exact ⟨k + 1, by omega, rfl, by go_num, q1, q2.trans hsz, R', q3, q4⟩
    · obtain rfl : k = d := by omega
      have hlti : ¬ (k : Int) < (k : Int) := by omega
      have HB : Hid (Below w.heap.size w wr ∧ wr.heap.size = w.heap.size + 1 ∧ ∃ R : Nat → Nat, wr.rowIs w.heap.size 38 k (fun m => .float .f64 (R m)) ∧ ∀ m, m < k → Pt (X m) (offv l (bitB s m)) (R m)) := ⟨hbel, hsz, R, hrow, hR⟩
      clear hbel hsz hrow hR
      go_wp2
      go_ret
      exact ⟨rfl, HB.out⟩
end Go.Proofs.Ybulkdghg.Model
