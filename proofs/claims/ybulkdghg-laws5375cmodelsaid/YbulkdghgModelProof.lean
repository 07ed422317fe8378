import Derived.Test.YbulkdghgModelF
import Derived.ProofKit
import Derived.OpenShut
import Derived.ShutString
import Derived.ChangeOld
import Derived.Below
import Derived.Deep.Slices
namespace Go.Proofs.Ybulkdghg
open Go.ChangeShapes Go.WideShapes Go.ChangeAt Go.RowKit
namespace Model

theorem own : ownKnob Yba.prog.godebug = none := by kernel_rfl
theorem laidOut : laidOutB Yba.prog = true := by kernel_rfl
theorem cells38 : Yba.prog.cellsOf 38 = 1 := by kernel_rfl

theorem trod_float {H : Type} {enc : TypeId × Value → H} {P : Program} {w : World} {base : Nat} {spare : Nat → Bool} {held : Bool} {fuel : Nat} {t : TypeId} {cs : List Value} {x : DataW H × List MemPlace} {k : FloatKind}
    (ht : P.underlying t = some (.float k)) (h : DataW.trod enc P w base spare held fuel t cs = some x) : ∃ b, cs = [.float k b] := by
  cases fuel with
  | zero => simp [DataW.trod] at h
  | succ n =>
    unfold DataW.trod at h
    rw [ht] at h
    split at h <;> simp_all

theorem spot_of_cell {w : World} {x : Addr} {v : Value} (h : w.cell? x = some v) : x = ⟨x.block, x.off, none⟩ ∧ x.block < w.heap.size := by
  obtain ⟨b, off, sp⟩ := x
  simp only [World.cell?] at h
  split at h
  · rename_i hb
    cases sp with
    | none => exact ⟨rfl, (Array.getElem?_eq_some_iff.1 hb).1⟩
    | some _ => simp at h
  · cases h

theorem walk (a : Option Addr) (d cap : Nat) (lv : Int) (X : Nat → Nat) (w : World) (hx : IsF w a d X) :
    Calls Yba.prog 4 #[.slice a d cap, .int .i64 lv] w fun e w' => e = .returned (.bool true) ∧ Below w.heap.size w w' := by
  by_cases h0 : lv < 0
  · exact law_neg a d cap lv w h0
  · by_cases hb : 8 < d ∨ 40 < lv
    · exact law_big a d cap lv w (by omega) hb
    · obtain ⟨n, rfl⟩ := Int.eq_ofNat_of_zero_le (show 0 ≤ lv by omega)
      exact law_main a d cap n X w (by omega) (by omega) hx

set_option maxRecDepth 100000 in
theorem lifted (os : Os) (started : os.Started) (H : Type) (enc : TypeId × Value → H) :
    ReturnsInHanded {} Yba.checked os 4 .any (Rows.lawS5375CModelSpec.pre6 enc Yba.prog Yba.f4 Rows.lawS5375CModelRow.domain false) (Rows.lawS5375CModelSpec.post enc Yba.prog Yba.f4 false true false false) := by
  refine returnsInHanded_of_change (C := Yba.checked) own started (by kernel_rfl) Yba.func4
    (ChangeSpec.witness6 (enc := enc) (C := Yba.checked) false ⟨#[], #[.slice none 0 0, .int .i64 0], []⟩ 8 (by kernel_rfl) (by kernel_rfl) (by kernel_rfl) (by kernel_rfl)) ?_
  intro W base args ds gs before hval0 hW hcnd _
  have hval : ∀ (j : Nat) t v, Yba.f4.params[j]? = some t → args[j]? = some v → Value.okWide Yba.prog W .any base t v := hval0
  have hW' := hW
  obtain ⟨p, q, hA0, hV, rfl, hfz, hnd⟩ := hW
  have hA : DataW.TrodAll enc Yba.prog W 0 (fun _ => true) true Yba.f4.params.toList args.toList ds p := hA0
  rw [Yba.params4] at hA hval
  obtain ⟨v0, vs0, d0, ds0, p0, q0, hargs, rfl, rfl, h0, r0⟩ := trodAll_cons hA
  obtain ⟨v1, vs1, d1, ds1, p1, q1, rfl, rfl, rfl, h1, r1⟩ := trodAll_cons r0
  obtain ⟨rfl, rfl, rfl⟩ := trodAll_nil r1
  obtain rfl : args = #[v0, v1] := by cases args; simp_all
  obtain ⟨rfl, rfl⟩ := trodVars_none hV
  obtain ⟨a0, len0, cap0, rfl⟩ := okWide_slice Yba.underlying39 (hval 0 39 v0 rfl rfl)
  have k0 := h0
  have lt0 : ∀ x ∈ p0, x.block < W.heap.size := by obtain ⟨m, hm⟩ := k0; exact DataW.trod_lt m _ _ _ hm
  obtain ⟨X, w0⟩ : ∃ X, IsF W a0 len0 X := by
    obtain ⟨fuel, hf⟩ := h0
    rcases Go.Deep.open_slice1 Yba.underlying39 cells38 hf with ⟨hcs, _⟩ | ⟨x, l, c, m, n, V, D, Pl, hcs, _, hl, hm, hmm, _, hcell⟩
    · simp [Value.cells] at hcs
      obtain ⟨rfl, rfl, rfl⟩ := hcs
      exact ⟨fun _ => 0, fun h => by omega⟩
    · simp [Value.cells] at hcs
      obtain ⟨rfl, rfl, rfl⟩ := hcs
      simp only [if_true] at hmm
      subst hmm
      have each : ∀ i, i < len0 → ∃ q : Nat, W.cell? (x.add i) = some (.float .f64 q) := by
        intro i hi
        obtain ⟨c0, t0⟩ := hcell i (by omega)
        obtain ⟨z, e0⟩ := trod_float Yba.underlying38 t0
        simp at e0
        exact ⟨z, by rw [c0, e0]⟩
      obtain ⟨q, hq⟩ := Go.Deep.choose_lt each
      refine ⟨q, fun hpos => ?_⟩
      have hx := hq 0 hpos
      rw [show x.add 0 = x by simp [Addr.add]] at hx
      obtain ⟨ex, hb⟩ := spot_of_cell hx
      refine ⟨x.block, x.off, by rw [← ex], hb, fun i hi => ?_⟩
      have c0 := hq i hi
      rw [ex] at c0
      rw [Addr.add_lit] at c0
      exact c0
  obtain ⟨a1, rfl, rfl, rfl, w1⟩ := open_int Yba.underlying3 (hval 1 3 v1 rfl rfl) h1
  clear hA0 hval0
  refine (walk a0 len0 cap0 a1 X W w0).mono fun e W' ⟨he, bel⟩ => ?_
  subst he
  exact ⟨_, rfl, _, _, _, [], _, [], hW', trodAll_mk1 (shut_bool Yba.underlying4 _), (trodAll_cons_mk (Below.trod laidOut (by kernel_rfl) (of_decide_eq_true (by kernel_rfl)) k0 bel lt0) (trodAll_cons_mk (shut_int Yba.underlying3 w1) trodAll_mk0)), rfl, bel.frame _, fun h => by cases h⟩

theorem over : Rows.lawS5375CModelRow.holds Yba.pinned (OpenSpec.ofChange Rows.lawS5375CModelSpec) :=
  OpenClaim.holds_of_wide 4 Yba.f4 rfl rfl rfl rfl rfl rfl rfl ⟨rfl, rfl, rfl, rfl, rfl⟩ rfl rfl rfl rfl rfl (by kernel_rfl) Yba.func4 (by kernel_rfl)
    (of_decide_eq_true (by kernel_rfl)) (by unfold Func.isWrapper; first | (rw [if_pos (by decide +kernel)]; kernel_rfl) | (rw [if_neg (by decide +kernel)]; exact ⟨rfl, rfl⟩))
    (fun os started H enc _ => lifted os started H enc)

end Model
/-- THE STATEMENT -/
theorem model_proved : Rows.LawS5375CModelSaid := Model.over
end Go.Proofs.Ybulkdghg
