import Derived.Test.YbulkdgjyScriptA
import Derived.ProofKit
import Derived.OpenShut
import Derived.ShutString
import Derived.ChangeOld
import Derived.Below
import Derived.Deep.SlicePairs
namespace Go.Proofs.Ybulkdgjy
open Go.ChangeShapes Go.WideShapes Go.ChangeAt Go.RowKit
open Go.ChangeMaps (open_string shut_string)
namespace scriptLaw

theorem own : ownKnob Yba.prog.godebug = none := by kernel_rfl
theorem laidOut : laidOutB Yba.prog = true := by kernel_rfl
theorem cells28 : Yba.prog.cellsOf 28 = 2 := by kernel_rfl
theorem cells5 : Yba.prog.cellsOf 5 = 1 := by kernel_rfl
theorem cells26 : Yba.prog.cellsOf 26 = 1 := by kernel_rfl

theorem wf_u8 {z : Int} (h : (Lit.int .u8 z).wf = true) : 0 ≤ z ∧ z ≤ 255 := by
  have e1 : IntKind.u8.min = 0 := rfl
  have e2 : IntKind.u8.max = 255 := rfl
  simp [Lit.wf, e1, e2] at h; omega
theorem wf_u16 {z : Int} (h : (Lit.int .u16 z).wf = true) : 0 ≤ z ∧ z ≤ 65535 := by
  have e1 : IntKind.u16.min = 0 := rfl
  have e2 : IntKind.u16.max = 65535 := rfl
  simp [Lit.wf, e1, e2] at h; omega

theorem walk (nl : Int) (a : Option Addr) (len cap : Nat) (w : World) (P Q : Nat → Nat) (hs : 0 ≤ nl ∧ nl ≤ 255) (hc : IsOps w a len P Q) :
    Calls Yba.prog 3 #[.int .u8 nl, .slice a len cap] w fun e w' => e = .returned (.bool true) ∧ Below w.heap.size w w' := by
  rcases Nat.lt_or_ge 1024 len with h1 | h1
  · exact script_big nl a len cap w h1
  · exact script nl a len cap P Q w hs.1 hs.2 h1 hc

theorem spot_of_cell {w : World} {x : Addr} {v : Value} (h : w.cell? x = some v) : x = ⟨x.block, x.off, none⟩ ∧ x.block < w.heap.size := by
  obtain ⟨b, off, sp⟩ := x
  simp only [World.cell?] at h
  split at h
  · rename_i hb
    cases sp with
    | none => exact ⟨rfl, (Array.getElem?_eq_some_iff.1 hb).1⟩
    | some _ => simp at h
  · cases h

set_option maxRecDepth 100000 in
theorem lifted (os : Os) (started : os.Started) (H : Type) (enc : TypeId × Value → H) :
    ReturnsInHanded {} Yba.checked os 3 .any (Rows.lawS5380BScriptSpec.pre6 enc Yba.prog Yba.f3 Rows.lawS5380BScriptRow.domain false) (Rows.lawS5380BScriptSpec.post enc Yba.prog Yba.f3 false true false false) := by
  refine returnsInHanded_of_change (C := Yba.checked) own started (by kernel_rfl) Yba.func3
    (ChangeSpec.witness6 (enc := enc) (C := Yba.checked) false ⟨#[], #[.int .u8 0, .slice none 0 0], []⟩ 8 (by kernel_rfl) (by kernel_rfl) (by kernel_rfl) (by kernel_rfl)) ?_
  intro W base args ds gs before hval0 hW hcnd _
  have hval : ∀ (j : Nat) t v, Yba.f3.params[j]? = some t → args[j]? = some v → Value.okWide Yba.prog W .any base t v := hval0
  have hW' := hW
  obtain ⟨p, q, hA0, hV, rfl, hfz, hnd⟩ := hW
  have hA : DataW.TrodAll enc Yba.prog W 0 (fun _ => true) true Yba.f3.params.toList args.toList ds p := hA0
  rw [Yba.params3] at hA hval
  obtain ⟨v0, vs0, d0, ds0, p0, q0, hargs, rfl, rfl, h0, r0⟩ := trodAll_cons hA
  obtain ⟨v1, vs1, d1, ds1, p1, q1, rfl, rfl, rfl, h1, r1⟩ := trodAll_cons r0
  obtain ⟨rfl, rfl, rfl⟩ := trodAll_nil r1
  obtain rfl : args = #[v0, v1] := by cases args; simp_all
  obtain ⟨rfl, rfl⟩ := trodVars_none hV
  obtain ⟨a0, rfl, rfl, rfl, w0⟩ := open_int Yba.underlying5 (hval 0 5 v0 rfl rfl) h0
  obtain ⟨a1, len1, cap1, rfl⟩ := okWide_slice Yba.underlying22 (hval 1 22 v1 rfl rfl)
  have k1 := h1
  have lt1 : ∀ x ∈ p1, x.block < W.heap.size := by obtain ⟨m, hm⟩ := k1; exact DataW.trod_lt m _ _ _ hm
  obtain ⟨P, Q, w1⟩ : ∃ P Q, IsOps W a1 len1 P Q := by
    obtain ⟨fuel, hf⟩ := h1
    rcases Go.Deep.open_slice_pairs Yba.underlying22 Yba.underlying28 cells28 rfl rfl cells5 cells26 hf with ⟨hcs, _⟩ | ⟨x, l, c, m, n, V0, V1, D0, D1, P0, P1, hcs, _, hl, hm, hmm, _, hcell⟩
    · simp [Value.cells] at hcs
      obtain ⟨rfl, rfl, rfl⟩ := hcs
      exact ⟨fun _ => 0, fun _ => 0, fun h => by omega⟩
    · simp [Value.cells] at hcs
      obtain ⟨rfl, rfl, rfl⟩ := hcs
      simp only [if_true] at hmm
      subst hmm
      have each : ∀ i, i < len1 → ∃ q : Nat × Nat, W.cell? (x.add (i * 2)) = some (.int .u8 (q.1 : Int)) ∧ W.cell? (x.add (i * 2 + 1)) = some (.int .u16 (q.2 : Int)) ∧ q.1 ≤ 255 ∧ q.2 ≤ 65535 := by
        intro i hi
        obtain ⟨c0, c1, t0, t1⟩ := hcell i (by omega)
        obtain ⟨z, e0, _, b0⟩ := DataW.trod_int Yba.underlying5 t0
        obtain ⟨s, e1, _, b1⟩ := DataW.trod_int Yba.underlying26 t1
        simp at e0 e1
        have b0' := wf_u8 b0
        have b1' := wf_u16 b1
        exact ⟨(z.toNat, s.toNat), by rw [c0, e0, Int.toNat_of_nonneg b0'.1], by rw [c1, e1, Int.toNat_of_nonneg b1'.1], by simp; omega, by simp; omega⟩
      obtain ⟨q, hq⟩ := Go.Deep.choose_lt each
      refine ⟨fun i => (q i).1, fun i => (q i).2, fun hpos => ?_⟩
      have hx := (hq 0 hpos).1
      rw [show x.add (0 * 2) = x by simp [Addr.add]] at hx
      obtain ⟨ex, hb⟩ := spot_of_cell hx
      refine ⟨x.block, x.off, by rw [← ex], hb, fun i hi => ?_⟩
      obtain ⟨c0, c1, c2, c3⟩ := hq i hi
      rw [ex] at c0 c1
      rw [Addr.add_lit] at c0 c1
      exact ⟨c0, by rw [Nat.add_assoc]; exact c1, c2, c3⟩
  clear hA0 hval0
  refine (walk a0 a1 len1 cap1 W P Q (wf_u8 w0) w1).mono fun e W' ⟨he, bel⟩ => ?_
  subst he
  exact ⟨_, rfl, _, _, _, [], _, [], hW', trodAll_mk1 (shut_bool Yba.underlying4 _), (trodAll_cons_mk (shut_int Yba.underlying5 w0) (trodAll_cons_mk (Below.trod laidOut (by kernel_rfl) (of_decide_eq_true (by kernel_rfl)) k1 bel lt1) trodAll_mk0)), rfl, bel.frame _, fun h => by cases h⟩

theorem over : Rows.lawS5380BScriptRow.holds Yba.pinned (OpenSpec.ofChange Rows.lawS5380BScriptSpec) :=
  OpenClaim.holds_of_wide 3 Yba.f3 rfl rfl rfl rfl rfl rfl rfl ⟨rfl, rfl, rfl, rfl, rfl⟩ rfl rfl rfl rfl rfl (by kernel_rfl) Yba.func3 (by kernel_rfl)
    (of_decide_eq_true (by kernel_rfl)) (by unfold Func.isWrapper; first | (rw [if_pos (by decide +kernel)]; kernel_rfl) | (rw [if_neg (by decide +kernel)]; exact ⟨rfl, rfl⟩))
    (fun os started H enc _ => lifted os started H enc)

end scriptLaw
/-- THE STATEMENT -/
theorem script_proved : Rows.LawS5380BScriptSaid := scriptLaw.over
end Go.Proofs.Ybulkdgjy
