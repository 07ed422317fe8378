import Derived.Test.YbulkdgjyOneB
import Derived.ProofKit
import Derived.OpenShut
import Derived.ShutString
import Derived.ChangeOld
import Derived.Below
import Derived.Deep.Matrix
namespace Go.Proofs.Ybulkdgjy
open Go.ChangeShapes Go.WideShapes Go.ChangeAt Go.RowKit
open Go.ChangeMaps (open_string shut_string)
namespace oneLaw

theorem own : ownKnob Yba.prog.godebug = none := by kernel_rfl
theorem laidOut : laidOutB Yba.prog = true := by kernel_rfl
theorem cells30 : Yba.prog.cellsOf 30 = 1 := by kernel_rfl
theorem cells31 : Yba.prog.cellsOf 31 = 1 := by kernel_rfl

theorem wf_u8 {z : Int} (h : (Lit.int .u8 z).wf = true) : 0 ≤ z ∧ z ≤ 255 := by
  have e1 : IntKind.u8.min = 0 := rfl
  have e2 : IntKind.u8.max = 255 := rfl
  simp [Lit.wf, e1, e2] at h; omega
theorem wf_u16 {z : Int} (h : (Lit.int .u16 z).wf = true) : 0 ≤ z ∧ z ≤ 65535 := by
  have e1 : IntKind.u16.min = 0 := rfl
  have e2 : IntKind.u16.max = 65535 := rfl
  simp [Lit.wf, e1, e2] at h; omega
theorem wf_u64 {z : Int} (h : (Lit.int .u64 z).wf = true) : 0 ≤ z ∧ z < 18446744073709551616 := by
  have e1 : IntKind.u64.min = 0 := rfl
  have e2 : IntKind.u64.max = 18446744073709551615 := rfl
  simp [Lit.wf, e1, e2] at h; omega

theorem walk (lg li : Int) (a : Option Addr) (len cap : Nat) (A : Nat → Option Addr) (L C : Nat → Nat) (Z : Nat → Nat → Nat) (w : World) (h1 : 0 ≤ lg ∧ lg ≤ 255) (h2 : 0 ≤ li ∧ li ≤ 65535) (hz : Init w a len A L C Z) :
    Calls Yba.prog 4 #[.slice a len cap, .int .u8 lg, .int .u16 li] w fun e w' => e = .returned (.bool true) ∧ Below w.heap.size w w' := by
  rcases Nat.lt_or_ge 256 len with h | h
  · exact one_big lg li a len cap w h
  · exact one lg li a len cap A L C Z w h1.1 h1.2 h2.1 h2.2 h hz

theorem spot_of_cell {w : World} {x : Addr} {v : Value} (h : w.cell? x = some v) : x = ⟨x.block, x.off, none⟩ ∧ x.block < w.heap.size := by
  obtain ⟨b, off, sp⟩ := x
  simp only [World.cell?] at h
  split at h
  · rename_i hb
    cases sp with
    | none => exact ⟨rfl, (Array.getElem?_eq_some_iff.1 hb).1⟩
    | some _ => simp at h
  · cases h

theorem add_zero (x : Addr) : x.add 0 = x := by simp [Addr.add]

set_option maxRecDepth 100000 in
theorem lifted (os : Os) (started : os.Started) (H : Type) (enc : TypeId × Value → H) :
    ReturnsInHanded {} Yba.checked os 4 .any (Rows.lawS5380BOneSpec.pre6 enc Yba.prog Yba.f4 Rows.lawS5380BOneRow.domain false) (Rows.lawS5380BOneSpec.post enc Yba.prog Yba.f4 false true false false) := by
  refine returnsInHanded_of_change (C := Yba.checked) own started (by kernel_rfl) Yba.func4
    (ChangeSpec.witness6 (enc := enc) (C := Yba.checked) false ⟨#[], #[.slice none 0 0, .int .u8 0, .int .u16 0], []⟩ 8 (by kernel_rfl) (by kernel_rfl) (by kernel_rfl) (by kernel_rfl)) ?_
  intro W base args ds gs before hval0 hW hcnd _
  have hval : ∀ (j : Nat) t v, Yba.f4.params[j]? = some t → args[j]? = some v → Value.okWide Yba.prog W .any base t v := hval0
  have hW' := hW
  obtain ⟨p, q, hA0, hV, rfl, hfz, hnd⟩ := hW
  have hA : DataW.TrodAll enc Yba.prog W 0 (fun _ => true) true Yba.f4.params.toList args.toList ds p := hA0
  rw [Yba.params4] at hA hval
  obtain ⟨v0, vs0, d0, ds0, p0, q0, hargs, rfl, rfl, h0, r0⟩ := trodAll_cons hA
  obtain ⟨v1, vs1, d1, ds1, p1, q1, rfl, rfl, rfl, h1, r1⟩ := trodAll_cons r0
  obtain ⟨v2, vs2, d2, ds2, p2, q2, rfl, rfl, rfl, h2, r2⟩ := trodAll_cons r1
  obtain ⟨rfl, rfl, rfl⟩ := trodAll_nil r2
  obtain rfl : args = #[v0, v1, v2] := by cases args; simp_all
  obtain ⟨rfl, rfl⟩ := trodVars_none hV
  obtain ⟨a0, len0, cap0, rfl⟩ := okWide_slice Yba.underlying23 (hval 0 23 v0 rfl rfl)
  have k0 := h0
  have lt0 : ∀ x ∈ p0, x.block < W.heap.size := by obtain ⟨m, hm⟩ := k0; exact DataW.trod_lt m _ _ _ hm
  obtain ⟨A, L, C, Z, w0⟩ : ∃ A L C Z, Init W a0 len0 A L C Z := by
    obtain ⟨fuel, hf⟩ := h0
    rcases Go.Deep.open_int_rows Yba.underlying23 Yba.underlying30 Yba.underlying31 cells30 cells31 hf with ⟨hcs, _⟩ | ⟨x, l, c, A, L, C, Zs, hcs, _, hl, hm, _, hcell⟩
    · simp [Value.cells] at hcs
      obtain ⟨rfl, rfl, rfl⟩ := hcs
      exact ⟨fun _ => none, fun _ => 0, fun _ => 0, fun _ _ => 0, ⟨fun h => by omega, fun i h => by omega, fun i h => by omega⟩⟩
    · simp [Value.cells] at hcs
      obtain ⟨rfl, rfl, rfl⟩ := hcs
      refine ⟨A, L, C, fun r j => ((Zs r).getD j 0).toNat, ⟨fun hpos => ?_, fun i hi hpos => ?_, fun i hi hn => ?_⟩⟩
      · have hx := (hcell 0 (by omega)).1
        rw [add_zero] at hx
        obtain ⟨ex, hb⟩ := spot_of_cell hx
        refine ⟨x.block, x.off, by rw [← ex], hb, fun i hi => ?_⟩
        have := (hcell i (by omega)).1
        rw [ex, Addr.add_lit] at this
        exact this
      · obtain ⟨_, hLC, _, hZl, hwf, hnone, hsome⟩ := hcell i (by omega)
        cases hAi : A i with
        | none => have := hnone hAi; omega
        | some y =>
          have hc := (hsome y hAi).2
          have hy := hc 0 (by omega)
          rw [add_zero] at hy
          obtain ⟨ey, hb⟩ := spot_of_cell hy
          refine ⟨y.block, y.off, by rw [← ey], hb, fun j hj => ?_⟩
          have hcj := hc j (by omega)
          rw [ey, Addr.add_lit] at hcj
          have hmem : (Zs i).getD j 0 ∈ Zs i := by
            rw [List.getD_eq_getElem?_getD, List.getElem?_eq_getElem (by omega)]
            exact List.getElem_mem _
          have hb64 := wf_u64 (hwf _ hmem)
          refine ⟨?_, by omega⟩
          show W.cell? _ = some (.int .u64 ((((Zs i).getD j 0).toNat : Nat) : Int))
          rw [Int.toNat_of_nonneg hb64.1]
          exact hcj
      · obtain ⟨_, hLC, _, _, _, hnone, _⟩ := hcell i (by omega)
        have := hnone hn
        omega
  obtain ⟨a1, rfl, rfl, rfl, w1⟩ := open_int Yba.underlying5 (hval 1 5 v1 rfl rfl) h1
  obtain ⟨a2, rfl, rfl, rfl, w2⟩ := open_int Yba.underlying26 (hval 2 26 v2 rfl rfl) h2
  clear hA0 hval0
  refine (walk a1 a2 a0 len0 cap0 A L C Z W (wf_u8 w1) (wf_u16 w2) w0).mono fun e W' ⟨he, bel⟩ => ?_
  subst he
  exact ⟨_, rfl, _, _, _, [], _, [], hW', trodAll_mk1 (shut_bool Yba.underlying4 _), (trodAll_cons_mk (Below.trod laidOut (by kernel_rfl) (of_decide_eq_true (by kernel_rfl)) k0 bel lt0) (trodAll_cons_mk (shut_int Yba.underlying5 w1) (trodAll_cons_mk (shut_int Yba.underlying26 w2) trodAll_mk0))), rfl, bel.frame _, fun h => by cases h⟩

theorem over : Rows.lawS5380BOneRow.holds Yba.pinned (OpenSpec.ofChange Rows.lawS5380BOneSpec) :=
  OpenClaim.holds_of_wide 4 Yba.f4 rfl rfl rfl rfl rfl rfl rfl ⟨rfl, rfl, rfl, rfl, rfl⟩ rfl rfl rfl rfl rfl (by kernel_rfl) Yba.func4 (by kernel_rfl)
    (of_decide_eq_true (by kernel_rfl)) (by unfold Func.isWrapper; first | (rw [if_pos (by decide +kernel)]; kernel_rfl) | (rw [if_neg (by decide +kernel)]; exact ⟨rfl, rfl⟩))
    (fun os started H enc _ => lifted os started H enc)

end oneLaw
/-- THE STATEMENT -/
theorem one_proved : Rows.LawS5380BOneSaid := oneLaw.over
end Go.Proofs.Ybulkdgjy
