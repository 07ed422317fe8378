import Derived.Test.YbulkdghgForgetB
import Derived.Test.YbulkdghgForgetC
import Derived.ProofKit
import Derived.OpenShut
import Derived.ShutString
import Derived.ChangeOld
import Derived.Below
import Derived.Deep.SlicePairs
namespace Go.Proofs.Ybulkdghg
open Go.ChangeShapes Go.WideShapes Go.ChangeAt Go.RowKit
open Go.ChangeMaps (open_string shut_string)
namespace forgetLaw

theorem own : ownKnob Yba.prog.godebug = none := by kernel_rfl
theorem laidOut : laidOutB Yba.prog = true := by kernel_rfl
theorem cells25 : Yba.prog.cellsOf 25 = 2 := by kernel_rfl
theorem cells23 : Yba.prog.cellsOf 23 = 1 := by kernel_rfl
theorem cells9 : Yba.prog.cellsOf 9 = 1 := by kernel_rfl

/-- What the walk is told of the slice of contacts. -/
def IsC (w : World) (a : Option Addr) (len : Nat) (P : Nat → Int) (C : Nat → ByteArray) : Prop :=
  0 < len → ∃ b off, a = some ⟨b, off, none⟩ ∧ b < w.heap.size ∧ ∀ i, i < len → w.cell? ⟨b, off + i * 2, none⟩ = some (.int .u16 (P i)) ∧ w.cell? ⟨b, off + i * 2 + 1, none⟩ = some (.string (C i))

theorem walk (a : Option Addr) (len cap : Nat) (sel raw : Int) (w : World) (P : Nat → Int) (C : Nat → ByteArray) (hs : 0 ≤ sel ∧ sel ≤ 65535) (hc : IsC w a len P C) :
    Calls Yba.prog 3 #[.slice a len cap, .int .u16 sel, .int .u16 raw] w fun e w' => e = .returned (.bool true) ∧ Below w.heap.size w w' := by
  rcases Nat.lt_or_ge 1024 len with h1 | h1
  · exact walkBig a len cap sel raw w h1
  rcases Nat.eq_zero_or_pos len with h0 | h0
  · subst h0
    exact walk0 a cap sel raw w
  · obtain ⟨b, off, rfl, hb, hcc⟩ := hc h0
    exact walk1 b off len cap sel raw w h1 h0 hs.1 (by omega) P C hb hcc

theorem spot_of_cell {w : World} {x : Addr} {v : Value} (h : w.cell? x = some v) : x = ⟨x.block, x.off, none⟩ ∧ x.block < w.heap.size := by
  obtain ⟨b, off, sp⟩ := x
  simp only [World.cell?] at h
  split at h
  · rename_i hb
    cases sp with
    | none => exact ⟨rfl, (Array.getElem?_eq_some_iff.1 hb).1⟩
    | some _ => simp at h
  · cases h

set_option maxRecDepth 100000 in
theorem lifted (os : Os) (started : os.Started) (H : Type) (enc : TypeId × Value → H) :
    ReturnsInHanded {} Yba.checked os 3 .any (Rows.lawS5375BForgetSpec.pre6 enc Yba.prog Yba.f3 Rows.lawS5375BForgetRow.domain false) (Rows.lawS5375BForgetSpec.post enc Yba.prog Yba.f3 false true false false) := by
  refine returnsInHanded_of_change (C := Yba.checked) own started (by kernel_rfl) Yba.func3
    (ChangeSpec.witness6 (enc := enc) (C := Yba.checked) false ⟨#[], #[.slice none 0 0, .int .u16 0, .int .u16 0], []⟩ 8 (by kernel_rfl) (by kernel_rfl) (by kernel_rfl) (by kernel_rfl)) ?_
  intro W base args ds gs before hval0 hW hcnd _
  have hval : ∀ (j : Nat) t v, Yba.f3.params[j]? = some t → args[j]? = some v → Value.okWide Yba.prog W .any base t v := hval0
  have hW' := hW
  obtain ⟨p, q, hA0, hV, rfl, hfz, hnd⟩ := hW
  have hA : DataW.TrodAll enc Yba.prog W 0 (fun _ => true) true Yba.f3.params.toList args.toList ds p := hA0
  rw [Yba.params3] at hA hval
  obtain ⟨v0, vs0, d0, ds0, p0, q0, hargs, rfl, rfl, h0, r0⟩ := trodAll_cons hA
  obtain ⟨v1, vs1, d1, ds1, p1, q1, rfl, rfl, rfl, h1, r1⟩ := trodAll_cons r0
  obtain ⟨v2, vs2, d2, ds2, p2, q2, rfl, rfl, rfl, h2, r2⟩ := trodAll_cons r1
  obtain ⟨rfl, rfl, rfl⟩ := trodAll_nil r2
  obtain rfl : args = #[v0, v1, v2] := by cases args; simp_all
  obtain ⟨rfl, rfl⟩ := trodVars_none hV
  obtain ⟨a0, len0, cap0, rfl⟩ := okWide_slice Yba.underlying22 (hval 0 22 v0 rfl rfl)
  have k0 := h0
  have lt0 : ∀ x ∈ p0, x.block < W.heap.size := by obtain ⟨m, hm⟩ := k0; exact DataW.trod_lt m _ _ _ hm
  obtain ⟨P, C, w0⟩ : ∃ P C, IsC W a0 len0 P C := by
    obtain ⟨fuel, hf⟩ := h0
    rcases Go.Deep.open_slice_pairs Yba.underlying22 Yba.underlying25 cells25 rfl rfl cells23 cells9 hf with ⟨hcs, _⟩ | ⟨x, l, c, m, n, V0, V1, D0, D1, P0, P1, hcs, _, hl, hm, hmm, _, hcell⟩
    · simp [Value.cells] at hcs
      obtain ⟨rfl, rfl, rfl⟩ := hcs
      exact ⟨fun _ => 0, fun _ => ⟨#[]⟩, fun h => by omega⟩
    · simp [Value.cells] at hcs
      obtain ⟨rfl, rfl, rfl⟩ := hcs
      simp only [if_true] at hmm
      subst hmm
      have each : ∀ i, i < len0 → ∃ q : Int × ByteArray, W.cell? (x.add (i * 2)) = some (.int .u16 q.1) ∧ W.cell? (x.add (i * 2 + 1)) = some (.string q.2) := by
        intro i hi
        obtain ⟨c0, c1, t0, t1⟩ := hcell i (by omega)
        obtain ⟨z, e0, _, _⟩ := DataW.trod_int Yba.underlying23 t0
        obtain ⟨s, e1, _, _⟩ := DataW.trod_string Yba.underlying9 t1
        simp at e0 e1
        exact ⟨(z, s), by rw [c0, e0], by rw [c1, e1]⟩
      obtain ⟨q, hq⟩ := Go.Deep.choose_lt each
      refine ⟨fun i => (q i).1, fun i => (q i).2, fun hpos => ?_⟩
      have hx := (hq 0 hpos).1
      rw [show x.add (0 * 2) = x by simp [Addr.add]] at hx
      obtain ⟨ex, hb⟩ := spot_of_cell hx
      refine ⟨x.block, x.off, by rw [← ex], hb, fun i hi => ?_⟩
      obtain ⟨c0, c1⟩ := hq i hi
      rw [ex] at c0 c1
      rw [Addr.add_lit] at c0 c1
      exact ⟨c0, by rw [Nat.add_assoc]; exact c1⟩
  obtain ⟨a1, rfl, rfl, rfl, w1⟩ := open_int Yba.underlying23 (hval 1 23 v1 rfl rfl) h1
  obtain ⟨a2, rfl, rfl, rfl, w2⟩ := open_int Yba.underlying23 (hval 2 23 v2 rfl rfl) h2
  clear hA0 hval0
  refine (walk a0 len0 cap0 a1 a2 W P C (bounds_u16 w1) w0).mono fun e W' ⟨he, bel⟩ => ?_
  subst he
  exact ⟨_, rfl, _, _, _, [], _, [], hW', trodAll_mk1 (shut_bool Yba.underlying4 _), (trodAll_cons_mk (Below.trod laidOut (by kernel_rfl) (of_decide_eq_true (by kernel_rfl)) k0 bel lt0) (trodAll_cons_mk (shut_int Yba.underlying23 w1) (trodAll_cons_mk (shut_int Yba.underlying23 w2) trodAll_mk0))), rfl, bel.frame _, fun h => by cases h⟩

theorem over : Rows.lawS5375BForgetRow.holds Yba.pinned (OpenSpec.ofChange Rows.lawS5375BForgetSpec) :=
  OpenClaim.holds_of_wide 3 Yba.f3 rfl rfl rfl rfl rfl rfl rfl ⟨rfl, rfl, rfl, rfl, rfl⟩ rfl rfl rfl rfl rfl (by kernel_rfl) Yba.func3 (by kernel_rfl)
    (of_decide_eq_true (by kernel_rfl)) (by unfold Func.isWrapper; first | (rw [if_pos (by decide +kernel)]; kernel_rfl) | (rw [if_neg (by decide +kernel)]; exact ⟨rfl, rfl⟩))
    (fun os started H enc _ => lifted os started H enc)

end forgetLaw
/-- THE STATEMENT -/
theorem forget_proved : Rows.LawS5375BForgetSaid := forgetLaw.over
end Go.Proofs.Ybulkdghg
