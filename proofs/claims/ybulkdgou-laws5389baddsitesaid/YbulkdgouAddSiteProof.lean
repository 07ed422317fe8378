/- The seat's shell of LawS5389BAddSite, filled. -/
import Derived.Test.YbulkdgouLaw
import Derived.Test.YbulkdgouTrivial
import Derived.WalkKit
import Derived.ProofKit
import Derived.OpenShut
import Derived.ShutString
import Derived.ChangeOld
import Derived.Below
namespace Go.Proofs.Ybulkdgou.lawS5389BAddSite
open Go.ChangeShapes Go.WideShapes Go.ChangeAt Go.RowKit
open Go.ChangeMaps (open_string shut_string)
set_option linter.unusedVariables false

theorem own : ownKnob Yba.prog.godebug = none := by kernel_rfl
theorem laidOut : laidOutB Yba.prog = true := by kernel_rfl

/-- WHAT THE WALK IS TOLD OF A SLICE OF INTEGERS THAT CAME IN: it is nil; or it leads to a row of 'cap' cells, the numbers 'zs' (the first 'len' are its elements, the rest its spare room), each fitting its kind. -/
def IsRow (k : IntKind) (w : World) (a : Option Addr) (len cap : Nat) (zs : List Int) : Prop :=
  (a = none ∧ len = 0 ∧ cap = 0 ∧ zs = []) ∨
  ∃ x, a = some x ∧ len ≤ cap ∧ cap ≤ maxLen ∧ zs.length = cap ∧ (∀ i, i < zs.length → w.cell? (x.add i) = some (.int k (zs.getD i 0))) ∧ ∀ n ∈ zs, (Lit.int k n).wf = true

theorem spot_of_cell {w : World} {x : Addr} {v : Value} (h : w.cell? x = some v) : x = ⟨x.block, x.off, none⟩ ∧ x.block < w.heap.size := by
  obtain ⟨b, off, sp⟩ := x
  simp only [World.cell?] at h
  split at h
  · rename_i hb
    cases sp with
    | none => exact ⟨rfl, (Array.getElem?_eq_some_iff.1 hb).1⟩
    | some _ => simp at h
  · cases h
theorem wf_u8 {z : Int} (h : (Lit.int .u8 z).wf = true) : 0 ≤ z ∧ z ≤ 255 := by
  have e1 : IntKind.u8.min = 0 := rfl
  have e2 : IntKind.u8.max = 255 := rfl
  simp [Lit.wf, e1, e2] at h; omega

/-! ### STEP 1: THE WALK: the Go text returns true, AND WRITES NOTHING THAT WAS THERE: 'Below w.heap.size w w'' (Derived/Below.lean: '.refl', '.alloc', '.drew', '.setCell' at a new block, '.trans'). Open each 'IsRow' by 'rcases' AHEAD of 'go_enter'; part every test ahead of the walk. -/
theorem walk (a0 : Option Addr) (len0 cap0 : Nat) (z0 : List Int) (a1 : Option Addr) (len1 cap1 : Nat) (z1 : List Int) (a2 : Int) (a3 : Int) (w : World) (w0 : IsRow .u8 w a0 len0 cap0 z0) (w1 : IsRow .u8 w a1 len1 cap1 z1) (w2 : (Lit.int .u8 a2).wf = true) (w3 : (Lit.int .u8 a3).wf = true) :
    Calls Yba.prog 5 #[.slice a0 len0 cap0, .slice a1 len1 cap1, .int .u8 a2, .int .u8 a3] w fun e w' => e = .returned (.bool true) ∧ Below w.heap.size w w' := by
  have k2 := wf_u8 w2
  have k3 := wf_u8 w3
  by_cases ht : len0 = 0 ∨ 256 < len0 ∨ 1024 < len1
  · exact SortA.law_trivial a0 a1 len0 cap0 len1 cap1 a2 a3 w ht
  · rcases w0 with ⟨_, h, _⟩ | ⟨x, rfl, hlc, _, hlen, hcell, hwf⟩
    · exact absurd (.inl h) ht
    · obtain ⟨b, off, s⟩ := x
      have hc : ∀ i, i < len0 → w.cell? ((⟨b, off, s⟩ : Addr).add i) = some (.int .u8 (z0.getD i 0)) := fun i hi => hcell i (by omega)
      obtain ⟨ex, hb⟩ := spot_of_cell (hc 0 (by omega))
      obtain rfl : s = none := by injection ex
      have nat2 : a2 = ((a2.toNat : Nat) : Int) := by omega
      have nat3 : a3 = ((a3.toNat : Nat) : Int) := by omega
      rw [nat2, nat3]
      have hz0 : ∀ i, i < len0 → 0 ≤ z0.getD i 0 ∧ z0.getD i 0 ≤ 255 := fun i hi => by
        have hi' : i < z0.length := by omega
        have e : z0.getD i 0 = z0[i] := by simp [List.getD, List.getElem?_eq_getElem hi']
        rw [e]
        exact wf_u8 (hwf _ (List.getElem_mem hi'))
      refine SortA.law_any len0 len1 cap0 cap1 b off a2.toNat a3.toNat a1 (fun i => (z0.getD i 0).toNat) (fun i => (z1.getD i 0).toNat) w (by omega) (by omega) (by omega) (by omega) (by omega) hb (fun i hi => ?_) (fun hpos => ?_)
      · have h1 := hc i hi
        have h2 := hz0 i hi
        rw [Addr.add_lit] at h1
        have e : (((z0.getD i 0).toNat : Nat) : Int) = z0.getD i 0 := by omega
        exact ⟨by rw [e]; exact h1, by omega⟩
      · rcases w1 with ⟨_, h, _⟩ | ⟨x1, rfl, hlc1, _, hlen1, hcell1, hwf1⟩
        · omega
        · obtain ⟨b1, off1, s1⟩ := x1
          have hc1 : ∀ i, i < len1 → w.cell? ((⟨b1, off1, s1⟩ : Addr).add i) = some (.int .u8 (z1.getD i 0)) := fun i hi => hcell1 i (by omega)
          obtain ⟨ex1, hb1⟩ := spot_of_cell (hc1 0 hpos)
          obtain rfl : s1 = none := by injection ex1
          refine ⟨b1, off1, rfl, hb1, fun i hi => ?_⟩
          have hi' : i < z1.length := by omega
          have e0 : z1.getD i 0 = z1[i] := by simp [List.getD, List.getElem?_eq_getElem hi']
          have h2 := wf_u8 (hwf1 _ (List.getElem_mem hi'))
          rw [← e0] at h2
          have h1 := hc1 i hi
          rw [Addr.add_lit] at h1
          have e : (((z1.getD i 0).toNat : Nat) : Int) = z1.getD i 0 := by omega
          exact ⟨by rw [e]; exact h1, by omega⟩

/-! ### THE ROW's STEP: WRITTEN OUT: LEAVE IT -/
set_option maxRecDepth 100000 in
theorem lifted (os : Os) (started : os.Started) (H : Type) (enc : TypeId × Value → H) :
    ReturnsInHanded {} Yba.checked os 5 .any (Rows.lawS5389BAddSiteSpec.pre6 enc Yba.prog Yba.f5 Rows.lawS5389BAddSiteRow.domain false) (Rows.lawS5389BAddSiteSpec.post enc Yba.prog Yba.f5 false true false false) := by
  refine returnsInHanded_of_change (C := Yba.checked) own started (by kernel_rfl) Yba.func5
    (ChangeSpec.witness6 (enc := enc) (C := Yba.checked) false ⟨#[], #[.slice none 0 0, .slice none 0 0, .int .u8 0, .int .u8 0], []⟩ 8 (by kernel_rfl) (by kernel_rfl) (by kernel_rfl) (by kernel_rfl)) ?_
  intro W base args ds gs before hval0 hW hcnd _
  have hval : ∀ (j : Nat) t v, Yba.f5.params[j]? = some t → args[j]? = some v → Value.okWide Yba.prog W .any base t v := hval0
  have hW' := hW
  obtain ⟨p, q, hA0, hV, rfl, hfz, hnd⟩ := hW
  have hA : DataW.TrodAll enc Yba.prog W 0 (fun _ => true) true Yba.f5.params.toList args.toList ds p := hA0
  rw [Yba.params5] at hA hval
  obtain ⟨v0, vs0, d0, ds0, p0, q0, hargs, rfl, rfl, h0, r0⟩ := trodAll_cons hA
  obtain ⟨v1, vs1, d1, ds1, p1, q1, rfl, rfl, rfl, h1, r1⟩ := trodAll_cons r0
  obtain ⟨v2, vs2, d2, ds2, p2, q2, rfl, rfl, rfl, h2, r2⟩ := trodAll_cons r1
  obtain ⟨v3, vs3, d3, ds3, p3, q3, rfl, rfl, rfl, h3, r3⟩ := trodAll_cons r2
  obtain ⟨rfl, rfl, rfl⟩ := trodAll_nil r3
  obtain rfl : args = #[v0, v1, v2, v3] := by cases args; simp_all
  obtain ⟨rfl, rfl⟩ := trodVars_none hV
  obtain ⟨a0, len0, cap0, rfl⟩ := okWide_slice Yba.underlying34 (hval 0 34 v0 rfl rfl)
  have k0 := h0
  have lt0 : ∀ x ∈ p0, x.block < W.heap.size := by obtain ⟨m, hm⟩ := k0; exact DataW.trod_lt m _ _ _ hm
  obtain ⟨z0, w0⟩ : ∃ zs, IsRow .u8 W a0 len0 cap0 zs := by
    obtain ⟨fuel, hf⟩ := h0
    rcases open_ints Yba.underlying34 Yba.underlying5 (by kernel_rfl) hf with ⟨hcs, _⟩ | ⟨x, l, c, zs, hcs, _, hl, hm, hz, _, hcell, hwz⟩
    · simp [Value.cells] at hcs
      obtain ⟨rfl, rfl, rfl⟩ := hcs
      exact ⟨[], .inl ⟨rfl, rfl, rfl, rfl⟩⟩
    · simp [Value.cells] at hcs
      obtain ⟨rfl, rfl, rfl⟩ := hcs
      exact ⟨zs, .inr ⟨_, rfl, hl, hm, by simpa using hz, hcell, hwz⟩⟩
  obtain ⟨a1, len1, cap1, rfl⟩ := okWide_slice Yba.underlying34 (hval 1 34 v1 rfl rfl)
  have k1 := h1
  have lt1 : ∀ x ∈ p1, x.block < W.heap.size := by obtain ⟨m, hm⟩ := k1; exact DataW.trod_lt m _ _ _ hm
  obtain ⟨z1, w1⟩ : ∃ zs, IsRow .u8 W a1 len1 cap1 zs := by
    obtain ⟨fuel, hf⟩ := h1
    rcases open_ints Yba.underlying34 Yba.underlying5 (by kernel_rfl) hf with ⟨hcs, _⟩ | ⟨x, l, c, zs, hcs, _, hl, hm, hz, _, hcell, hwz⟩
    · simp [Value.cells] at hcs
      obtain ⟨rfl, rfl, rfl⟩ := hcs
      exact ⟨[], .inl ⟨rfl, rfl, rfl, rfl⟩⟩
    · simp [Value.cells] at hcs
      obtain ⟨rfl, rfl, rfl⟩ := hcs
      exact ⟨zs, .inr ⟨_, rfl, hl, hm, by simpa using hz, hcell, hwz⟩⟩
  obtain ⟨a2, rfl, rfl, rfl, w2⟩ := open_int Yba.underlying5 (hval 2 5 v2 rfl rfl) h2
  obtain ⟨a3, rfl, rfl, rfl, w3⟩ := open_int Yba.underlying5 (hval 3 5 v3 rfl rfl) h3
  clear hA0 hval0
  refine (walk a0 len0 cap0 z0 a1 len1 cap1 z1 a2 a3 W w0 w1 w2 w3).mono fun e W' ⟨he, bel⟩ => ?_
  subst he
  exact ⟨_, rfl, _, _, _, [], _, [], hW', trodAll_mk1 (shut_bool Yba.underlying4 _), (trodAll_cons_mk (Below.trod laidOut (by kernel_rfl) (of_decide_eq_true (by kernel_rfl)) k0 bel lt0) (trodAll_cons_mk (Below.trod laidOut (by kernel_rfl) (of_decide_eq_true (by kernel_rfl)) k1 bel lt1) (trodAll_cons_mk (shut_int Yba.underlying5 w2) (trodAll_cons_mk (shut_int Yba.underlying5 w3) trodAll_mk0)))), rfl, bel.frame _, fun h => by cases h⟩

theorem over : Rows.lawS5389BAddSiteRow.holds Yba.pinned (OpenSpec.ofChange Rows.lawS5389BAddSiteSpec) :=
  OpenClaim.holds_of_wide 5 Yba.f5 rfl rfl rfl rfl rfl rfl rfl ⟨rfl, rfl, rfl, rfl, rfl⟩ rfl rfl rfl rfl rfl (by kernel_rfl) Yba.func5 (by kernel_rfl)
    (of_decide_eq_true (by kernel_rfl)) (by unfold Func.isWrapper; first | (rw [if_pos (by decide +kernel)]; kernel_rfl) | (rw [if_neg (by decide +kernel)]; exact ⟨rfl, rfl⟩))
    (fun os started H enc _ => lifted os started H enc)

/-- ████ THE STATEMENT ████ -/
theorem proved : Rows.LawS5389BAddSiteSaid := over
end Go.Proofs.Ybulkdgou.lawS5389BAddSite

namespace Go.Proofs.Ybulkdgou
theorem addSite_proved : Rows.LawS5389BAddSiteSaid := lawS5389BAddSite.proved
end Go.Proofs.Ybulkdgou
