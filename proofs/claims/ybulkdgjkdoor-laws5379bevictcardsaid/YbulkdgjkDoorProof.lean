import Derived.Test.YbulkdgjkDoorCards
import Derived.Test.YbulkdgjkDoorTie
import Derived.Test.YbulkdgjkDoorLaw
import Derived.ProofKit
import Derived.OpenShut
import Derived.ShutString
import Derived.ChangeOld
import Derived.Below
import Derived.Deep.Strs
import Derived.Deep.Slices
import Derived.LaidLaws
import Derived.Handed
import Derived.SevenTiedAt
namespace Go.Proofs.YbulkdgjkDoor
open Go.ChangeShapes Go.WideShapes Go.ChangeAt Go.RowKit
open Go.ChangeMaps (open_string shut_string)
attribute [local go_sem ↓] Go.wp_at_zero Go.wp_at_succ
namespace Evict

theorem own : ownKnob Ybad.prog.godebug = none := by kernel_rfl
theorem laidOut : laidOutB Ybad.prog = true := by kernel_rfl
theorem cells9 : Ybad.prog.cellsOf 9 = 1 := by kernel_rfl
theorem cells5 : Ybad.prog.cellsOf 5 = 1 := by kernel_rfl

theorem spot_of_cell {w : World} {x : Addr} {v : Value} (h : w.cell? x = some v) : x = ⟨x.block, x.off, none⟩ ∧ x.block < w.heap.size := by
  obtain ⟨b, off, sp⟩ := x
  simp only [World.cell?] at h
  split at h
  · rename_i hb
    cases sp with
    | none => exact ⟨rfl, (Array.getElem?_eq_some_iff.1 hb).1⟩
    | some _ => simp at h
  · cases h

/-- The listed table's cells. -/
theorem tab_of_laid {W : World} (h : laidMet Ybad.prog Rows.lawS5379BEvictRow.laid W) : Tab W := by
  obtain ⟨ps, ⟨g, t, cs, fuel, p, q, hg, ht, hv, hd, _, _⟩, _, _⟩ := h
  have hg0 : Ybad.prog.globalNamed "math/bits.deBruijn64tab" = some 0 := by kernel_rfl
  obtain rfl := Option.some.inj (hg0.symm.trans hg)
  obtain rfl := Option.some.inj ((show (Ybad.prog.globals[0]?).map (·.type) = some 181 by kernel_rfl).symm.trans ht)
  obtain ⟨xs, m, _, ex, _, hl, hel⟩ := DataW.trod_array Ybad.underlying181 hd
  have e3 : (tab.map fun (t : Nat) => (DataW.lit (Lit.int .u8 (t : Int)) : DataW Unit)) = xs.map (·.1) := DataW.agg.inj (Prod.mk.inj ex).1
  intro i hi
  rw [World.var?_cell hg0 hv i]
  have k := hel i hi
  rw [cells5, Nat.mul_one] at k
  have hxl : i < xs.length := by omega
  rw [List.getElem?_eq_getElem hxl] at k
  obtain ⟨z, hz, hx, _⟩ := DataW.trod_int Ybad.underlying5 k
  have hc : cs[i]? = some (.int .u8 z) := by
    have h1 : (cs.toList.drop i)[0]? = some (.int .u8 z) := by
      have : ((cs.toList.drop i).take 1)[0]? = some (.int .u8 z) := by rw [hz]; rfl
      rw [List.getElem?_take_of_lt (by omega)] at this
      exact this
    rw [List.getElem?_drop] at h1
    simpa using h1
  rw [hc]
  have e4 := congrArg (fun l => l[i]?) e3
  simp only [List.getElem?_map] at e4
  rw [List.getElem?_eq_getElem hxl, hx, List.getElem?_eq_getElem (by show i < tab.length; exact hi)] at e4
  simp only [Option.map_some, Option.some.injEq] at e4
  injection e4 with e5
  injection e5 with _ e6
  rw [← e6, List.getD_eq_getElem?_getD, List.getElem?_eq_getElem (by show i < tab.length; exact hi)]
  rfl

/-- The settled world, but the table holds its datum. -/
noncomputable def tabWorld (os : Os) : World :=
  let w0 := World.holding Ybad.prog os ⟨#[], #[], []⟩
  { w0 with heap := w0.heap.modify 0 fun
      | .cells _ t frozen => .cells (tab.map fun (t : Nat) => Value.int .u8 (t : Int)).toArray t frozen
      | o => o }
theorem laid_met (os : Os) (args : Array Value) : laidMet Ybad.prog Rows.lawS5379BEvictRow.laid ((tabWorld os).forCall (fun _ _ => 0) ⟨#[], args, []⟩).memory :=
  laidMet_of_run' 8 (by kernel_rfl) (by kernel_rfl)

set_option maxHeartbeats 1000000 in
set_option maxRecDepth 100000 in
theorem law_big (na : Option Addr) (nl nc : Nat) (obj : ByteArray) (conflict prior waited dead nflags : Int) (ended evicted hist : Bool) (y : Int) (w : World) (h : 1024 < nl) :
    Calls Ybad.prog 3 #[.slice na nl nc, .string obj, .int .u8 conflict, .int .u64 prior, .int .u64 waited, .int .u64 dead, .bool ended, .bool evicted, .bool hist, .int .u8 nflags, .int .i64 y] w fun e w' => e = .returned (.bool true) ∧ Below w.heap.size w w' := by
  have h8' : (1024 : Int) < (nl : Int) := by omega
  go_enter Ybad.func3, Ybad.ntmps3
  go_wp2
  go_ret
  exact ⟨rfl, Below.refl _ _⟩

theorem wf_u8 {z : Int} (h : (Lit.int .u8 z).wf = true) : 0 ≤ z ∧ z ≤ 255 := by
  have e1 : IntKind.u8.min = 0 := rfl
  have e2 : IntKind.u8.max = 255 := rfl
  simp [Lit.wf, e1, e2] at h; omega
theorem wf_u64 {z : Int} (h : (Lit.int .u64 z).wf = true) : 0 ≤ z ∧ z < 18446744073709551616 := by
  have e1 : IntKind.u64.min = 0 := rfl
  have e2 : IntKind.u64.max = 18446744073709551615 := rfl
  simp [Lit.wf, e1, e2] at h; omega

theorem walk (na : Option Addr) (nl nc : Nat) (obj : ByteArray) (conflict prior waited dead nflags : Int) (ended evicted hist : Bool) (y : Int) (S : Nat → ByteArray) (w : World) (hc : 0 ≤ conflict ∧ conflict ≤ 255) (hnf : 0 ≤ nflags ∧ nflags ≤ 255)
    (hp : 0 ≤ prior ∧ prior < 18446744073709551616) (hw : 0 ≤ waited ∧ waited < 18446744073709551616) (hd : 0 ≤ dead ∧ dead < 18446744073709551616) (hS : IsS w na nl S) (HT : Tab w) :
    Calls Ybad.prog 3 #[.slice na nl nc, .string obj, .int .u8 conflict, .int .u64 prior, .int .u64 waited, .int .u64 dead, .bool ended, .bool evicted, .bool hist, .int .u8 nflags, .int .i64 y] w fun e w' => e = .returned (.bool true) ∧ Below w.heap.size w w' := by
  rcases Nat.lt_or_ge 1024 nl with h | h
  · exact law_big na nl nc obj conflict prior waited dead nflags ended evicted hist y w h
  · obtain ⟨c, rfl⟩ := Int.eq_ofNat_of_zero_le hc.1
    obtain ⟨p, rfl⟩ := Int.eq_ofNat_of_zero_le hp.1
    obtain ⟨a, rfl⟩ := Int.eq_ofNat_of_zero_le hw.1
    obtain ⟨d, rfl⟩ := Int.eq_ofNat_of_zero_le hd.1
    obtain ⟨f, rfl⟩ := Int.eq_ofNat_of_zero_le hnf.1
    exact law_main na nl nc obj c p a d f ended evicted hist y S w h (by omega) (by omega) (by omega) (by omega) (by omega) hS HT (World.block_lt_of_cell? w _ (HT 0 (by omega)))

set_option maxRecDepth 100000 in
theorem lifted (os : Os) (started : os.Started) (H : Type) (enc : TypeId × Value → H) :
    ReturnsInHanded {} Ybad.checked os 3 .any (fun w args => (Rows.lawS5379BEvictSpec.pre enc Ybad.prog Ybad.f3 Rows.lawS5379BEvictRow.domain false w args ∧ laidMet Ybad.prog Rows.lawS5379BEvictRow.laid w) ∧ sizedMet enc Ybad.prog Ybad.f3 (OpenSpec.ofChange Rows.lawS5379BEvictSpec) false w args)
      (Rows.lawS5379BEvictSpec.post enc Ybad.prog Ybad.f3 false true false false) := by
  refine returnsInHanded_of_change_and (C := Ybad.checked) (X := fun w _ => laidMet Ybad.prog Rows.lawS5379BEvictRow.laid w) (fun _ _ _ hh h => h.of_heap hh) own started (by kernel_rfl) Ybad.func3
    (ChangeSpec.witness_at (enc := enc) (C := Ybad.checked) (os := os) (X := fun w _ => laidMet Ybad.prog Rows.lawS5379BEvictRow.laid w) false (tabWorld os) #[.slice none 0 0, .string ⟨#[]⟩, .int .u8 0, .int .u64 0, .int .u64 0, .int .u64 0, .bool false, .bool false, .bool false, .int .u8 0, .int .i64 0] 8 rfl (by kernel_rfl) (by kernel_rfl) (by kernel_rfl) (by kernel_rfl) (by kernel_rfl) (laid_met os _)) ?_
  intro W base args ds gs before hval0 hW _ _ hL _
  have hval : ∀ (j : Nat) t v, Ybad.f3.params[j]? = some t → args[j]? = some v → Value.okWide Ybad.prog W .any base t v := hval0
  have hW' := hW
  obtain ⟨p, q, hA0, hV, rfl, hfz, hnd⟩ := hW
  have hA : DataW.TrodAll enc Ybad.prog W 0 (fun _ => true) true Ybad.f3.params.toList args.toList ds p := hA0
  rw [Ybad.params3] at hA hval
  obtain ⟨v0, vs0, d0, ds0, p0, q0, hargs, rfl, rfl, h0, r0⟩ := trodAll_cons hA
  obtain ⟨v1, vs1, d1, ds1, p1, q1, rfl, rfl, rfl, h1, r1⟩ := trodAll_cons r0
  obtain ⟨v2, vs2, d2, ds2, p2, q2, rfl, rfl, rfl, h2, r2⟩ := trodAll_cons r1
  obtain ⟨v3, vs3, d3, ds3, p3, q3, rfl, rfl, rfl, h3, r3⟩ := trodAll_cons r2
  obtain ⟨v4, vs4, d4, ds4, p4, q4, rfl, rfl, rfl, h4, r4⟩ := trodAll_cons r3
  obtain ⟨v5, vs5, d5, ds5, p5, q5, rfl, rfl, rfl, h5, r5⟩ := trodAll_cons r4
  obtain ⟨v6, vs6, d6, ds6, p6, q6, rfl, rfl, rfl, h6, r6⟩ := trodAll_cons r5
  obtain ⟨v7, vs7, d7, ds7, p7, q7, rfl, rfl, rfl, h7, r7⟩ := trodAll_cons r6
  obtain ⟨v8, vs8, d8, ds8, p8, q8, rfl, rfl, rfl, h8, r8⟩ := trodAll_cons r7
  obtain ⟨v9, vs9, d9, ds9, p9, q9, rfl, rfl, rfl, h9, r9⟩ := trodAll_cons r8
  obtain ⟨va, vsa, da, dsa, pa, qa, rfl, rfl, rfl, ha, ra⟩ := trodAll_cons r9
  obtain ⟨rfl, rfl, rfl⟩ := trodAll_nil ra
  obtain rfl : args = #[v0, v1, v2, v3, v4, v5, v6, v7, v8, v9, va] := by cases args; simp_all
  obtain ⟨rfl, rfl⟩ := trodVars_none hV
  obtain ⟨a0, len0, cap0, rfl⟩ := okWide_slice Ybad.underlying22 (hval 0 22 v0 rfl rfl)
  have k0 := h0
  have lt0 : ∀ x ∈ p0, x.block < W.heap.size := by obtain ⟨m, hm⟩ := k0; exact DataW.trod_lt m _ _ _ hm
  obtain ⟨S, w0⟩ : ∃ S, IsS W a0 len0 S := by
    obtain ⟨fuel, hf⟩ := h0
    rcases Go.Deep.open_strs Ybad.underlying22 Ybad.underlying9 cells9 hf with ⟨hcs, _⟩ | ⟨x, l, c, m, Sx, hcs, _, hl, hm, hmm, _, hcell⟩
    · simp [Value.cells] at hcs
      obtain ⟨rfl, rfl, rfl⟩ := hcs
      exact ⟨fun _ => ⟨#[]⟩, fun h => by omega⟩
    · simp [Value.cells] at hcs
      obtain ⟨rfl, rfl, rfl⟩ := hcs
      simp only [if_true] at hmm
      subst hmm
      refine ⟨Sx, fun hpos => ?_⟩
      have hx := (hcell 0 (by omega)).1
      rw [show x.add 0 = x by simp [Addr.add]] at hx
      obtain ⟨ex, hb⟩ := spot_of_cell hx
      refine ⟨x.block, x.off, by rw [← ex], hb, fun i hi => ?_⟩
      have c0 := (hcell i (by omega)).1
      rw [ex] at c0
      rw [Addr.add_lit] at c0
      exact c0
  obtain ⟨s, rfl, rfl, rfl, hs⟩ := open_string Ybad.underlying9 (hval 1 9 v1 rfl rfl) h1
  obtain ⟨z2, rfl, rfl, rfl, w2⟩ := open_int Ybad.underlying5 (hval 2 5 v2 rfl rfl) h2
  obtain ⟨z3, rfl, rfl, rfl, w3⟩ := open_int Ybad.underlying23 (hval 3 23 v3 rfl rfl) h3
  obtain ⟨z4, rfl, rfl, rfl, w4⟩ := open_int Ybad.underlying23 (hval 4 23 v4 rfl rfl) h4
  obtain ⟨z5, rfl, rfl, rfl, w5⟩ := open_int Ybad.underlying23 (hval 5 23 v5 rfl rfl) h5
  obtain ⟨z6, rfl, rfl, rfl⟩ := open_bool Ybad.underlying4 (hval 6 4 v6 rfl rfl) h6
  obtain ⟨z7, rfl, rfl, rfl⟩ := open_bool Ybad.underlying4 (hval 7 4 v7 rfl rfl) h7
  obtain ⟨z8, rfl, rfl, rfl⟩ := open_bool Ybad.underlying4 (hval 8 4 v8 rfl rfl) h8
  obtain ⟨z9, rfl, rfl, rfl, w9⟩ := open_int Ybad.underlying5 (hval 9 5 v9 rfl rfl) h9
  obtain ⟨za, rfl, rfl, rfl, wa⟩ := open_int Ybad.underlying3 (hval 10 3 va rfl rfl) ha
  clear hA0 hval0
  refine (walk a0 len0 cap0 s z2 z3 z4 z5 z9 z6 z7 z8 za S W (wf_u8 w2) (wf_u8 w9) (wf_u64 w3) (wf_u64 w4) (wf_u64 w5) w0 (tab_of_laid hL)).mono fun e W' ⟨he, bel⟩ => ?_
  subst he
  exact ⟨_, rfl, _, _, _, [], _, [], hW', trodAll_mk1 (shut_bool Ybad.underlying4 _), (trodAll_cons_mk (Below.trod laidOut (by kernel_rfl) (of_decide_eq_true (by kernel_rfl)) k0 bel lt0) (trodAll_cons_mk (shut_string Ybad.underlying9 hs) (trodAll_cons_mk (shut_int Ybad.underlying5 w2)
    (trodAll_cons_mk (shut_int Ybad.underlying23 w3) (trodAll_cons_mk (shut_int Ybad.underlying23 w4) (trodAll_cons_mk (shut_int Ybad.underlying23 w5) (trodAll_cons_mk (shut_bool Ybad.underlying4 _) (trodAll_cons_mk (shut_bool Ybad.underlying4 _) (trodAll_cons_mk (shut_bool Ybad.underlying4 _)
    (trodAll_cons_mk (shut_int Ybad.underlying5 w9) (trodAll_cons_mk (shut_int Ybad.underlying3 wa) trodAll_mk0))))))))))), rfl, bel.frame _, fun h => by cases h⟩

theorem row_holds : Rows.LawS5379BEvictSaid :=
  OpenClaim.holds_of_wide 3 Ybad.f3 rfl rfl rfl rfl rfl rfl rfl ⟨rfl, rfl, rfl, rfl, rfl⟩ rfl rfl rfl rfl rfl (by kernel_rfl) Ybad.func3 (by kernel_rfl)
    (of_decide_eq_true (by kernel_rfl)) (by unfold Func.isWrapper; first | (rw [if_pos (by decide +kernel)]; kernel_rfl) | (rw [if_neg (by decide +kernel)]; exact ⟨rfl, rfl⟩))
    (fun os started H enc _ => lifted os started H enc)

theorem card_holds : Rows.LawS5379BEvictCardSaid :=
  Claim7.holds_tied_plain_at .later [] [.data] true (true, "79b62d20c9f716cc2deb52adb45c614b0d6f7cb9fe690e1485ea8712945d539d") true
    row_holds (fun _ h => by cases h) (by kernel_rfl) (fun _ h => by cases h) lawS5379BEvict_row_tie rfl ⟨rfl, rfl⟩ (by kernel_rfl) rfl
    (fun f fn hf hfn => by
      obtain rfl : f = 3 := Option.some.inj ((show Ybad.prog.funcNamed "example.com/latchwork/latchwork.LawS5379BEvict" = some 3 by kernel_rfl).symm.trans hf) |>.symm
      obtain rfl : fn = Ybad.f3 := (Option.some.inj (Ybad.func3.symm.trans hfn)).symm
      exact ⟨by kernel_rfl, fun j t ht => by
        rw [Ybad.params3] at ht
        have hm : t ∈ [22, 9, 5, 23, 23, 23, 4, 4, 4, 5, 3] := by simpa using Array.mem_of_getElem? ht
        have hall : ([22, 9, 5, 23, 23, 23, 4, 4, 4, 5, 3].all fun u => !Ybad.prog.wantsStandIn u) = true := by kernel_rfl
        exact (show Ybad.prog.wantsStandIn t = false by simpa using List.all_eq_true.1 hall t hm)⟩)
    (by kernel_rfl)
end Evict
/-- THE STATEMENT -/
theorem evict_proved : Rows.LawS5379BEvictCardSaid := Evict.card_holds
end Go.Proofs.YbulkdgjkDoor
