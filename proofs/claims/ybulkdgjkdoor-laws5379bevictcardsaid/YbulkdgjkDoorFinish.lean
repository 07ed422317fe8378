import Derived.Test.YbulkdgjkDoorEnd
import Derived.BigRegion
namespace Go.Proofs.YbulkdgjkDoor
open Go.RowKit
attribute [local go_sem ↓] Go.wp_at_zero Go.wp_at_succ

/-- The history's blocks ahead of record. -/
structure HistIn (w : World) (hb yb ch b1 b2 b3 sb n : Nat) : Prop where
  row : w.rowIs hb 86 10 (HF yb ch b1 b2 b3 n 0 (.slice none 0 0) 0)
  r1 : w.rowIs b1 3 n (fun _ => .int .i64 0)
  r2 : w.rowIs b2 3 n (fun _ => .int .i64 0)
  r3 : w.rowIs b3 3 n (fun _ => .int .i64 0)
  y6 : w.cell? ⟨yb, 6, none⟩ = some (.slice (some ⟨sb, 0, none⟩) n n)
  s0 : ∀ i, i < n → w.cell? ⟨sb, i, none⟩ = some (.int .u8 0)
  ch : w.rowIs ch 90 4 (NF 0)
theorem HistIn.off {w w' : World} {P : Nat → Prop} {hb yb ch b1 b2 b3 sb n : Nat} (h : HistIn w hb yb ch b1 b2 b3 sb n) (o : Off P w w') (p1 : ¬ P hb) (p2 : ¬ P yb) (p3 : ¬ P ch) (p4 : ¬ P b1) (p5 : ¬ P b2) (p6 : ¬ P b3) (p7 : ¬ P sb) : HistIn w' hb yb ch b1 b2 b3 sb n :=
  ⟨o.row p1 h.row, o.row p4 h.r1, o.row p5 h.r2, o.row p6 h.r3, o.cell p2 h.y6, fun i hi => o.cell p7 (h.s0 i hi), o.row p3 h.ch⟩
/-- The history's blocks behind record. -/
structure HistOut (w : World) (lo hb yb b1 b2 b3 n met wai dea : Nat) : Prop where
  rest : ∃ ch g cap : Nat, lo ≤ g ∧ w.rowIs hb 86 10 (HF yb ch b1 b2 b3 n 0 (.slice (some ⟨g, 0, none⟩) 1 cap) 1) ∧ w.cell? ⟨g, 0, none⟩ = some (.int .u64 (met : Int)) ∧ w.cell? ⟨g, 1, none⟩ = some (.int .u64 (wai : Int)) ∧ w.cell? ⟨g, 2, none⟩ = some (.int .u64 (dea : Int)) ∧ 1 ≤ cap
  r1 : w.rowIs b1 3 n (cnt met 0)
  r2 : w.rowIs b2 3 n (cnt wai 0)
  r3 : w.rowIs b3 3 n (cnt dea 0)
theorem HistOut.off {w w' : World} {P : Nat → Prop} {lo hb yb b1 b2 b3 n met wai dea : Nat} (h : HistOut w lo hb yb b1 b2 b3 n met wai dea) (o : Off P w w') (p1 : ¬ P hb) (p4 : ¬ P b1) (p5 : ¬ P b2) (p6 : ¬ P b3) (p : ∀ k, lo ≤ k → ¬ P k) : HistOut w' lo hb yb b1 b2 b3 n met wai dea := by
  obtain ⟨⟨ch, g, cap, a1, a2, a3, a4, a5, a6⟩, r1, r2, r3⟩ := h
  exact ⟨⟨ch, g, cap, a1, o.row p1 a2, o.cell (p g a1) a3, o.cell (p g a1) a4, o.cell (p g a1) a5, a6⟩, o.row p4 r1, o.row p5 r2, o.row p6 r3⟩

/-- The blocks' order. -/
structure Ord (yb sb cb gb ib cc ob tb mb rb fb pb : Nat) : Prop where
  a : 0 < yb ∧ 0 < sb ∧ yb ≠ sb ∧ yb < cb ∧ sb < cb ∧ cb < gb ∧ gb < ib ∧ ib < cc ∧ cc < ob ∧ ob < tb ∧ tb < mb ∧ mb < rb ∧ rb < fb ∧ rb < pb
/-- The history's blocks among them. -/
structure OrdH (ob tb hb ch b1 b2 b3 : Nat) : Prop where
  a : ob < hb ∧ ob < b1 ∧ ob < b2 ∧ ob < b3 ∧ hb < ch ∧ b1 < ch ∧ b2 < ch ∧ b3 < ch ∧ ch < tb ∧ hb ≠ b1 ∧ hb ≠ b2 ∧ hb ≠ b3 ∧ b1 ≠ b2 ∧ b1 ≠ b3 ∧ b2 ≠ b3

theorem Off.alloc_set {P : Nat → Prop} (w : World) (o : Obj) (a : Addr) (x : Value) (ha : P a.block) : Off P (w.alloc o) ((w.setCell a x).alloc o) := by
  refine ⟨rfl, rfl, rfl, by simp, fun k hk hp => ?_⟩
  by_cases h : k < w.heap.size
  · rw [Go.Deep.blk_alloc_lt _ _ _ (by simpa using h), Go.Deep.blk_alloc_lt _ _ _ h]
    exact Go.heap_setCell_other w a k x (fun e => hp (e ▸ ha))
  · have hk' : k < w.heap.size + 1 := by simpa using hk
    have e : k = w.heap.size := by omega
    subst e
    rw [Go.Deep.blk_alloc_new, blk_new_at (by simp)]
theorem Held.off {w w' : World} {P : Nat → Prop} {fb n rb : Nat} {s : Nat → Nat} (h : Held w fb n rb s) (o : Off P w w') (hp : ¬ P fb) : Held w' fb n rb s := fun i hi => ⟨o.cell hp (h i hi).1, o.cell hp (h i hi).2⟩

def MT : Nat → Value
  | 0 => .pointer none
  | 1 => .int .u64 0
  | _ => .int .u64 0
theorem mt_made (w : World) : (w.alloc (.cells #[.pointer none, .int .u64 0, .int .u64 0] 123)).rowIs w.heap.size 123 3 MT :=
  World.rowIs_alloc w #[.pointer none, .int .u64 0, .int .u64 0] 123 MT (by
    intro i hi
    have : i = 0 ∨ i = 1 ∨ i = 2 := by simp at hi; omega
    rcases this with rfl | rfl | rfl <;> rfl)
theorem info123 : (Ybad.prog.info? 123).map (fun i => i.size) = some 3 := by kernel_rfl
/-- What finish turns. -/
def Fin (rb mb cb gb ib cc hb b1 b2 b3 : Nat) (hist : Bool) (b : Nat) : Prop := b = rb ∨ b = mb ∨ b = cb ∨ b = gb ∨ b = ib ∨ b = cc ∨ (hist = true ∧ (b = hb ∨ b = b1 ∨ b = b2 ∨ b = b3))

set_option maxHeartbeats 1000000 in
set_option maxRecDepth 100000 in
theorem finish_ended (ob mb : Nat) (w : World) (m2 : w.cell? ⟨mb, 2, none⟩ = some (.bool true)) :
    Calls Ybad.prog 13 #[.pointer (some ⟨ob, 0, none⟩), .pointer (some ⟨mb, 0, none⟩), .bool false] w fun e w' => (∃ v, e = .returned v) ∧ Off (fun _ => False) w w' := by
  have hlt := World.block_lt_of_cell? w _ m2
  go_enter Ybad.func13, Ybad.ntmps13
  go_wp2
  refine bodyPost_ret (results_cell_row rfl _ _ w.heap.size 123 #[.pointer (some ⟨ob, 0, none⟩), .int .u64 0, .int .u64 0] (0, 0) _ (by rfl) (by exact Go.Deep.blk_alloc_new _ _) Ybad.underlying123 rfl info123) rfl ?_
  exact ⟨⟨_, rfl⟩, (Off.refl _ _).alloc _⟩

set_option maxHeartbeats 2000000 in
set_option maxRecDepth 100000 in
theorem finish_live (yb sb cb gb ib cc ob tb mb rb fb pb hb ch b1 b2 b3 k nf np cf cp n met wai dea wn : Nat) (hist : Bool) (fp pp : Option Addr) (y : Int) (w : World) (hk : k ≤ 7)
    (HO : Hid (Ord yb sb cb gb ib cc ob tb mb rb fb pb)) (HH : Hid (hist = true → OrdH ob tb hb ch b1 b2 b3))
    (HK : Hid (nf = (k + 1) / 2 ∧ np = k / 2))
    (hfp : Hid (fp = none ∧ nf = 0 ∧ cf = 0 ∨ fp = some ⟨fb, 0, none⟩ ∧ nf ≤ cf)) (hpp : Hid (pp = none ∧ np = 0 ∧ cp = 0 ∨ pp = some ⟨pb, 0, none⟩ ∧ np ≤ cp))
    (M : Hid (w.rowIs mb 129 12 (MF tb ob false (.slice fp nf cf) (.slice pp np cp) met (.iface 3 (.int .i64 y)) wai dea))) (R : Hid (w.rowIs rb 72 (5 * k) (RSF rb mb ob (fun _ => false))))
    (FL : Hid (Held w fb nf rb (fun i => 2 * i))) (PL : Hid (Held w pb np rb (fun i => 2 * i + 1)))
    (G : Hid (Got w cb gb ib cc 0 (.pointer none) .nilIface true))
    (o4 : w.cell? ⟨ob, 4, none⟩ = some (.func (.func 5) #[] #[.pointer (some ⟨cb, 0, none⟩), .pointer (some ⟨gb, 0, none⟩), .pointer (some ⟨ib, 0, none⟩), .pointer (some ⟨cc, 0, none⟩)]))
    (o11 : w.cell? ⟨ob, 11, none⟩ = some (.pointer (if hist then some ⟨hb, 0, none⟩ else none)))
    (H : Hid (hist = true → Tab w ∧ HistIn w hb yb ch b1 b2 b3 sb n)) (HN : Hid (1 ≤ n ∧ n ≤ 64 ∧ met < 2 ^ n ∧ wn < 2 ^ n ∧ dea < 2 ^ n))
    (hbits : bits .andNot .u64 (wai : Int) (dea : Int) = (wn : Int)) :
    Calls Ybad.prog 13 #[.pointer (some ⟨ob, 0, none⟩), .pointer (some ⟨mb, 0, none⟩), .bool false] w fun e w' => (∃ v, e = .returned v) ∧ Off (Fin rb mb cb gb ib cc hb b1 b2 b3 hist) w w' ∧
      w'.rowIs rb 72 (5 * k) (RSF rb mb ob (fun _ => true)) ∧ w'.rowIs mb 129 12 (MF tb ob true (.slice fp 0 cf) (.slice pp 0 cp) met (.iface 3 (.int .i64 y)) wai dea) ∧
      Got w' cb gb ib cc 1 (.pointer (some ⟨tb, 0, none⟩)) (.iface 3 (.int .i64 y)) false ∧ (hist = true → HistOut w' (w.heap.size + 1) hb yb b1 b2 b3 n met wn dea) := by
  have m2 : w.cell? ⟨mb, 2, none⟩ = some (.bool false) := M.out.cell (by omega)
  have f2 := M.out.frozen 2
  have hmlt := M.out.lt
  have holt : ob < w.heap.size := World.block_lt_of_cell? w _ o4
  go_enter Ybad.func13, Ybad.ntmps13
  go_upto_region 4 with (fail)
  go_cut [] (fun wc => Off (fun b => b = rb ∨ b = mb) (w.alloc (.cells #[.pointer none, .int .u64 0, .int .u64 0] 123)) wc ∧ wc.rowIs rb 72 (5 * k) (RSF rb mb ob (fun _ => true)) ∧
      wc.rowIs mb 129 12 (MF tb ob true (.slice fp 0 cf) (.slice pp 0 cp) met (.iface 3 (.int .i64 y)) wai dea))
  case first =>
    have OF : Off (fun b => b = mb) w ((w.setCell ⟨mb, 2, none⟩ (.bool true)).alloc (.cells #[.pointer none, .int .u64 0, .int .u64 0] 123)) := ((Off.refl _ _).setCell _ _ (.inl (by rfl))).alloc _
    have FL1 : Hid (Held ((w.setCell ⟨mb, 2, none⟩ (.bool true)).alloc (.cells #[.pointer none, .int .u64 0, .int .u64 0] 123)) fb nf rb (fun i => 2 * i)) := FL.out.off OF (by have := HO.out.a; omega)
    have PL1 : Hid (Held ((w.setCell ⟨mb, 2, none⟩ (.bool true)).alloc (.cells #[.pointer none, .int .u64 0, .int .u64 0] 123)) pb np rb (fun i => 2 * i + 1)) := PL.out.off OF (by have := HO.out.a; omega)
    clear OF
    go_wp2_with (first | (
      go_at_call 17
      refine (drop_any ob mb tb rb fb pb k nf np cf cp met wai dea fp pp (.iface 3 (.int .i64 y)) _ hk ?_ ?_ ?_ HK hfp.out hpp.out ?_ ?_ ?_ ?_).mono ?_
      · have := HO.out.a; omega
      · have := HO.out.a; omega
      · have := HO.out.a; omega
      · exact (mf_ended M.out true).alloc _
      · refine (R.out.setOther (a := ⟨mb, 2, none⟩) ?_ _).alloc _
        have := HO.out.a
        show rb ≠ mb
        omega
      · exact FL1
      · exact PL1
      rintro e w' ⟨rfl, hoff, hrs, hm⟩))
    go_meet
    case rel => exact ⟨(Off.alloc_set _ _ _ _ (.inr rfl)).trans hoff, hrs, hm⟩
  case rest =>
    obtain ⟨V, hV⟩ : ∃ V, V = wc := ⟨_, rfl⟩
    subst hV
    have HC : Hid (Off (fun b => b = rb ∨ b = mb) (w.alloc (.cells #[.pointer none, .int .u64 0, .int .u64 0] 123)) V ∧ V.rowIs rb 72 (5 * k) (RSF rb mb ob (fun _ => true)) ∧
      V.rowIs mb 129 12 (MF tb ob true (.slice fp 0 cf) (.slice pp 0 cp) met (.iface 3 (.int .i64 y)) wai dea)) := hcut
    clear hcut
    go_upto_region 5 with (fail)
    go_cut [] (fun wc => Off (fun b => b = rb ∨ b = mb ∨ b = cb ∨ b = gb ∨ b = ib ∨ b = cc) (w.alloc (.cells #[.pointer none, .int .u64 0, .int .u64 0] 123)) wc ∧ wc.rowIs rb 72 (5 * k) (RSF rb mb ob (fun _ => true)) ∧
      wc.rowIs mb 129 12 (MF tb ob true (.slice fp 0 cf) (.slice pp 0 cp) met (.iface 3 (.int .i64 y)) wai dea) ∧ Got wc cb gb ib cc 1 (.pointer (some ⟨tb, 0, none⟩)) (.iface 3 (.int .i64 y)) false)
    case first =>
      have ho := HO.out.a
      have p4 : V.cell? ⟨ob, 4, none⟩ = some (.func (.func 5) #[] #[.pointer (some ⟨cb, 0, none⟩), .pointer (some ⟨gb, 0, none⟩), .pointer (some ⟨ib, 0, none⟩), .pointer (some ⟨cc, 0, none⟩)]) :=
        HC.out.1.cell (by omega) (by rw [World.cell?_alloc_lt _ _ _ holt]; exact o4)
      have p0 : V.cell? ⟨mb, 0, none⟩ = some (.pointer (some ⟨tb, 0, none⟩)) := HC.out.2.2.cell (by omega)
      have p9 : V.cell? ⟨mb, 9, none⟩ = some (.iface 3 (.int .i64 y)) := HC.out.2.2.cell (by omega)
      have HG : Hid (Got V.drew cb gb ib cc 0 (.pointer none) .nilIface true) := (G.out.off (((Off.refl (fun _ => False) _).alloc _)) id id id id).off (HC.out.1.drew) (by omega) (by omega) (by omega) (by omega)
      have h1 : cb < gb := by omega
      have h2 : gb < ib := by omega
      have h3 : ib < cc := by omega
      have nmb : Hid (¬ (mb = cb ∨ mb = gb ∨ mb = ib ∨ mb = cc)) := by show ¬ _; omega
      have nob : Hid (¬ (ob = cb ∨ ob = gb ∨ ob = ib ∨ ob = cc)) := by show ¬ _; omega
      have nrb : Hid (¬ (rb = cb ∨ rb = gb ∨ rb = ib ∨ rb = cc)) := by show ¬ _; omega
      clear ho
      go_region_held3 (fun w' => w'.cell? ⟨ob, 4, none⟩ = some (.func (.func 5) #[] #[.pointer (some ⟨cb, 0, none⟩), .pointer (some ⟨gb, 0, none⟩), .pointer (some ⟨ib, 0, none⟩), .pointer (some ⟨cc, 0, none⟩)]) ∧ w'.cell? ⟨mb, 0, none⟩ = some (.pointer (some ⟨tb, 0, none⟩)) ∧ w'.cell? ⟨mb, 9, none⟩ = some (.iface 3 (.int .i64 y))) (first | go_simp | exact ⟨y4, y0, y9⟩)
        ((
          go_at_call 5
          refine (end_any cb gb ib cc tb y false true V.drew h1 h2 h3 HG).mono ?_
          rintro e w2 ⟨rfl, hoff, hgot⟩
          have y4 := hoff.cell nob.out p4
          have y0 := hoff.cell nmb.out p0
          have y9 := hoff.cell nmb.out p9))
      all_goals
        go_wp2_with fail
        go_meet
        case rel =>
          refine ⟨(HC.out.1.drew.mono ?_).trans (hoff.mono ?_), hoff.row nrb.out HC.out.2.1.drew, hoff.row nmb.out HC.out.2.2.drew, hgot⟩
          · intro b _ h; rcases h with h | h <;> simp [h]
          · intro b _ h; rcases h with h | h | h | h <;> simp [h]
    case rest =>
      obtain ⟨U, hU⟩ : ∃ U, U = wc := ⟨_, rfl⟩
      subst hU
      have HD : Hid (Off (fun b => b = rb ∨ b = mb ∨ b = cb ∨ b = gb ∨ b = ib ∨ b = cc) (w.alloc (.cells #[.pointer none, .int .u64 0, .int .u64 0] 123)) U ∧ U.rowIs rb 72 (5 * k) (RSF rb mb ob (fun _ => true)) ∧
        U.rowIs mb 129 12 (MF tb ob true (.slice fp 0 cf) (.slice pp 0 cp) met (.iface 3 (.int .i64 y)) wai dea) ∧ Got U cb gb ib cc 1 (.pointer (some ⟨tb, 0, none⟩)) (.iface 3 (.int .i64 y)) false) := hcut
      clear hcut
      have p11 : U.cell? ⟨ob, 11, none⟩ = some (.pointer (if hist then some ⟨hb, 0, none⟩ else none)) :=
        HD.out.1.cell (by have := HO.out.a; omega) (by rw [World.cell?_alloc_lt _ _ _ holt]; exact o11)
      go_upto_if 37 with (fail)
      go_cut [] (fun wc => Off (Fin rb mb cb gb ib cc hb b1 b2 b3 hist) (w.alloc (.cells #[.pointer none, .int .u64 0, .int .u64 0] 123)) wc ∧ wc.rowIs rb 72 (5 * k) (RSF rb mb ob (fun _ => true)) ∧
        wc.rowIs mb 129 12 (MF tb ob true (.slice fp 0 cf) (.slice pp 0 cp) met (.iface 3 (.int .i64 y)) wai dea) ∧ Got wc cb gb ib cc 1 (.pointer (some ⟨tb, 0, none⟩)) (.iface 3 (.int .i64 y)) false ∧ (hist = true → HistOut wc (w.heap.size + 1) hb yb b1 b2 b3 n met wn dea))
      case first =>
        cases hist with
        | false =>
          go_wp2_with fail
          go_meet
          case rel =>
            refine ⟨HD.out.1.mono ?_, HD.out.2.1, HD.out.2.2.1, HD.out.2.2.2, by simp⟩
            intro b _ h; rcases h with h | h | h | h | h | h <;> simp [h, Fin]
        | true =>
          have ho := HO.out.a
          have hh := (HH.out rfl).a
          have hn := HN.out
          have p11 : U.cell? ⟨ob, 11, none⟩ = some (.pointer (some ⟨hb, 0, none⟩)) := p11
          have p7 : U.cell? ⟨mb, 7, none⟩ = some (.int .u64 (met : Int)) := HD.out.2.2.1.cell (by omega)
          have p10 : U.cell? ⟨mb, 10, none⟩ = some (.int .u64 (wai : Int)) := HD.out.2.2.1.cell (by omega)
          have p12 : U.cell? ⟨mb, 11, none⟩ = some (.int .u64 (dea : Int)) := HD.out.2.2.1.cell (by omega)
          have h0 := ((H.out rfl).2.off ((Off.refl (fun _ => False) _).alloc (.cells #[.pointer none, .int .u64 0, .int .u64 0] 123)) id id id id id id id).off HD.out.1.drew (by omega) (by omega) (by omega) (by omega) (by omega) (by omega) (by omega)
          have HI : Hid (HistIn U.drew hb yb ch b1 b2 b3 sb n) := h0
          have hT : Hid (Tab U.drew) := fun i hi => HD.out.1.drew.cell (by omega) (by rw [World.cell?_alloc_lt _ _ _ (World.block_lt_of_cell? w ⟨0, i, none⟩ ((H.out rfl).1 i hi))]; exact (H.out rfl).1 i hi)
          have hrec := record_any hb yb ch b1 b2 b3 sb n met wn dea U.drew hn.2.1 (by omega) (by omega) (by omega) (by omega) (by omega) (by omega) (by omega) (by omega) (by omega) (by omega) hn.2.2.1 hn.2.2.2.1 hn.2.2.2.2 hT
            h0.row h0.r1 h0.r2 h0.r3 (World.block_lt_of_cell? _ _ h0.y6) (World.block_lt_of_cell? _ _ (h0.s0 0 (by omega))) ⟨by omega, by omega, by omega, by omega⟩ ⟨by omega, by omega, by omega, by omega⟩ h0.y6 h0.s0 ⟨by omega, by omega, by omega, by omega⟩ h0.ch
          have HREC : Hid (Calls Ybad.prog 18 #[.pointer (some ⟨hb, 0, none⟩), .agg #[.int .u64 (met : Int), .int .u64 (wn : Int), .int .u64 (dea : Int)]] U.drew fun e w' => e = .returned (.tuple #[]) ∧ RecPost U.drew w' hb yb b1 b2 b3 n met wn dea) := hrec
          have nmb : Hid (¬ (mb = hb ∨ mb = b1 ∨ mb = b2 ∨ mb = b3)) := by show ¬ _; omega
          have nob : Hid (¬ (ob = hb ∨ ob = b1 ∨ ob = b2 ∨ ob = b3)) := by show ¬ _; omega
          have nrb : Hid (¬ (rb = hb ∨ rb = b1 ∨ rb = b2 ∨ rb = b3)) := by show ¬ _; omega
          have ncb : Hid (¬ (cb = hb ∨ cb = b1 ∨ cb = b2 ∨ cb = b3) ∧ ¬ (gb = hb ∨ gb = b1 ∨ gb = b2 ∨ gb = b3) ∧ ¬ (ib = hb ∨ ib = b1 ∨ ib = b2 ∨ ib = b3) ∧ ¬ (cc = hb ∨ cc = b1 ∨ cc = b2 ∨ cc = b3)) := ⟨by omega, by omega, by omega, by omega⟩
          clear h0 ho hh hn hrec
          go_wp2_with fail
          go_region_held3 (fun w' => w'.cell? ⟨ob, 11, none⟩ = some (.pointer (some ⟨hb, 0, none⟩)) ∧ w'.cell? ⟨mb, 7, none⟩ = some (.int .u64 (met : Int)) ∧ w'.cell? ⟨mb, 10, none⟩ = some (.int .u64 (wai : Int)) ∧ w'.cell? ⟨mb, 11, none⟩ = some (.int .u64 (dea : Int))) (first | go_simp | exact ⟨y11, y7, y10, y12⟩)
            ((
              go_at_call 18
              refine HREC.out.mono ?_
              rintro e w2 ⟨rfl, hpost⟩
              have hoff := Off.of_four hpost.four
              have y11 := hoff.cell nob.out p11
              have y7 := hoff.cell nmb.out p7
              have y10 := hoff.cell nmb.out p10
              have y12 := hoff.cell nmb.out p12))
          all_goals
            go_wp2_with fail
            go_meet
            case rel =>
              refine ⟨(HD.out.1.drew.mono ?_).trans (hoff.mono ?_), hoff.row nrb.out HD.out.2.1.drew, hoff.row nmb.out HD.out.2.2.1.drew, (HD.out.2.2.2.off (Off.refl (fun _ => False) U).drew id id id id).off hoff ncb.out.1 ncb.out.2.1 ncb.out.2.2.1 ncb.out.2.2.2, fun _ => ?_⟩
              · intro b _ h; rcases h with h | h | h | h | h | h <;> simp [h, Fin]
              · intro b _ h; rcases h with h | h | h | h <;> simp [h, Fin]
              · obtain ⟨ch', g, cap, a1, a2⟩ := hpost.rest
                exact ⟨⟨ch', g, cap, Nat.le_trans (by simpa using HD.out.1.size) a1, a2⟩, hpost.r1, hpost.r2, hpost.r3⟩
      case rest =>
        obtain ⟨X, hX⟩ : ∃ X, X = wc := ⟨_, rfl⟩
        subst hX
        have HE : Hid (Off (Fin rb mb cb gb ib cc hb b1 b2 b3 hist) (w.alloc (.cells #[.pointer none, .int .u64 0, .int .u64 0] 123)) X ∧ X.rowIs rb 72 (5 * k) (RSF rb mb ob (fun _ => true)) ∧
          X.rowIs mb 129 12 (MF tb ob true (.slice fp 0 cf) (.slice pp 0 cp) met (.iface 3 (.int .i64 y)) wai dea) ∧ Got X cb gb ib cc 1 (.pointer (some ⟨tb, 0, none⟩)) (.iface 3 (.int .i64 y)) false ∧ (hist = true → HistOut X (w.heap.size + 1) hb yb b1 b2 b3 n met wn dea)) := hcut
        clear hcut
        have p7 : X.cell? ⟨mb, 7, none⟩ = some (.int .u64 (met : Int)) := HE.out.2.2.1.cell (by omega)
        have p8 : X.cell? ⟨mb, 8, none⟩ = some (.slice none 0 0) := HE.out.2.2.1.cell (by omega)
        have p12 : X.cell? ⟨mb, 11, none⟩ = some (.int .u64 (dea : Int)) := HE.out.2.2.1.cell (by omega)
        have nfin : Hid (¬ Fin rb mb cb gb ib cc hb b1 b2 b3 hist w.heap.size) := by
          show ¬ _
          have := R.out.lt
          have := G.out.r1.lt
          have := G.out.r2.lt
          have := G.out.r3.lt
          have := G.out.r4.lt
          rintro (h | h | h | h | h | h | ⟨hh, h⟩)
          · omega
          · omega
          · omega
          · omega
          · omega
          · omega
          · have h0 := (H.out hh).2
            have := h0.row.lt
            have := h0.r1.lt
            have := h0.r2.lt
            have := h0.r3.lt
            omega
        have HR : Hid (X.rowIs w.heap.size 123 3 MT) := HE.out.1.row nfin.out (mt_made w)
        have q0 : X.cell? ⟨w.heap.size, 0, none⟩ = some (.pointer none) := HR.out.cell (by omega)
        have q1 : X.cell? ⟨w.heap.size, 1, none⟩ = some (.int .u64 0) := HR.out.cell (by omega)
        have q2 : X.cell? ⟨w.heap.size, 2, none⟩ = some (.int .u64 0) := HR.out.cell (by omega)
        have g0 := HR.out.frozen 0
        have g1 := HR.out.frozen 1
        have g2 := HR.out.frozen 2
        have hne : ¬ w.heap.size = mb := by omega
        go_wp2_with (first | (go_at_call 19; refine (wakeWaiters_none mb ob 5 X p8).mono ?_; rintro e w' ⟨rfl, hw'⟩; replace hw' := hw'.symm; subst hw'))
        go_region
        go_wp2_with fail
        have OX : Off (fun b => b = w.heap.size) X (((X.setCell ⟨w.heap.size, 0, none⟩ (.pointer (some ⟨ob, 0, none⟩))).setCell ⟨w.heap.size, 1, none⟩ (.int .u64 (met : Int))).setCell ⟨w.heap.size, 2, none⟩ (.int .u64 (dea : Int))).drew :=
          ((((Off.refl _ _).setCell _ _ (.inl (by rfl))).setCell _ _ (.inl (by rfl))).setCell _ _ (.inl (by rfl))).drew
        have OW : Off (Fin rb mb cb gb ib cc hb b1 b2 b3 hist) w (((X.setCell ⟨w.heap.size, 0, none⟩ (.pointer (some ⟨ob, 0, none⟩))).setCell ⟨w.heap.size, 1, none⟩ (.int .u64 (met : Int))).setCell ⟨w.heap.size, 2, none⟩ (.int .u64 (dea : Int))).drew :=
          ((((((Off.refl _ _).alloc _).trans HE.out.1).setCell _ _ (.inr (Nat.le_refl _))).setCell _ _ (.inr (Nat.le_refl _))).setCell _ _ (.inr (Nat.le_refl _))).drew
        obtain ⟨cs, hcs, hsz, _⟩ := (((HR.out.set 0 (.pointer (some ⟨ob, 0, none⟩))).set 1 (.int .u64 (met : Int))).set 2 (.int .u64 (dea : Int))).drew
        refine bodyPost_ret (results_cell_row rfl _ _ w.heap.size 123 cs (0, 0) _ (by rfl) hcs Ybad.underlying123 rfl (by rw [hsz]; exact info123)) rfl ?_
        have nrb := R.out.lt
        have n1 := G.out.r1.lt
        have n2 := G.out.r2.lt
        have n3 := G.out.r3.lt
        have n4 := G.out.r4.lt
        refine ⟨⟨_, rfl⟩, OW, OX.row (by omega) HE.out.2.1, OX.row (by omega) HE.out.2.2.1, HE.out.2.2.2.1.off OX (by omega) (by omega) (by omega) (by omega), fun hh => ?_⟩
        have h0 := (H.out hh).2
        have := h0.row.lt
        have := h0.r1.lt
        have := h0.r2.lt
        have := h0.r3.lt
        exact (HE.out.2.2.2.2 hh).off OX (by omega) (by omega) (by omega) (by omega) (by omega)
end Go.Proofs.YbulkdgjkDoor
