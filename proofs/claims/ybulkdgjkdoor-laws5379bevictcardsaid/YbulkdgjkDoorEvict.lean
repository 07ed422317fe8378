import Derived.Test.YbulkdgjkDoorFinish
import Derived.BigRegion
namespace Go.Proofs.YbulkdgjkDoor
open Go.RowKit
attribute [local go_sem ↓] Go.wp_at_zero Go.wp_at_succ

/-- The loser's cells. -/
def LF (ob mb ci : Nat) : Nat → Value
  | 0 => .pointer (some ⟨ob, 0, none⟩)
  | 1 => .pointer (some ⟨mb, 0, none⟩)
  | _ => .int .i64 (ci : Int)
theorem lf_made (w : World) (ob mb ci : Nat) : (w.alloc (.cells #[.pointer (some ⟨ob, 0, none⟩), .pointer (some ⟨mb, 0, none⟩), .int .i64 (ci : Int)] 135)).rowIs w.heap.size 135 3 (LF ob mb ci) :=
  World.rowIs_alloc w #[.pointer (some ⟨ob, 0, none⟩), .pointer (some ⟨mb, 0, none⟩), .int .i64 (ci : Int)] 135 (LF ob mb ci) (by
    intro i hi
    have : i = 0 ∨ i = 1 ∨ i = 2 := by simp at hi; omega
    rcases this with rfl | rfl | rfl <;> rfl)

/-- What the first eviction of a transaction leaves. -/
structure Evd (w : World) (lo tb bb ob bit : Nat) (obj name : ByteArray) : Prop where
  a : ∃ A B : Nat, lo ≤ A ∧ lo ≤ B ∧ w.cell? ⟨tb, 10, none⟩ = some (.pointer (some ⟨B, 0, none⟩)) ∧ w.shape? B = some (125, 5) ∧
    w.cell? ⟨B, 0, none⟩ = some (.pointer (some ⟨A, 0, none⟩)) ∧ w.cell? ⟨B, 1, none⟩ = some (.pointer (some ⟨bb, 0, none⟩)) ∧ w.cell? ⟨B, 2, none⟩ = some (.pointer (some ⟨ob, 0, none⟩)) ∧ w.cell? ⟨B, 3, none⟩ = some (.int .u64 (bit : Int)) ∧ w.cell? ⟨B, 4, none⟩ = some (.int .u64 0) ∧
    w.cell? ⟨A, 0, none⟩ = some (.string obj) ∧ w.cell? ⟨A, 1, none⟩ = some (.string name)

def F5 (A bb ob bit : Nat) : Nat → Value
  | 0 => .pointer (some ⟨A, 0, none⟩)
  | 1 => .pointer (some ⟨bb, 0, none⟩)
  | 2 => .pointer (some ⟨ob, 0, none⟩)
  | 3 => .int .u64 (bit : Int)
  | _ => .int .u64 0
def F2 (obj name : ByteArray) : Nat → Value
  | 0 => .string obj
  | _ => .string name

theorem shape_row {w : World} {b t n : Nat} {f : Nat → Value} (h : w.rowIs b t n f) : w.shape? b = some (t, n) := by
  obtain ⟨cs, h1, h2, _⟩ := h
  simp [World.shape?, h1, h2]
theorem evictW_off {P : Nat → Prop} {w W : World} {eb tb x : Nat} (h : Off P w W) (h1 : P tb) (h2 : P eb) : Off P w (evictW W eb tb x) :=
  ((((h.setCell ⟨tb, 10, none⟩ _ (.inl h1)).setCell ⟨eb, 2, none⟩ _ (.inl h2)).setCell ⟨eb, 2, none⟩ _ (.inl h2))).alloc _

theorem evd_mk {V : World} {eb tb bb ob bit lo : Nat} {obj name : ByteArray} {v : Value} (hlo : lo ≤ V.heap.size) (hne : ¬ eb = tb) (t10 : V.cell? ⟨tb, 10, none⟩ = some v) (heb : eb < V.heap.size) :
    Evd (evictW (((V.alloc (.cells #[.string obj, .string name] 121)).alloc (.cells #[.pointer (some ⟨V.heap.size, 0, none⟩), .pointer (some ⟨bb, 0, none⟩), .pointer (some ⟨ob, 0, none⟩), .int .u64 (bit : Int), .int .u64 0] 125)).drew) eb tb (V.heap.size + 1)) lo tb bb ob bit obj name := by
  have htb : tb < V.heap.size := World.block_lt_of_cell? V _ t10
  have rA : (((V.alloc (.cells #[.string obj, .string name] 121)).alloc (.cells #[.pointer (some ⟨V.heap.size, 0, none⟩), .pointer (some ⟨bb, 0, none⟩), .pointer (some ⟨ob, 0, none⟩), .int .u64 (bit : Int), .int .u64 0] 125)).drew).rowIs V.heap.size 121 2 (F2 obj name) := by
    refine World.rowIs.drew (World.rowIs.alloc (World.rowIs_alloc V #[.string obj, .string name] 121 (F2 obj name) ?_) _)
    intro i hi
    have : i = 0 ∨ i = 1 := by simp at hi; omega
    rcases this with rfl | rfl <;> rfl
  have rB : (((V.alloc (.cells #[.string obj, .string name] 121)).alloc (.cells #[.pointer (some ⟨V.heap.size, 0, none⟩), .pointer (some ⟨bb, 0, none⟩), .pointer (some ⟨ob, 0, none⟩), .int .u64 (bit : Int), .int .u64 0] 125)).drew).rowIs (V.heap.size + 1) 125 5 (F5 V.heap.size bb ob bit) := by
    have := World.rowIs_alloc (V.alloc (.cells #[.string obj, .string name] 121)) #[.pointer (some ⟨V.heap.size, 0, none⟩), .pointer (some ⟨bb, 0, none⟩), .pointer (some ⟨ob, 0, none⟩), .int .u64 (bit : Int), .int .u64 0] 125 (F5 V.heap.size bb ob bit) (by
      intro i hi
      have : i = 0 ∨ i = 1 ∨ i = 2 ∨ i = 3 ∨ i = 4 := by simp at hi; omega
      rcases this with rfl | rfl | rfl | rfl | rfl <;> rfl)
    rw [show (V.alloc (.cells #[.string obj, .string name] 121)).heap.size = V.heap.size + 1 by simp] at this
    exact this.drew
  obtain ⟨W, hW⟩ : ∃ W, W = ((V.alloc (.cells #[.string obj, .string name] 121)).alloc (.cells #[.pointer (some ⟨V.heap.size, 0, none⟩), .pointer (some ⟨bb, 0, none⟩), .pointer (some ⟨ob, 0, none⟩), .int .u64 (bit : Int), .int .u64 0] 125)).drew := ⟨_, rfl⟩
  rw [← hW] at rA rB ⊢
  have tW : W.cell? ⟨tb, 10, none⟩ = some v := by
    rw [hW]
    exact ((((Off.refl (fun _ => False) V).alloc _).alloc _).drew).cell id t10
  have sW : V.heap.size ≤ W.heap.size := by rw [hW]; exact ((((Off.refl (fun _ => False) V).alloc _).alloc _).drew).size
  have O : Off (fun b => b = tb ∨ b = eb) W (evictW W eb tb (V.heap.size + 1)) := evictW_off (Off.refl _ _) (.inl rfl) (.inr rfl)
  have rA' := O.row (b := V.heap.size) (by omega) rA
  have rB' := O.row (b := V.heap.size + 1) (by omega) rB
  refine ⟨V.heap.size, V.heap.size + 1, hlo, by omega, ?_, shape_row rB', rB'.cell (i := 0) (by omega), rB'.cell (i := 1) (by omega), rB'.cell (i := 2) (by omega), rB'.cell (i := 3) (by omega), rB'.cell (i := 4) (by omega), rA'.cell (i := 0) (by omega), rA'.cell (i := 1) (by omega)⟩
  unfold evictW
  rw [World.cell?_alloc_lt _ _ _ (by simp; omega), World.cell?_setCell_far _ _ _ _ (by simpa using hne), World.cell?_setCell_far _ _ _ _ (by simpa using hne), World.cell?_setCell_same _ _ _ tW]
theorem Evd.off {P : Nat → Prop} {w w' : World} {lo tb bb ob bit : Nat} {obj name : ByteArray} (h : Evd w lo tb bb ob bit obj name) (o : Off P w w') (h1 : ¬ P tb) (h2 : ∀ k, lo ≤ k → ¬ P k) : Evd w' lo tb bb ob bit obj name := by
  obtain ⟨A, B, a1, a2, a3, a4, a5, a6, a7, a8, a9, a10, a11⟩ := h
  have hB : B < w.heap.size := World.block_lt_of_cell? w _ a5
  refine ⟨A, B, a1, a2, o.cell h1 a3, ?_, o.cell (h2 B a2) a5, o.cell (h2 B a2) a6, o.cell (h2 B a2) a7, o.cell (h2 B a2) a8, o.cell (h2 B a2) a9, o.cell (h2 A a1) a10, o.cell (h2 A a1) a11⟩
  rw [← a4]
  simp [World.shape?, o.block B hB (h2 B a2)]
theorem HistOut.lo {w : World} {lo lo' hb yb b1 b2 b3 n met wai dea : Nat} (h : HistOut w lo hb yb b1 b2 b3 n met wai dea) (hl : lo' ≤ lo) : HistOut w lo' hb yb b1 b2 b3 n met wai dea := by
  obtain ⟨⟨ch, g, cap, a1, a2⟩, r1, r2, r3⟩ := h
  exact ⟨⟨ch, g, cap, Nat.le_trans hl a1, a2⟩, r1, r2, r3⟩

set_option maxHeartbeats 2000000 in
set_option maxRecDepth 100000 in
theorem evict_any (eb nb bb yb sb cb gb ib cc ob tb mb rb fb pb hb ch b1 b2 b3 xb k nf np cf cp n ncap met wai dea wn ci bit : Nat) (hist ended evicted : Bool) (fp pp : Option Addr) (y : Int) (obj name : ByteArray) (w : World) (hk : k ≤ 7)
    (HO : Hid (Ord yb sb cb gb ib cc ob tb mb rb fb pb)) (HH : Hid (hist = true → OrdH ob tb hb ch b1 b2 b3))
    (HB : Hid (nb < eb ∧ eb < yb ∧ eb < sb ∧ 0 < nb))
    (HK : Hid (nf = (k + 1) / 2 ∧ np = k / 2)) (hci : ci < n) (hn64 : n ≤ 64) (hmet : met < 18446744073709551616) (HBit : Hid (bit = 2 ^ ci))
    (hfp : Hid (fp = none ∧ nf = 0 ∧ cf = 0 ∨ fp = some ⟨fb, 0, none⟩ ∧ nf ≤ cf)) (hpp : Hid (pp = none ∧ np = 0 ∧ cp = 0 ∨ pp = some ⟨pb, 0, none⟩ ∧ np ≤ cp))
    (M : Hid (w.rowIs mb 129 12 (MF tb ob ended (.slice fp nf cf) (.slice pp np cp) met (.iface 3 (.int .i64 y)) wai dea))) (R : Hid (w.rowIs rb 72 (5 * k) (RSF rb mb ob (fun _ => false))))
    (FL : Hid (Held w fb nf rb (fun i => 2 * i))) (PL : Hid (Held w pb np rb (fun i => 2 * i + 1)))
    (G : Hid (Got w cb gb ib cc 0 (.pointer none) .nilIface true))
    (o2 : w.cell? ⟨ob, 2, none⟩ = some (.string obj)) (o3 : w.cell? ⟨ob, 3, none⟩ = some (.pointer (some ⟨yb, 0, none⟩)))
    (o4 : w.cell? ⟨ob, 4, none⟩ = some (.func (.func 5) #[] #[.pointer (some ⟨cb, 0, none⟩), .pointer (some ⟨gb, 0, none⟩), .pointer (some ⟨ib, 0, none⟩), .pointer (some ⟨cc, 0, none⟩)]))
    (o11 : w.cell? ⟨ob, 11, none⟩ = some (.pointer (if hist then some ⟨hb, 0, none⟩ else none)))
    (y0 : w.cell? ⟨yb, 0, none⟩ = some (.slice (some ⟨nb, 0, none⟩) n ncap)) (hnm : w.cell? ⟨nb, ci, none⟩ = some (.string name))
    (t0 : w.cell? ⟨tb, 0, none⟩ = some (.pointer (some ⟨eb, 0, none⟩))) (t10 : w.cell? ⟨tb, 10, none⟩ = some (.pointer (if evicted then some ⟨xb, 0, none⟩ else none))) (ft : w.frozen? ⟨tb, 10, none⟩ = false)
    (t26 : w.cell? ⟨tb, 26, none⟩ = some (.pointer none)) (t27 : w.cell? ⟨tb, 27, none⟩ = some (.int .u64 0)) (t28 : w.cell? ⟨tb, 28, none⟩ = some (.bool false))
    (e2 : w.cell? ⟨eb, 2, none⟩ = some (.int .i32 0)) (fe : w.frozen? ⟨eb, 2, none⟩ = false)
    (H : Hid (hist = true → Tab w ∧ HistIn w hb yb ch b1 b2 b3 sb n)) (HN : Hid (met ||| bit < 2 ^ n ∧ wn < 2 ^ n ∧ dea < 2 ^ n))
    (hbits : Hid (bits .andNot .u64 (wai : Int) (dea : Int) = (wn : Int))) :
    Calls Ybad.prog 8 #[.agg #[.pointer (some ⟨ob, 0, none⟩), .pointer (some ⟨mb, 0, none⟩), .int .i64 (ci : Int)], .pointer (some ⟨bb, 0, none⟩)] w fun e w' => e = .returned (.tuple #[]) ∧ (evicted = true → w'.cell? ⟨tb, 10, none⟩ = some (.pointer (some ⟨xb, 0, none⟩))) ∧ (evicted = false → Evd w' w.heap.size tb bb ob bit obj name) ∧
      (ended = true → Off (fun b => b = mb ∨ (b = tb ∨ b = eb)) w w' ∧ w'.rowIs mb 129 12 (MF tb ob true (.slice fp nf cf) (.slice pp np cp) (met ||| bit) (.iface 3 (.int .i64 y)) wai dea)) ∧
      (ended = false → Off (fun b => (b = tb ∨ b = eb) ∨ Fin rb mb cb gb ib cc hb b1 b2 b3 hist b) w w' ∧ w'.rowIs rb 72 (5 * k) (RSF rb mb ob (fun _ => true)) ∧ w'.rowIs mb 129 12 (MF tb ob true (.slice fp 0 cf) (.slice pp 0 cp) (met ||| bit) (.iface 3 (.int .i64 y)) wai dea) ∧
        Got w' cb gb ib cc 1 (.pointer (some ⟨tb, 0, none⟩)) (.iface 3 (.int .i64 y)) false ∧ (hist = true → HistOut w' w.heap.size hb yb b1 b2 b3 n (met ||| bit) wn dea)) := by
  have ho := HO.out.a
  have hbb := HB.out
  have lmb : mb < w.heap.size := M.out.lt
  have m7 : w.cell? ⟨mb, 7, none⟩ = some (.int .u64 (met : Int)) := M.out.cell (by omega)
  have fm7 := M.out.frozen 7
  go_enter Ybad.func8, Ybad.ntmps8
  go_upto_region 1 with (fail)
  go_cut [] (fun wc => Off (fun b => b = mb) (w.alloc (.cells #[.pointer (some ⟨ob, 0, none⟩), .pointer (some ⟨mb, 0, none⟩), .int .i64 (ci : Int)] 135)) wc ∧ wc.rowIs mb 129 12 (MF tb ob ended (.slice fp nf cf) (.slice pp np cp) (met ||| bit) (.iface 3 (.int .i64 y)) wai dea))
  case first =>
    have hwith : Hid (∀ w : World, Calls Ybad.prog 11 #[.int .u64 (met : Int), .int .i64 (ci : Int)] w fun e w' => e = .returned (.int .u64 ((met ||| bit : Nat) : Int)) ∧ w' = w) := by
      have := HBit.out
      subst this
      exact fun w => with_any met ci w hmet (by omega)
    go_region_with (go_at_call 11; refine (hwith.out _).mono ?_; rintro e w' ⟨rfl, hw'⟩; replace hw' := hw'.symm; subst hw')
    all_goals
      go_wp2_with fail
      go_meet
      case rel =>
        refine ⟨(Off.alloc_set _ _ _ _ (by rfl)).drew, ((mf_met M.out _).alloc _).drew⟩
  case rest =>
    obtain ⟨V, hV⟩ : ∃ V, V = wc := ⟨_, rfl⟩
    subst hV
    obtain ⟨u, hu⟩ : ∃ u, u = w.alloc (.cells #[.pointer (some ⟨ob, 0, none⟩), .pointer (some ⟨mb, 0, none⟩), .int .i64 (ci : Int)] 135) := ⟨_, rfl⟩
    rw [← hu] at hcut
    have HL : Hid (u.rowIs w.heap.size 135 3 (LF ob mb ci)) := by rw [hu]; exact lf_made w ob mb ci
    have HU : Hid (Off (fun _ => False) w u) := by rw [hu]; exact (Off.refl _ _).alloc _
    have HC : Hid (Off (fun b => b = mb) u V ∧ V.rowIs mb 129 12 (MF tb ob ended (.slice fp nf cf) (.slice pp np cp) (met ||| bit) (.iface 3 (.int .i64 y)) wai dea)) := hcut
    clear hcut hu
    have HLV : Hid (V.rowIs w.heap.size 135 3 (LF ob mb ci)) := HC.out.1.row (by omega) HL.out
    have keep : ∀ {b o : Nat} {x : Value}, b ≠ mb → w.cell? ⟨b, o, none⟩ = some x → V.cell? ⟨b, o, none⟩ = some x := fun hb hx => HC.out.1.cell hb (HU.out.cell id hx)
    have l0 : V.cell? ⟨w.heap.size, 0, none⟩ = some (.pointer (some ⟨ob, 0, none⟩)) := HLV.out.cell (by omega)
    have l1 : V.cell? ⟨w.heap.size, 1, none⟩ = some (.pointer (some ⟨mb, 0, none⟩)) := HLV.out.cell (by omega)
    have l2 : V.cell? ⟨w.heap.size, 2, none⟩ = some (.int .i64 (ci : Int)) := HLV.out.cell (by omega)
    have vm0 : V.cell? ⟨mb, 0, none⟩ = some (.pointer (some ⟨tb, 0, none⟩)) := HC.out.2.cell (by omega)
    have vo2 := keep (by omega) o2
    have vo3 := keep (by omega) o3
    have vy0 := keep (by omega) y0
    have vnm := keep (by omega) hnm
    have vt0 := keep (by omega) t0
    have vt10 := keep (by omega) t10
    have vt26 := keep (by omega) t26
    have vt27 := keep (by omega) t27
    have vt28 := keep (by omega) t28
    have ve2 := keep (by omega) e2
    have hcin : (ci : Int) < (n : Int) := by omega
    have hci0 : (0 : Int) ≤ (ci : Int) := by omega
    have b0 : w.heap.size < V.heap.size := World.block_lt_of_cell? V _ l0
    have b1' : mb < V.heap.size := World.block_lt_of_cell? V _ vm0
    have b2' : ob < V.heap.size := World.block_lt_of_cell? V _ vo2
    have b3' : yb < V.heap.size := World.block_lt_of_cell? V _ vy0
    have b4' : nb < V.heap.size := World.block_lt_of_cell? V _ vnm
    have b5' : tb < V.heap.size := World.block_lt_of_cell? V _ vt0
    have b6' : eb < V.heap.size := World.block_lt_of_cell? V _ ve2
    have b0s : w.heap.size < V.heap.size + 1 := by omega
    have b1s : mb < V.heap.size + 1 := by omega
    have b2s : ob < V.heap.size + 1 := by omega
    have b3s : yb < V.heap.size + 1 := by omega
    have b4s : nb < V.heap.size + 1 := by omega
    have b5s : tb < V.heap.size + 1 := by omega
    have b6s : eb < V.heap.size + 1 := by omega
    have vft : V.frozen? ⟨tb, 10, none⟩ = false := by
      rw [World.frozen?_of_block (w := w) ((HC.out.1.block tb (Nat.lt_of_lt_of_le (World.block_lt_of_cell? w _ t0) HU.out.size) (by omega)).trans (HU.out.block tb (World.block_lt_of_cell? w _ t0) id))]; exact ft
    have vfe : V.frozen? ⟨eb, 2, none⟩ = false := by
      rw [World.frozen?_of_block (w := w) ((HC.out.1.block eb (Nat.lt_of_lt_of_le (World.block_lt_of_cell? w _ e2) HU.out.size) (by omega)).trans (HU.out.block eb (World.block_lt_of_cell? w _ e2) id))]; exact fe
    clear keep
    have hwith : Hid (∀ w : World, Calls Ybad.prog 11 #[.int .u64 0, .int .i64 (ci : Int)] w fun e w' => e = .returned (.int .u64 (bit : Int)) ∧ w' = w) := by
      intro w
      have := with_any 0 ci w (by omega) (by omega)
      rw [Nat.zero_or, ← HBit.out] at this
      exact this
    have hneb : ¬ eb = tb := by omega
    go_upto_region 2 with (fail)
    go_cut [] (fun wc => Off (fun b => b = mb ∨ (b = tb ∨ b = eb)) u wc ∧ wc.rowIs mb 129 12 (MF tb ob ended (.slice fp nf cf) (.slice pp np cp) (met ||| bit) (.iface 3 (.int .i64 y)) wai dea) ∧ (evicted = true → wc.cell? ⟨tb, 10, none⟩ = some (.pointer (some ⟨xb, 0, none⟩))) ∧ (evicted = false → Evd wc w.heap.size tb bb ob bit obj name))
    case first =>
      have nmb : Hid (¬ (mb = tb ∨ mb = eb)) := by show ¬ _; omega
      have nob : Hid (¬ (ob = tb ∨ ob = eb)) := by show ¬ _; omega
      have nyb : Hid (¬ (yb = tb ∨ yb = eb)) := by show ¬ _; omega
      have nnb : Hid (¬ (nb = tb ∨ nb = eb)) := by show ¬ _; omega
      have nlb : Hid (¬ (w.heap.size = tb ∨ w.heap.size = eb)) := by
        have := World.block_lt_of_cell? w _ t0
        have := World.block_lt_of_cell? w _ e2
        show ¬ _; omega
      clear ho hbb
      cases evicted with
      | true =>
        have vt10 : V.cell? ⟨tb, 10, none⟩ = some (.pointer (some ⟨xb, 0, none⟩)) := vt10
        go_region_held3 (fun w' => w'.cell? ⟨w.heap.size, 0, none⟩ = some (.pointer (some ⟨ob, 0, none⟩)) ∧ w'.cell? ⟨w.heap.size, 1, none⟩ = some (.pointer (some ⟨mb, 0, none⟩)) ∧ w'.cell? ⟨w.heap.size, 2, none⟩ = some (.int .i64 (ci : Int)) ∧
            w'.cell? ⟨mb, 0, none⟩ = some (.pointer (some ⟨tb, 0, none⟩)) ∧ w'.cell? ⟨ob, 2, none⟩ = some (.string obj) ∧ w'.cell? ⟨ob, 3, none⟩ = some (.pointer (some ⟨yb, 0, none⟩)) ∧ w'.cell? ⟨yb, 0, none⟩ = some (.slice (some ⟨nb, 0, none⟩) n ncap) ∧ w'.cell? ⟨nb, ci, none⟩ = some (.string name)) (first | go_simp | exact ⟨y0, y1, y2, y3, y4, y5, y6, y7⟩)
          (first
            | (go_at_call 11; refine (hwith.out _).mono ?_; rintro e w' ⟨rfl, hw'⟩; replace hw' := hw'.symm; subst hw')
            | (
              go_at_call 12
              refine (evict12_miss tb _ xb (.pointer (some ⟨V.heap.size, 0, none⟩)) _ ?_ ?_ ?_).mono ?_
              · go_simp
              · go_simp
              · go_simp
              rintro e w2 ⟨rfl, hw2⟩
              have hoff : Off (fun _ => False) V w2 := (by
                rw [hw2]
                exact (((Off.refl _ _).alloc _).alloc _).drew)
              clear hw2
              have y0 := hoff.cell id l0
              have y1 := hoff.cell id l1
              have y2 := hoff.cell id l2
              have y3 := hoff.cell id vm0
              have y4 := hoff.cell id vo2
              have y5 := hoff.cell id vo3
              have y6 := hoff.cell id vy0
              have y7 := hoff.cell id vnm))
        all_goals
          go_wp2_with fail
          go_meet
          case rel => exact ⟨(HC.out.1.mono (fun _ _ h => .inl h)).trans (hoff.mono (fun _ _ h => h.elim)), hoff.row id HC.out.2, fun _ => hoff.cell id vt10, by simp⟩
      | false =>
        have vt10 : V.cell? ⟨tb, 10, none⟩ = some (.pointer none) := vt10
        go_region_held3 (fun w' => w'.cell? ⟨w.heap.size, 0, none⟩ = some (.pointer (some ⟨ob, 0, none⟩)) ∧ w'.cell? ⟨w.heap.size, 1, none⟩ = some (.pointer (some ⟨mb, 0, none⟩)) ∧ w'.cell? ⟨w.heap.size, 2, none⟩ = some (.int .i64 (ci : Int)) ∧
            w'.cell? ⟨mb, 0, none⟩ = some (.pointer (some ⟨tb, 0, none⟩)) ∧ w'.cell? ⟨ob, 2, none⟩ = some (.string obj) ∧ w'.cell? ⟨ob, 3, none⟩ = some (.pointer (some ⟨yb, 0, none⟩)) ∧ w'.cell? ⟨yb, 0, none⟩ = some (.slice (some ⟨nb, 0, none⟩) n ncap) ∧ w'.cell? ⟨nb, ci, none⟩ = some (.string name)) (first | go_simp | exact ⟨y0, y1, y2, y3, y4, y5, y6, y7⟩)
          (first
            | (go_at_call 11; refine (hwith.out _).mono ?_; rintro e w' ⟨rfl, hw'⟩; replace hw' := hw'.symm; subst hw')
            | (
              go_at_call 12
              refine (evict12_hit eb tb (V.heap.size + 1) (.pointer (some ⟨V.heap.size, 0, none⟩)) _ ?_ ?_ hneb ?_ ?_ ?_ ?_ ?_ ?_ ?_ ?_ ?_).mono ?_
              · exact (((((Off.refl (fun _ => False) V).alloc _).alloc _).drew).cell id ve2 |> World.block_lt_of_cell? _ _)
              · exact (((((Off.refl (fun _ => False) V).alloc _).alloc _).drew).cell id vt0 |> World.block_lt_of_cell? _ _)
              · go_simp
              · go_simp
              · go_simp
              · go_simp
              · go_simp
              · go_simp
              · go_simp
              · go_simp
              · go_simp
              rintro e w2 ⟨rfl, hw2⟩
              have hoff : Off (fun b => b = tb ∨ b = eb) V w2 := (by
                rw [hw2]
                exact evictW_off (((Off.refl _ _).alloc _).alloc _).drew (.inl rfl) (.inr rfl))
              have hevd : Hid (Evd w2 w.heap.size tb bb ob bit obj name) := (by
                rw [hw2]
                exact evd_mk (Nat.le_of_lt b0) hneb vt10 b6')
              clear hw2
              have y0 := hoff.cell nlb.out l0
              have y1 := hoff.cell nlb.out l1
              have y2 := hoff.cell nlb.out l2
              have y3 := hoff.cell nmb.out vm0
              have y4 := hoff.cell nob.out vo2
              have y5 := hoff.cell nob.out vo3
              have y6 := hoff.cell nyb.out vy0
              have y7 := hoff.cell nnb.out vnm))
        all_goals
          go_wp2_with fail
          go_meet
          case rel => exact ⟨(HC.out.1.mono (fun _ _ h => .inl h)).trans (hoff.mono (fun _ _ h => .inr h)), hoff.row nmb.out HC.out.2, by simp, fun _ => hevd.out⟩
    case rest =>
      obtain ⟨X, hX⟩ : ∃ X, X = wc := ⟨_, rfl⟩
      subst hX
      have HD : Hid (Off (fun b => b = mb ∨ (b = tb ∨ b = eb)) u X ∧ X.rowIs mb 129 12 (MF tb ob ended (.slice fp nf cf) (.slice pp np cp) (met ||| bit) (.iface 3 (.int .i64 y)) wai dea) ∧ (evicted = true → X.cell? ⟨tb, 10, none⟩ = some (.pointer (some ⟨xb, 0, none⟩))) ∧ (evicted = false → Evd X w.heap.size tb bb ob bit obj name)) := hcut
      clear hcut
      have ltb := World.block_lt_of_cell? w _ t0
      have leb := World.block_lt_of_cell? w _ e2
      have HLX : Hid (X.rowIs w.heap.size 135 3 (LF ob mb ci)) := HD.out.1.row (by simp only at ltb leb; omega) HL.out
      have HX : Hid (Off (fun b => b = mb ∨ (b = tb ∨ b = eb)) w X) := (HU.out.mono (fun _ _ h => h.elim)).trans HD.out.1
      have l0 : X.cell? ⟨w.heap.size, 0, none⟩ = some (.pointer (some ⟨ob, 0, none⟩)) := HLX.out.cell (by omega)
      have l1 : X.cell? ⟨w.heap.size, 1, none⟩ = some (.pointer (some ⟨mb, 0, none⟩)) := HLX.out.cell (by omega)
      have hsz : w.heap.size ≤ X.heap.size := HX.out.size
      have m2 : X.cell? ⟨mb, 2, none⟩ = some (.bool ended) := HD.out.2.1.cell (by omega)
      simp only at ltb leb
      cases ended with
      | true =>
        go_wp2_with (first | (go_at_call 13; refine (finish_ended ob mb X m2).mono ?_; rintro e w' ⟨⟨v, rfl⟩, hoff⟩))
        go_end0
        exact ⟨rfl, fun h => hoff.cell id (HD.out.2.2.1 h), fun h => (HD.out.2.2.2 h).off hoff id (fun _ _ => id), HX.out.trans (hoff.mono (fun _ _ h => h.elim)), hoff.row id HD.out.2.1⟩
      | false =>
        have hfin : Hid (Calls Ybad.prog 13 #[.pointer (some ⟨ob, 0, none⟩), .pointer (some ⟨mb, 0, none⟩), .bool false] X fun e w' => (∃ v, e = .returned v) ∧ Off (Fin rb mb cb gb ib cc hb b1 b2 b3 hist) X w' ∧
            w'.rowIs rb 72 (5 * k) (RSF rb mb ob (fun _ => true)) ∧ w'.rowIs mb 129 12 (MF tb ob true (.slice fp 0 cf) (.slice pp 0 cp) (met ||| bit) (.iface 3 (.int .i64 y)) wai dea) ∧
            Got w' cb gb ib cc 1 (.pointer (some ⟨tb, 0, none⟩)) (.iface 3 (.int .i64 y)) false ∧ (hist = true → HistOut w' (X.heap.size + 1) hb yb b1 b2 b3 n (met ||| bit) wn dea)) := by
          refine finish_live yb sb cb gb ib cc ob tb mb rb fb pb hb ch b1 b2 b3 k nf np cf cp n (met ||| bit) wai dea wn hist fp pp y X hk HO HH HK hfp hpp HD.out.2.1 (HX.out.row (by omega) R.out) (FL.out.off HX.out (by omega)) (PL.out.off HX.out (by omega))
            (G.out.off HX.out (by omega) (by omega) (by omega) (by omega)) (HX.out.cell (by omega) o4) (HX.out.cell (by omega) o11) ?_ ⟨by omega, hn64, HN.out⟩ hbits.out
          intro hh
          have hq := (HH.out hh).a
          exact ⟨fun i hi => HX.out.cell (by omega) ((H.out hh).1 i hi), (H.out hh).2.off HX.out (by omega) (by omega) (by omega) (by omega) (by omega) (by omega) (by omega)⟩
        have nfin : Hid (¬ Fin rb mb cb gb ib cc hb b1 b2 b3 hist tb) := by
          show ¬ _
          rintro (h | h | h | h | h | h | ⟨hh, h⟩)
          · omega
          · omega
          · omega
          · omega
          · omega
          · omega
          · have hq := (HH.out hh).a
            omega
        have nnew : Hid (∀ k, w.heap.size ≤ k → ¬ Fin rb mb cb gb ib cc hb b1 b2 b3 hist k) := by
          intro q hq
          have := R.out.lt
          have := G.out.r1.lt
          have := G.out.r2.lt
          have := G.out.r3.lt
          have := G.out.r4.lt
          rintro (h | h | h | h | h | h | ⟨hh, h⟩)
          · omega
          · omega
          · omega
          · omega
          · omega
          · omega
          · have h0 := (H.out hh).2
            have := h0.row.lt
            have := h0.r1.lt
            have := h0.r2.lt
            have := h0.r3.lt
            omega
        clear ho hbb
        go_wp2_with (first | (go_at_call 13; refine hfin.out.mono ?_; rintro e w' ⟨⟨v, rfl⟩, hoff, hrs, hm, hg, hh⟩))
        go_end0
        refine ⟨rfl, fun h => hoff.cell nfin.out (HD.out.2.2.1 h), fun h => (HD.out.2.2.2 h).off hoff nfin.out nnew.out, (HX.out.mono ?_).trans (hoff.mono (fun _ _ h => .inr h)), hrs, hm, hg, fun h => (hh h).lo (by omega)⟩
        intro b _ h
        rcases h with h | h
        · exact .inr (.inr (.inl h))
        · exact .inl h
end Go.Proofs.YbulkdgjkDoor
