import Derived.Test.YbulkdgouHeld
import Derived.Maps.RangeWalk
import Derived.Maps.OwnSet
namespace Go.Proofs.Ybulkdgou
open Go.RowKit Go.Maps
namespace SortA

theorem law3 : Keyed Yba.prog 3 := int_keyed Yba.underlying3
theorem wf64 {z : Nat} (h : z < 8) : (Lit.int .i64 (z : Int)).wf = true := WalkArith.wf_i64 (by omega)
theorem zero22 (w : World) : (zeroValue 22).run Yba.prog w = .ok (.slice none 0 0) w := by kernel_rfl

theorem range_upd {p q : Nat → Bool} {z : Nat} (hz : p z = false) (hq : q z = true) (ho : ∀ y, y ≠ z → q y = p y) : ∀ n, z < n → ((List.range n).filter q).length = ((List.range n).filter p).length + 1 := by
  intro n
  induction n with
  | zero => intro h; omega
  | succ n ih =>
    intro h
    rw [List.range_succ, List.filter_append, List.filter_append, List.length_append, List.length_append]
    by_cases e : z = n
    · subst e
      have e1 : (List.range z).filter q = (List.range z).filter p := List.filter_congr fun y hy => ho y (by have := List.mem_range.1 hy; omega)
      rw [e1]
      simp [hz, hq]
    · rw [ih (by omega)]
      have e1 : q n = p n := ho n (fun h => e h.symm)
      simp only [List.filter_cons, List.filter_nil, e1]
      omega

/-- A map of ints to counts: the keys are below 8. -/
def HM (w : World) (b n : Nat) (D : DataW Unit) (c : Nat → Nat) : Prop :=
  w.ownsMap Yba.prog 3 (plainElem Yba.prog 3) b n D ∧ (∀ x : Int, Maps.has D (.int .i64 x) = true → ∃ z : Nat, z < 8 ∧ x = (z : Int) ∧ 0 < c z) ∧ (∀ z : Nat, z < 8 → 0 < c z → Maps.has D (.int .i64 (z : Int)) = true) ∧
    ∀ z : Nat, z < 8 → D.atKey (.int .i64 (z : Int)) (.lit (.int .i64 0)) = .lit (.int .i64 (c z : Int))
theorem HM.made (w : World) : HM (w.alloc (.map #[] 0)) w.heap.size 0 (.map []) (fun _ => 0) :=
  ⟨World.ownsMap_made _ _ _ _, fun x h => by simp [Maps.has] at h, fun z _ h => by simp at h, fun z _ => rfl⟩
theorem HM.kept {w w' : World} {b n : Nat} {D : DataW Unit} {c : Nat → Nat} {row : Option Nat} (h : HM w b n D c) (hg : w.grownBy w' row) (hne : some b ≠ row) : HM w' b n D c := ⟨h.1.kept hg hne, h.2⟩
theorem HM.look {w : World} {b n z : Nat} {D : DataW Unit} {c : Nat → Nat} (h : HM w b n D c) (hz : z < 8) : (Instr.lookup 72 (.map (some b)) (.int .i64 (z : Int)) false).run Yba.prog w = .ok (.int .i64 (c z : Int)) w := by
  obtain ⟨a, hrun, hat, _⟩ := h.1.lookup_int law3 (t := 72) Yba.underlying72 Yba.underlying3 (zero3 w) (keyOf_int_mk Yba.underlying3 (wf64 hz))
  rw [h.2.2.2 z hz] at hat
  injection hat with h1
  injection h1 with _ h2
  rw [hrun, h2]
theorem HM.store {w : World} {b n z : Nat} {D : DataW Unit} {c : Nat → Nat} (h : HM w b n D c) (hz : z < 8) (hn : n < 1000000000) (hc : c z < 100000) : ∃ w', (Instr.mapUpdate 72 (.map (some b)) (.int .i64 (z : Int)) (.int .i64 ((c z : Int) + 1))).run Yba.prog w = .ok () w' ∧ w.grownBy w' (some b) ∧
    ∃ D', HM w' b (n + 1) D' (fun y => if y = z then c y + 1 else c y) := by
  have hk := keyOf_int_mk (k := 3) Yba.underlying3 (wf64 hz)
  obtain ⟨w', hrun, r1, r2⟩ := h.1.store law3 (t := 72) Yba.underlying72 (by unfold maxLen; omega) hk (plainElem_int Yba.underlying3 (a := (c z : Int) + 1) (WalkArith.wf_i64 (by omega)))
  refine ⟨w', hrun, r2.grown, _, r1, fun x hx => ?_, fun y hy hc => ?_, fun y hy => ?_⟩
  · by_cases e : x = (z : Int)
    · exact ⟨z, hz, e, by simp⟩
    · rw [has_put_other (by intro h; injection h with _ h2; exact e h2)] at hx
      obtain ⟨y, h1, h2, h3⟩ := h.2.1 x hx
      refine ⟨y, h1, h2, ?_⟩
      show 0 < (if y = z then c y + 1 else c y)
      split <;> omega
  · by_cases e : y = z
    · subst e
      exact has_put_same (k := .int .i64 (y : Int)) h.1.isMap trivial _
    · rw [has_put_other (by intro h; injection h with _ h2; exact e (by omega))]
      exact h.2.2.1 y hy (by simpa [e] using hc)
  · by_cases e : y = z
    · subst e
      rw [atKey_put_same (k := .int .i64 (y : Int)) h.1.isMap trivial]
      simp
    · rw [atKey_put_other (by intro h; injection h with _ h2; exact e (by omega)), h.2.2.2 y hy]
      simp [e]

/-- An element as it lies. -/
def raw (v : Value) : Option (DataW Value × List MemPlace) := some (.held v, [])
/-- A map of ints to slices, as it lies; the keys are below 8. -/
def WMp (w : World) (b n : Nat) (f : Nat → Option Value) : Prop :=
  ∃ D : DataW Value, w.ownsMap Yba.prog 3 raw b n D ∧ Maps.size D = ((List.range 8).filter fun z => (f z).isSome).length ∧ ∀ z : Nat, z < 8 → Maps.has D (.int .i64 (z : Int)) = (f z).isSome ∧ D.atKey (.int .i64 (z : Int)) (.held (.slice none 0 0)) = .held ((f z).getD (.slice none 0 0))
theorem WMp.made (w : World) : WMp (w.alloc (.map #[] 0)) w.heap.size 0 (fun _ => none) :=
  ⟨_, World.ownsMap_made _ _ _ _, rfl, fun _ _ => ⟨rfl, rfl⟩⟩
theorem WMp.kept {w w' : World} {b n : Nat} {f : Nat → Option Value} {row : Option Nat} (h : WMp w b n f) (hg : w.grownBy w' row) (hne : some b ≠ row) : WMp w' b n f := by
  obtain ⟨D, h1, h2⟩ := h
  exact ⟨D, h1.kept hg hne, h2⟩
theorem WMp.of_block {w w' : World} {b n : Nat} {f : Nat → Option Value} (h : WMp w b n f) (hg : w'.heap[b]? = w.heap[b]?) : WMp w' b n f := by
  obtain ⟨D, ⟨es, clock, hb, r⟩, h2⟩ := h
  exact ⟨D, ⟨es, clock, hg.trans hb, r⟩, h2⟩
theorem WMp.lt {w : World} {b n : Nat} {f : Nat → Option Value} (h : WMp w b n f) : b < w.heap.size := by
  obtain ⟨D, h1, _⟩ := h
  exact h1.lt
theorem WMp.look {w : World} {b n z : Nat} {f : Nat → Option Value} (h : WMp w b n f) (hz : z < 8) : (Instr.lookup 58 (.map (some b)) (.int .i64 (z : Int)) false).run Yba.prog w = .ok ((f z).getD (.slice none 0 0)) w := by
  obtain ⟨D, h1, h2, h3⟩ := h
  obtain ⟨v, ps, hrun, hv⟩ := h1.lookup law3 (t := 58) Yba.underlying58 (zero22 w) (zd := .held (.slice none 0 0)) (zp := []) rfl (keyOf_int_mk Yba.underlying3 (wf64 hz))
  rw [(h3 z hz).2] at hv
  simp only [raw, Option.some.injEq, Prod.mk.injEq, DataW.held.injEq] at hv
  rw [hrun, hv.1]
theorem WMp.look_ok {w : World} {b n z : Nat} {f : Nat → Option Value} (h : WMp w b n f) (hz : z < 8) : (Instr.lookup 58 (.map (some b)) (.int .i64 (z : Int)) true).run Yba.prog w = .ok (.tuple #[(f z).getD (.slice none 0 0), .bool (f z).isSome]) w := by
  obtain ⟨D, h1, h2, h3⟩ := h
  obtain ⟨v, ps, hrun, hv⟩ := h1.look_ok law3 (t := 58) Yba.underlying58 (zero22 w) (zd := .held (.slice none 0 0)) (zp := []) rfl (keyOf_int_mk Yba.underlying3 (wf64 hz))
  rw [(h3 z hz).2] at hv
  simp only [raw, Option.some.injEq, Prod.mk.injEq, DataW.held.injEq] at hv
  rw [hrun, hv.1, (h3 z hz).1]
theorem WMp.len {w : World} {b n : Nat} {f : Nat → Option Value} (h : WMp w b n f) (ty : TypeId) : (Builtin.len_ #[58] ty #[.map (some b)]).run Yba.prog w = .ok (.int .i64 (((List.range 8).filter fun z => (f z).isSome).length : Nat)) w := by
  obtain ⟨D, h1, h2, h3⟩ := h
  rw [h1.len (t := 58) Yba.underlying58 ty, h2]
theorem WMp.store {w : World} {b n z : Nat} {f : Nat → Option Value} (h : WMp w b n f) (hz : z < 8) (hn : n < 1000000000) (v : Value) : ∃ w', (Instr.mapUpdate 58 (.map (some b)) (.int .i64 (z : Int)) v).run Yba.prog w = .ok () w' ∧ w.grownBy w' (some b) ∧ WMp w' b (n + 1) (fun y => if y = z then some v else f y) := by
  obtain ⟨D, h1, h2, h3⟩ := h
  have hk := keyOf_int_mk (k := 3) Yba.underlying3 (wf64 hz)
  obtain ⟨w', hrun, r1, r2⟩ := h1.store law3 (t := 58) Yba.underlying58 (by unfold maxLen; omega) hk (val := v) (d := .held v) (ps := []) rfl
  refine ⟨w', hrun, r2.grown, _, r1, ?_, fun y hy => ?_⟩
  · rw [size_put (h1.tidy law3), (h3 z hz).1, h2]
    by_cases e : (f z).isSome = true
    · rw [if_pos e]
      congr 1
      apply List.filter_congr
      intro y _
      by_cases e2 : y = z
      · subst e2; simp [e]
      · simp [e2]
    · rw [if_neg e]
      exact (range_upd (p := fun y => (f y).isSome) (q := fun y => (if y = z then some v else f y).isSome) (z := z) (by simpa using e) (by simp) (fun y hy => by simp [hy]) 8 hz).symm
  · by_cases e : y = z
    · subst e
      rw [has_put_same (k := .int .i64 (y : Int)) h1.isMap trivial, atKey_put_same (k := .int .i64 (y : Int)) h1.isMap trivial]
      simp
    · rw [has_put_other (by intro h; injection h with _ h2; exact e (by omega)), atKey_put_other (by intro h; injection h with _ h2; exact e (by omega)), (h3 y hy).1, (h3 y hy).2]
      simp [e]

/-- A slice that holds a list of ints, in a block from lo on. -/
def Sl (lo : Nat) (w : World) (v : Value) (l : List Nat) : Prop :=
  ∃ p c, v = .slice p l.length c ∧ (0 < l.length → ∃ b, p = some ⟨b, 0, none⟩ ∧ lo ≤ b ∧ b < w.heap.size ∧ ∀ i, i < l.length → w.cell? ⟨b, i, none⟩ = some (.int .i64 ((l.getD i 0 : Nat) : Int)))
theorem Sl.kept {lo : Nat} {w w' : World} {v : Value} {l : List Nat} {row : Option Nat} (h : Sl lo w v l) (hg : w.grownBy w' row) (hr : ∀ j, row = some j → j < lo) : Sl lo w' v l := by
  obtain ⟨p, c, rfl, h2⟩ := h
  refine ⟨p, c, rfl, fun h0 => ?_⟩
  obtain ⟨b, hp, h3, h4, h5⟩ := h2 h0
  exact ⟨b, hp, h3, Nat.lt_of_lt_of_le h4 hg.size, fun i hi => (World.cell?_of_block (a := ⟨b, i, none⟩) (hg.block b h4 (fun e => by have := hr b e.symm; omega))).trans (h5 i hi)⟩
theorem Sl.of_owns {lo base n : Nat} {w : World} {v : Value} {l : List Nat} (hn : n = l.length) (h : w.ownsRow base 3 1 v n (l.map fun (z : Nat) => Value.int .i64 (z : Int))) (hb : lo ≤ base) : Sl lo w v l := by
  subst hn
  rcases h.2 with ⟨rfl, h0⟩ | ⟨g, cap, cur, rfl, hg, hh, _⟩
  · exact ⟨none, 0, by rw [h0], fun h => by omega⟩
  · obtain ⟨h1, h2, h3⟩ := prow_of_owns rfl h
    exact ⟨_, _, rfl, fun _ => ⟨g, rfl, Nat.le_trans hb h2, h1.lt, fun i hi => h1.cell hi⟩⟩

/-- The store at the operation. -/
theorem wpList_store_wm (w : World) {ops : Array Oper} {rest : List Oper} {o : Oper} {a : Act} {Q : Exit → Act → World → Prop} (hg : o.guard = none) (m x v : Operand) (hop : o.op = Op.mapUpdate 58 m x v) (b n z : Nat) (f : Nat → Option Value) (v0 : Value)
    (hm : a.eval m = .map (some b)) (hx : a.eval x = .int .i64 (z : Int)) (hv : a.eval v = v0) (h : WMp w b n f) (hz : z < 8) (hn : n < 1000000000)
    (hK : ∀ w', w.grownBy w' (some b) → WMp w' b (n + 1) (fun y => if y = z then some v0 else f y) → wpList Yba.prog ops Q rest (a.put o.dst undef) w') : wpList Yba.prog ops Q (o :: rest) a w := by
  refine wpList_plain hg fun K' hK' => ?_
  obtain ⟨w', hrun, r1, r2⟩ := h.store hz hn v0
  unfold Oper.wp
  simp [execOp, hop, hm, hx, hv, hrun, Result.andThen]
  exact hK' _ _ (hK w' r1 r2)
theorem wpList_store_hm (w : World) {ops : Array Oper} {rest : List Oper} {o : Oper} {a : Act} {Q : Exit → Act → World → Prop} (hg : o.guard = none) (m x v : Operand) (hop : o.op = Op.mapUpdate 72 m x v) (b n z : Nat) (D : DataW Unit) (c : Nat → Nat)
    (hm : a.eval m = .map (some b)) (hx : a.eval x = .int .i64 (z : Int)) (hv : a.eval v = .int .i64 ((c z : Int) + 1)) (h : HM w b n D c) (hz : z < 8) (hn : n < 1000000000) (hc : c z < 100000)
    (hK : ∀ w', w.grownBy w' (some b) → (∃ D', HM w' b (n + 1) D' (fun y => if y = z then c y + 1 else c y)) → wpList Yba.prog ops Q rest (a.put o.dst undef) w') : wpList Yba.prog ops Q (o :: rest) a w := by
  refine wpList_plain hg fun K' hK' => ?_
  obtain ⟨w', hrun, r1, r2⟩ := h.store hz hn hc
  unfold Oper.wp
  simp [execOp, hop, hm, hx, hv, hrun, Result.andThen]
  exact hK' _ _ (hK w' r1 r2)

theorem HM.congr {w : World} {b n : Nat} {D : DataW Unit} {c c' : Nat → Nat} (h : HM w b n D c) (e : ∀ z, z < 8 → c z = c' z) : HM w b n D c' :=
  ⟨h.1, fun x hx => by obtain ⟨z, h1, h2, h3⟩ := h.2.1 x hx; exact ⟨z, h1, h2, by rw [← e z h1]; exact h3⟩, fun z hz hc => h.2.2.1 z hz (by rw [e z hz]; exact hc), fun z hz => by rw [← e z hz]; exact h.2.2.2 z hz⟩
theorem sameKey_nat (y z : Nat) : (Lit.int .i64 (y : Int)).sameKey (.int .i64 (z : Int)) = decide (y = z) := by
  by_cases e : y = z
  · subst e; simp [Lit.sameKey]
  · have e' : ¬ ((y : Int) = (z : Int)) := by omega
    simpa [Lit.sameKey, e] using e'

/-- How many of the first i items hold zone z. -/
def cn (mk : Nat → Nat) (i z : Nat) : Nat := ((List.range i).filter fun j => (mk j).testBit z).length
theorem cn_succ (mk : Nat → Nat) (i z : Nat) : cn mk (i + 1) z = cn mk i z + if (mk i).testBit z then 1 else 0 := by
  unfold cn
  rw [List.range_succ, List.filter_append, List.length_append]
  by_cases h : (mk i).testBit z <;> simp [h]
theorem cn_le (mk : Nat → Nat) (i z : Nat) : cn mk i z ≤ i := by
  have := List.length_filter_le (fun j => (mk j).testBit z) (List.range i)
  simpa [cn] using this
/-- .. and of item i's zones the first j. -/
def cj (mk : Nat → Nat) (i j z : Nat) : Nat := cn mk i z + if z ∈ (zlist (mk i) 8).take j then 1 else 0
theorem cj_zero (mk : Nat → Nat) (i : Nat) : cj mk i 0 = cn mk i := by funext z; simp [cj]
theorem cj_le (mk : Nat → Nat) (i j z : Nat) : cj mk i j z ≤ i + 1 := by
  have := cn_le mk i z
  unfold cj
  split <;> omega
theorem cj_succ (mk : Nat → Nat) (i j z : Nat) (hj : j < (zlist (mk i) 8).length) (hz : z = (zlist (mk i) 8).getD j 0) : (fun y => if y = z then cj mk i j y + 1 else cj mk i j y) = cj mk i (j + 1) := by
  have hnd : (zlist (mk i) 8).Nodup := List.Pairwise.filter _ List.nodup_range
  rw [getD_at hj] at hz
  have hout : z ∉ (zlist (mk i) 8).take j := by
    rw [hz]
    intro hm
    obtain ⟨a, ha, e⟩ := List.getElem_of_mem hm
    rw [List.getElem_take] at e
    have h1 : a < j := by rw [List.length_take] at ha; omega
    have := (List.getElem_inj hnd).1 e
    omega
  funext y
  unfold cj
  rw [List.take_add_one, List.getElem?_eq_getElem hj, ← hz]
  by_cases e : y = z
  · subst e
    simp [hout]
  · simp [e]
theorem cj_all (mk : Nat → Nat) (i z : Nat) (hz : z < 8) : cj mk i (zlist (mk i) 8).length z = cn mk (i + 1) z := by
  rw [cn_succ]
  unfold cj
  rw [List.take_length]
  have : (z ∈ zlist (mk i) 8) ↔ (mk i).testBit z = true := by rw [mem_zlist]; exact ⟨fun h => h.2, fun h => ⟨hz, h⟩⟩
  simp only [this]
/-- The items among the first j that do not hold z. -/
def wo (mk it : Nat → Nat) (j z : Nat) : List Nat := ((List.range j).filter fun i => !(mk i).testBit z).map it
theorem wo_succ (mk it : Nat → Nat) (j z : Nat) : wo mk it (j + 1) z = if (mk j).testBit z then wo mk it j z else wo mk it j z ++ [it j] := by
  unfold wo
  rw [List.range_succ, List.filter_append, List.map_append]
  by_cases h : (mk j).testBit z <;> simp [h]
theorem wo_len (mk it : Nat → Nat) (j z : Nat) : (wo mk it j z).length ≤ j := by
  have := List.length_filter_le (fun i => !(mk i).testBit z) (List.range j)
  simpa [wo] using this
end SortA
end Go.Proofs.Ybulkdgou
