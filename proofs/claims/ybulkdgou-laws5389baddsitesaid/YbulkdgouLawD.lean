import Derived.Test.YbulkdgouLawC
import Derived.ChangeKeysEq
namespace Go.Proofs.Ybulkdgou
open Go.RowKit
namespace SortA
theorem cells3 : Yba.prog.cellsOf 3 = 1 := by kernel_rfl
theorem arr_eqIn (w : World) (a b : Nat) : (Op.equalIn 10000 44 (.agg #[.int .i64 (a : Int), .int .i64 (b : Int)]) (.agg #[.int .i64 (a : Int), .int .i64 (b : Int)])).run Yba.prog w = .ok true w := by
  obtain ⟨i, hi, hz, h1, h2⟩ := info_parts info3
  have h := run_equalIn_array (P := Yba.prog) w 9999 #[.int .i64 (a : Int), .int .i64 (b : Int)] #[.int .i64 (a : Int), .int .i64 (b : Int)] Yba.underlying44 hi
  rw [cells3] at h
  rw [h]
  simp [Op.eqItems, List.range, List.range.loop, part, isAgg, run_underlying Yba.underlying3, run_equalIn_int, Yba.underlying3]
theorem arr_eq (w : World) (a b : Nat) : (binOp .neq 44 (.agg #[.int .i64 (a : Int), .int .i64 (b : Int)]) (.agg #[.int .i64 (a : Int), .int .i64 (b : Int)])).run Yba.prog w = .ok (.bool false) w := by
  obtain ⟨i, hi, hz, h1, h2⟩ := info_parts info3
  rw [run_neq_struct]
  have h := run_equalIn_array (P := Yba.prog) w 9999 #[.int .i64 (a : Int), .int .i64 (b : Int)] #[.int .i64 (a : Int), .int .i64 (b : Int)] Yba.underlying44 hi
  rw [cells3] at h
  rw [h]
  simp [Op.eqItems, List.range, List.range.loop, part, isAgg, run_underlying Yba.underlying3, run_equalIn_int, Yba.underlying3]

/-- The state of the law's loop over the masks. -/
structure W14 (E : World) (M : Nat → Nat) (O : List Nat) (v : Nat) (s29 s30 : Value) (val : Nat → Value) (wr : World) : Prop where
  bel : Below E.heap.size E wr
  wm : wr.ownsRow E.heap.size 3 1 s30 (WMb M O v).length ((WMb M O v).map fun (z : Nat) => Value.int .i64 (z : Int))
  wt : wr.ownsRow E.heap.size 22 1 s29 (WMb M O v).length ((List.range (WMb M O v).length).map val)
  each : ∀ j, j < (WMb M O v).length → wr.ownsRow E.heap.size 3 1 (val j) (fv M O ((WMb M O v).getD j 0)).length ((fv M O ((WMb M O v).getD j 0)).map fun (z : Nat) => Value.int .i64 (z : Int))
  dist : ∀ j, j < (WMb M O v).length → (val j).ownBlock = none ∨ (val j).ownBlock ≠ s30.ownBlock
theorem W14.start (E : World) (M : Nat → Nat) (O : List Nat) : W14 E M O 0 (.slice none 0 0) (.slice none 0 0) (fun _ => .slice none 0 0) E :=
  ⟨Below.refl _ _, World.ownsRow_nil _ _ _ _, World.ownsRow_nil _ _ _ _, fun j hj => by simp [WMb] at hj, fun j hj => by simp [WMb] at hj⟩
theorem W14.skip {E W X : World} {M : Nat → Nat} {O : List Nat} {v : Nat} {s29 s30 : Value} {val : Nat → Value} (h : W14 E M O v s29 s30 val W) (hg : W.grownBy X none) (h0 : fv M O v = []) : W14 E M O (v + 1) s29 s30 val X := by
  have e : WMb M O (v + 1) = WMb M O v := by rw [WMb_succ, if_pos h0]
  have hb : ∀ b, b < W.heap.size → X.heap[b]? = W.heap[b]? := fun b hb => hg.block b hb (by simp)
  refine ⟨h.bel.grown hg h.bel.size (fun k hk => by cases hk), ?_, ?_, ?_, ?_⟩ <;> rw [e]
  · exact owns_of_block h.wm (fun b hb' => hb b (h.wm.lt b hb').2)
  · exact owns_of_block h.wt (fun b hb' => hb b (h.wt.lt b hb').2)
  · exact fun j hj => owns_of_block (h.each j hj) (fun b hb' => hb b ((h.each j hj).lt b hb').2)
  · exact h.dist
theorem W14.add {E W X X1 X2 : World} {M : Nat → Nat} {O : List Nat} {v g1 c1 g2 c2 : Nat} {s29 s30 s32 : Value} {val : Nat → Value} {o1 o2 : Obj} (h : W14 E M O v s29 s30 val W) (hg : W.grownBy X none) (h0 : fv M O v ≠ [])
    (h32 : X.ownsRow W.heap.size 3 1 s32 (fv M O v).length ((fv M O v).map fun (z : Nat) => Value.int .i64 (z : Int))) (h1 : (X.alloc o1).grownBy X1 s29.ownBlock)
    (own1 : X1.ownsRow E.heap.size 22 1 (.slice (some ⟨g1, 0, none⟩) ((WMb M O v).length + 1) c1) ((WMb M O v).length + 1) ((List.range (WMb M O v).length).map val ++ [s32])) (h2 : (X1.alloc o2).grownBy X2 s30.ownBlock) (hat2 : s30.ownBlock = some g2 ∨ g2 = X1.heap.size + 1)
    (own2 : X2.ownsRow E.heap.size 3 1 (.slice (some ⟨g2, 0, none⟩) ((WMb M O v).length + 1) c2) ((WMb M O v).length + 1) (((WMb M O v).map fun (z : Nat) => Value.int .i64 (z : Int)) ++ [.int .i64 (v : Int)])) :
    W14 E M O (v + 1) (.slice (some ⟨g1, 0, none⟩) ((WMb M O v).length + 1) c1) (.slice (some ⟨g2, 0, none⟩) ((WMb M O v).length + 1) c2) (fun j => if j = (WMb M O v).length then s32 else val j) X2 := by
  have e : WMb M O (v + 1) = WMb M O v ++ [v] := by rw [WMb_succ, if_neg h0]
  have hlen : (WMb M O v ++ [v]).length = (WMb M O v).length + 1 := by simp
  have hall1 : X.grownBy X1 s29.ownBlock := (World.grownBy_alloc X o1 s29.ownBlock).andThen h1 (fun j hj => .inr hj)
  have hall2 : X1.grownBy X2 s30.ownBlock := (World.grownBy_alloc X1 o2 s30.ownBlock).andThen h2 (fun j hj => .inr hj)
  have hE := h.bel.size
  have hWX := hg.size
  have hX1 := hall1.size
  have w29 := owns_of_block h.wt (fun b hb' => hg.block b (h.wt.lt b hb').2 (by simp))
  have w30 := owns_of_block h.wm (fun b hb' => hg.block b (h.wm.lt b hb').2 (by simp))
  have l29 : ∀ k, s29.ownBlock = some k → E.heap.size ≤ k ∧ k < W.heap.size := fun k hk => h.wt.lt k hk
  have l30 : ∀ k, s30.ownBlock = some k → E.heap.size ≤ k ∧ k < W.heap.size := fun k hk => h.wm.lt k hk
  have w30' := owns_of_block (w' := X1) w30 (fun b hb' => hall1.block b (w30.lt b hb').2 (fun e => owns_apart w29 w30 e.symm hb'))
  refine ⟨((h.bel.grown hg hE (fun k hk => by cases hk)).grown hall1 (by omega) (fun k hk => (l29 k hk).1)).grown hall2 (by omega) (fun k hk => (l30 k hk).1), ?_, ?_, ?_, ?_⟩
  · rw [e, hlen, List.map_append]
    exact own2
  · rw [e, hlen]
    have e1 : (List.range ((WMb M O v).length + 1)).map (fun j => if j = (WMb M O v).length then s32 else val j) = (List.range (WMb M O v).length).map val ++ [s32] := by
      rw [List.range_succ, List.map_append]
      congr 1
      · apply List.map_congr_left
        intro j hj
        have := List.mem_range.1 hj
        rw [if_neg (by omega)]
      · simp
    rw [e1]
    exact owns_of_block own1 (fun b hb' => hall2.block b (own1.lt b hb').2 (fun e => owns_apart own1 w30' hb' e.symm))
  · intro j hj
    rw [e, hlen] at hj
    rw [e]
    by_cases ej : j = (WMb M O v).length
    · subst ej
      simp only [if_true]
      have eg : (WMb M O v ++ [v]).getD (WMb M O v).length 0 = v := by simp [List.getD]
      rw [eg]
      have a1 := owns_of_block (w' := X1) h32 (fun b hb' => hall1.block b (h32.lt b hb').2 (fun e => owns_apart w29 h32 e.symm hb'))
      refine ⟨a1.1, ?_⟩
      have a2 := owns_of_block (w' := X2) a1 (fun b hb' => hall2.block b (a1.lt b hb').2 (fun e => by have := (l30 b e.symm).2; have := (a1.lt b hb').1; omega))
      rcases a2.2 with a3 | ⟨g, cap, cur, a3, a4, a5⟩
      · exact .inl a3
      · exact .inr ⟨g, cap, cur, a3, by omega, a5⟩
    · have hj2 : j < (WMb M O v).length := by omega
      simp only [if_neg ej]
      have eg : (WMb M O v ++ [v]).getD j 0 = (WMb M O v).getD j 0 := by simp [List.getD, List.getElem?_append_left hj2]
      rw [eg]
      have a0 := owns_of_block (w' := X) (h.each j hj2) (fun b hb' => hg.block b ((h.each j hj2).lt b hb').2 (by simp))
      have a1 := owns_of_block (w' := X1) a0 (fun b hb' => hall1.block b (a0.lt b hb').2 (fun e => owns_apart w29 a0 e.symm hb'))
      exact owns_of_block (w' := X2) a1 (fun b hb' => hall2.block b (a1.lt b hb').2 (fun e => by
        rcases h.dist j hj2 with d | d
        · rw [d] at hb'; cases hb'
        · exact d (by rw [hb', e])))
  · intro j hj
    rw [e, hlen] at hj
    by_cases ej : j = (WMb M O v).length
    · simp only [if_pos ej]
      cases hs : s32.ownBlock with
      | none => exact .inl rfl
      | some b =>
        right
        intro e2
        have e3 : b = g2 := by simpa [Value.ownBlock] using e2
        have hb := h32.lt b hs
        rcases hat2 with e4 | e4
        · have := (l30 g2 e4).2; omega
        · omega
    · have hj2 : j < (WMb M O v).length := by omega
      simp only [if_neg ej]
      cases hs : (val j).ownBlock with
      | none => exact .inl rfl
      | some b =>
        right
        intro e2
        have e3 : b = g2 := by simpa [Value.ownBlock] using e2
        have hb := (h.each j hj2).lt b hs
        rcases hat2 with e4 | e4
        · rcases h.dist j hj2 with d | d
          · rw [d] at hs; cases hs
          · exact d (by rw [hs, e3, e4])
        · omega
theorem W14.add' {E W X X1 X2 : World} {M : Nat → Nat} {O : List Nat} {v g1 c1 g2 c2 K ln : Nat} {s29 s30 s32 : Value} {val : Nat → Value} {o1 o2 : Obj} (hK : (WMb M O v).length = K) (hln : (fv M O v).length = ln) (h : W14 E M O v s29 s30 val W) (hg : W.grownBy X none) (h0 : fv M O v ≠ [])
    (h32 : X.ownsRow W.heap.size 3 1 s32 ln ((fv M O v).map fun (z : Nat) => Value.int .i64 (z : Int))) (h1 : (X.alloc o1).grownBy X1 s29.ownBlock)
    (own1 : X1.ownsRow E.heap.size 22 1 (.slice (some ⟨g1, 0, none⟩) (K + 1) c1) (K + 1) ((List.range K).map val ++ [s32])) (h2 : (X1.alloc o2).grownBy X2 s30.ownBlock) (hat2 : s30.ownBlock = some g2 ∨ g2 = X1.heap.size + 1)
    (own2 : X2.ownsRow E.heap.size 3 1 (.slice (some ⟨g2, 0, none⟩) (K + 1) c2) (K + 1) (((WMb M O v).map fun (z : Nat) => Value.int .i64 (z : Int)) ++ [.int .i64 (v : Int)])) :
    W14 E M O (v + 1) (.slice (some ⟨g1, 0, none⟩) (K + 1) c1) (.slice (some ⟨g2, 0, none⟩) (K + 1) c2) (fun j => if j = K then s32 else val j) X2 := by
  subst hK hln
  exact h.add hg h0 h32 h1 own1 h2 hat2 own2
theorem fv_take {M : Nat → Nat} {O : List Nat} {i v : Nat} (hi : i < O.length) : fv M (O.take (i + 1)) v = if M (O.getD i 0) = v then fv M (O.take i) v ++ [O.getD i 0] else fv M (O.take i) v := by
  rw [List.take_add_one, List.getElem?_eq_getElem hi, getD_at hi]
  unfold fv
  rw [List.filter_append]
  by_cases h : M O[i] = v
  · rw [if_pos h]; simp [h]
  · rw [if_neg h]
    have : (M O[i] == v) = false := by simpa using h
    simp [this]
theorem WMb_le (M : Nat → Nat) (O : List Nat) (v : Nat) : (WMb M O v).length ≤ v := by
  have := List.length_filter_le (fun u => !(fv M O u).isEmpty) (List.range v)
  simpa [WMb] using this
end SortA
end Go.Proofs.Ybulkdgou
