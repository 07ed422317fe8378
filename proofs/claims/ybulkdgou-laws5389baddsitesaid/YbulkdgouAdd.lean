import Derived.Test.YbulkdgouAddC
namespace Go.Proofs.Ybulkdgou
open Go.RowKit
attribute [local go_sem ↓] Go.wp_at_zero Go.wp_at_succ
namespace SortA

theorem Merged.lt {c : Cf} {lo : Nat} {d : Nat → Nat} (ok : Ok c lo) (h : Merged c.mask c.o d 0 c.L) {i : Nat} (hi : i < c.L) : d i < c.n := by
  obtain ⟨j, _, hj, e⟩ := h.val (Nat.zero_le i) hi
  rw [← e]
  exact ok.o j hj

theorem S3.drewN {c : Cf} {lo lo2 gb k8 : Nat} {d : Nat → Nat} {F gval : Nat → Value} {vs0 : List Value} {w wr : World} {gl : List (List Nat)} {gv s8 : Value} (h : S3 c lo lo2 gb d F vs0 w wr gl k8 gv s8 gval) (ok : Ok c lo) (hg : Gb c gb) (hgl : gb < lo) (hlo : lo = w.heap.size) (q : Nat) : S3 c lo lo2 gb d F vs0 w (wr.drewN q) gl k8 gv s8 gval :=
  ⟨h.base.grown ok hg hgl hlo (grown_drewN wr q none) (fun j hj => by cases hj), h.rpr, h.gown, h.gvb, h.idx, h.grp, h.dist, h.dist8⟩
theorem owns_form {w : World} {base n size : Nat} {e : TypeId} {v : Value} {xs : List Value} (h : w.ownsRow base e size v n xs) : ∃ p cp, v = .slice p n cp := by
  rcases h.2 with ⟨rfl, h0⟩ | ⟨g, cap, cur, rfl, _⟩
  · exact ⟨none, 0, by rw [h0]⟩
  · exact ⟨_, _, rfl⟩
theorem Gs_le (key : Nat → Nat) (l : List Nat) : (Gs key l).length ≤ 256 := by
  rw [Gs_len]
  have := List.length_filter_le (fun v => !(fv key l v).isEmpty) (List.range 256)
  simpa [WMb] using this
theorem Gs_pos {key : Nat → Nat} {l : List Nat} {x : Nat} (hx : x ∈ l) (hk : key x < 256) : 1 ≤ (Gs key l).length := by
  rw [Gs_len]
  have : key x ∈ WMb key l 256 := mem_WMb.2 ⟨hk, List.ne_nil_of_mem (a := x) (by unfold fv; rw [List.mem_filter]; exact ⟨hx, by simp⟩)⟩
  exact List.length_pos_of_mem this
theorem Gs_short {key : Nat → Nat} {l g : List Nat} (h : g ∈ Gs key l) : g.length ≤ l.length := by
  unfold Gs at h
  obtain ⟨v, _, rfl⟩ := List.mem_map.1 h
  exact List.length_filter_le _ _
theorem seg_len (d : Nat → Nat) (n : Nat) : (seg d 0 n).length = n := by simp [seg]
theorem HZ.form {lo : Nat} {w : World} {v : Value} {zs : List Nat} (h : HZ lo w v zs) : ∃ p l c, v = .slice p l c := by
  rcases h with ⟨_, rfl⟩ | ⟨B, L, l, cap, d, rfl, _⟩
  · exact ⟨_, _, _, rfl⟩
  · exact ⟨_, _, _, rfl⟩
theorem info22 : (Yba.prog.info? 22).map (fun i => (i.zero, i.size, i.bytes)) = some (some (.slice none 0 0), 1, 24) := by kernel_rfl

set_option maxHeartbeats 8000000 in
set_option maxRecDepth 100000 in
theorem addSite_any (c : Cf) (gb : Nat) (F : Nat → Value) (vs0 : List Value) (gv0 : Value) (w : World) (ok : Hid (Ok c w.heap.size)) (hgg : Hid (Gb c gb)) (hgl : gb < w.heap.size) (hfix : Hid (Fix c w.heap.size w)) (hso : Hid (SO c w.heap.size 0 c.q (fun _ => 1) w))
    (hrp : Hid (w.rowIs c.rp 55 13 F)) (hF : Hid (F 11 = gv0)) (T : Nat → Value) (htb : Hid (w.rowIs c.tb 62 12 T)) (hown0 : Hid (w.ownsRow 0 22 1 gv0 c.g0 vs0)) (hgv : Hid (∀ b, gv0.ownBlock = some b → b = gb ∧ 0 < c.g0)) :
    Calls Yba.prog 10 #[.pointer (some ⟨c.rp, 0, none⟩), .slice (some ⟨c.ab, 0, none⟩) c.L c.L] w fun e w' => e = .returned (.tuple #[]) ∧ Post c w.heap.size gb vs0 T w w' := by
  have hL1 := ok.out.L1
  have hL2 := ok.out.L2
  have hLi : (0 : Int) < (c.L : Int) := by omega
  have a0 : w.cell? ⟨c.ab, 0, none⟩ = some (.int .i64 (c.id : Int)) := hfix.out.at0 0 hL1
  have hab := ok.out.lt.2.2.2.2
  have hmk := run_make_row' (P := Yba.prog) 22 3 (.int .i64 0) 8 Yba.underlying22 info3 rfl .i64 .i64 c.L (by omega) (by omega)
  have hmf : ∀ fn first cap w, (Instr.makeFunc fn first cap).run Yba.prog w = .ok (.func fn first cap) w := fun _ _ _ _ => rfl
  have HA1 := S1.start ok.out hgg.out hgl hfix.out hso.out
  have HA2 : Hid (S1 c w.heap.size gb 0 0 w ((w.alloc (.cells #[.pointer (some ⟨c.rp, 0, none⟩)] 45)).alloc (.cells (madeCells #[.int .i64 0] c.L) 3))) := HA1
  clear HA1
  go_enter Yba.func10, Yba.ntmps10
  go_wp2_with fail
  go_loopg [21] c.L (fun gk s21 wr => ∃ i : Nat, i ≤ c.L ∧ gk = c.L - i ∧ s21 = .int .i64 (i : Int) ∧ S1 c w.heap.size gb i i w wr)
  case atStart => exact ⟨0, Nat.zero_le _, rfl, rfl, HA2.out⟩
  case round =>
    obtain ⟨i, hi, rfl, rfl, hs⟩ := hrel
    have HS : Hid (S1 c w.heap.size gb i i w wr) := hs
    by_cases hlt : i < c.L
    · have hlti : (i : Int) < (c.L : Int) := by omega
      have a1 := hs.core.fix.at0 i hlt
      have a2 := hs.core.fix.at1 i hlt
      have b1 := hs.by_.cell (i := i) hlt
      have b2 := hs.by_.frozen i
      have hsz := hs.core.sz
      have hB : w.heap.size + 1 < wr.heap.size := by omega
      have hB0 : w.heap.size < wr.heap.size := by omega
      clear hs
      go_wp2_with fail
      obtain ⟨V, hV⟩ : ∃ V, V = (wr.setCell ⟨w.heap.size + 1, i, none⟩ (.int .i64 (c.o i : Int))).alloc (.cells #[.int .i64 (c.id : Int), .int .i64 (c.o i : Int)] 44) := ⟨_, rfl⟩
      rw [← hV]
      have HV : Hid (S1 c w.heap.size gb i (i + 1) w V) := by
        rw [hV]
        exact HS.out.lay ok.out hgg.out hgl rfl _
      obtain ⟨xx, hxx⟩ : ∃ xx, xx = c.o i := ⟨_, rfl⟩
      have hxn : xx < c.n := by rw [hxx]; exact ok.out.o i hlt
      have hxni : (xx : Int) < (c.n : Int) := by omega
      have v3 : V.cell? ⟨wr.heap.size, 1, none⟩ = some (.int .i64 (xx : Int)) := by
        have e1 : (wr.setCell ⟨w.heap.size + 1, i, none⟩ (.int .i64 (c.o i : Int))).heap.size = wr.heap.size := by simp
        rw [hV, hxx, ← e1]
        rw [cell_of_row _ _ 1 #[.int .i64 (c.id : Int), .int .i64 (c.o i : Int)] 44 (0, 0) (Go.Deep.blk_alloc_new _ _)]
        rfl
      have hVs : wr.heap.size < V.heap.size := by rw [hV]; simp
      have HX : Hid (xx = c.o i) := hxx
      have v1 := HV.out.core.rc
      have v2 := HV.out.core.fix.r1
      obtain ⟨blk, cap, hso1⟩ := HV.out.so
      have v4 := hso1.row.cell hxn
      have v4f := hso1.row.frozen xx
      have HSO1 : Hid (SO c w.heap.size i blk cap V) := hso1
      have HOW : Hid (V.ownsRow 0 3 1 (.slice (some ⟨blk xx, 0, none⟩) (lst c i xx).length (cap xx)) (lst c i xx).length ((lst c i xx).map fun (z : Nat) => Value.int .i64 (z : Int))) := hso1.own xx hxn
      obtain ⟨ll, hll⟩ : ∃ ll, (lst c i xx).length = ll := ⟨_, rfl⟩
      have hll2 : ll ≤ 2 := by rw [← hll]; exact lst_len c i xx
      have HLL : Hid ((lst c i xx).length = ll) := hll
      obtain ⟨bx, hbx⟩ : ∃ bx, blk xx = bx := ⟨_, rfl⟩
      obtain ⟨cx, hcx⟩ : ∃ cx, cap xx = cx := ⟨_, rfl⟩
      have HBX : Hid (blk xx = bx ∧ cap xx = cx) := ⟨hbx, hcx⟩
      have hbxq := hso1.blk xx hxn
      have hq := ok.out.q xx hxn
      rw [hll, hbx, hcx] at HOW v4
      rw [hbx] at hbxq
      have hsbl := ok.out.lt.2.2.1
      have hrpl := ok.out.lt.1
      have hsbV : c.sb < V.heap.size := by omega
      have hrpV : c.rp < V.heap.size := by omega
      have hB0V : w.heap.size < V.heap.size := by omega
      have n1 : bx ≠ c.sb := by rcases hbxq with e | e; rw [e]; exact hq.2.2.1; omega
      have n2 : bx ≠ c.rp := by rcases hbxq with e | e; rw [e]; exact hq.1; omega
      have n3 : bx ≠ w.heap.size := by rcases hbxq with e | e; rw [e]; have := hq.2.2.2.2.2; omega; omega
      have n4 : bx ≠ wr.heap.size := by
        intro e
        rcases HOW.out.2 with ⟨e1, _⟩ | ⟨g', cap', cur, e1, _, e2, _⟩
        · cases e1
        · simp only [Value.slice.injEq, Option.some.injEq, Addr.mk.injEq, and_true, true_and] at e1
          rw [← e1.1, e] at e2
          have e3 : (wr.setCell ⟨w.heap.size + 1, i, none⟩ (.int .i64 (c.o i : Int))).heap.size = wr.heap.size := by simp
          rw [hV, ← e3, Go.Deep.blk_alloc_new] at e2
          cases e2
      obtain ⟨ii, hi0, hz0, hz1, hz2⟩ := info_parts info3
      clear hso1 hxx hll hbx hcx a1 a2 b1 b2 hV hq hbxq
      have HOW2 : Hid ((V.alloc (.cells #[.int .i64 (c.id : Int)] 3)).drew.ownsRow 0 3 1 (.slice (some ⟨bx, 0, none⟩) ll cx) ll ((lst c i xx).map fun (z : Nat) => Value.int .i64 (z : Int))) := (HOW.out.alloc _).drew
      have HAP : Hid (∀ (g9 cap9 : Nat) (w9 : World), w9.ownsRow 0 3 1 (.slice (some ⟨g9, 0, none⟩) (ll + 1) cap9) (ll + 1) (((lst c i xx).map fun (z : Nat) => Value.int .i64 (z : Int)) ++ [.int .i64 (c.id : Int)]) → (V.alloc (.cells #[.int .i64 (c.id : Int)] 3)).drew.grownBy w9 (Value.slice (some ⟨bx, 0, none⟩) ll cx).ownBlock → ((Value.slice (some ⟨bx, 0, none⟩) ll cx).ownBlock = some g9 ∨ g9 = V.heap.size + 1) → g9 < w9.heap.size →
          w9.cell? ⟨w.heap.size, 0, none⟩ = some (.pointer (some ⟨c.rp, 0, none⟩)) ∧ w9.cell? ⟨c.rp, 1, none⟩ = some (.slice (some ⟨c.sb, 0, none⟩) c.n c.n) ∧ w9.cell? ⟨wr.heap.size, 1, none⟩ = some (.int .i64 (xx : Int)) ∧ w9.cell? ⟨c.sb, xx, none⟩ = some (.slice (some ⟨bx, 0, none⟩) ll cx) ∧ w9.frozen? ⟨c.sb, xx, none⟩ = false ∧
          Hid (V.grownBy w9 (some bx) ∧ (g9 = bx ∨ V.heap.size ≤ g9) ∧ w9.ownsRow 0 3 1 (.slice (some ⟨g9, 0, none⟩) (ll + 1) cap9) (ll + 1) (((lst c i xx).map fun (z : Nat) => Value.int .i64 (z : Int)) ++ [.int .i64 (c.id : Int)]))) := by
        intro g9 cap9 w9 hown9 hgrow9 hat9 _
        have hfar : ∀ b, b < V.heap.size → b ≠ bx → w9.heap[b]? = V.heap[b]? := fun b h1 h2 => (hgrow9.block b (by simp; omega) (fun e => h2 (by simpa [Value.ownBlock] using e))).trans (Below.heap_alloc V _ _ h1)
        refine ⟨(World.cell?_of_block (a := ⟨w.heap.size, 0, none⟩) (hfar _ hB0V (fun e => n3 e.symm))).trans v1, (World.cell?_of_block (a := ⟨c.rp, 1, none⟩) (hfar _ hrpV (fun e => n2 e.symm))).trans v2, (World.cell?_of_block (a := ⟨wr.heap.size, 1, none⟩) (hfar _ hVs (fun e => n4 e.symm))).trans v3, (World.cell?_of_block (a := ⟨c.sb, xx, none⟩) (hfar _ hsbV (fun e => n1 e.symm))).trans v4, (World.frozen?_of_block (a := ⟨c.sb, xx, none⟩) (hfar _ hsbV (fun e => n1 e.symm))).trans v4f, ?_⟩
        refine ⟨(World.grownBy_alloc V (.cells #[.int .i64 (c.id : Int)] 3) (some bx)).andThen (row' := some bx) ⟨hgrow9.os, hgrow9.tape, hgrow9.output, hgrow9.size, hgrow9.block⟩ (fun j hj => .inr hj), ?_, hown9⟩
        rcases hat9 with e | e
        · left; simpa [Value.ownBlock] using e.symm
        · right; omega
      have m1 : w.heap.size ≠ c.sb := by omega
      have m2 : c.rp ≠ c.sb := ok.out.ne.2.2.2.2.2.2.1
      have m3 : wr.heap.size ≠ c.sb := by omega
      refine wp_region_noPanic ?_
      refine wp_region_held_drew (S := fun w' => w'.cell? ⟨w.heap.size, 0, none⟩ = some (.pointer (some ⟨c.rp, 0, none⟩)) ∧ w'.cell? ⟨c.rp, 1, none⟩ = some (.slice (some ⟨c.sb, 0, none⟩) c.n c.n) ∧ w'.cell? ⟨wr.heap.size, 1, none⟩ = some (.int .i64 (xx : Int))) (by kernel_rfl) ⟨v1, v2, v3⟩ (fun hHeld => ?_)
      refine wpAnyH_take (i := 0) (oi := _) (v := .pointer (some ⟨c.rp, 0, none⟩)) rfl (by kernel_rfl) (by kernel_rfl) (by kernel_rfl) (fun _ _ _ h => h) (Or.inl ⟨by rfl, by intro w hSw; (try dsimp only at hSw); go_simp⟩) (by assumption) ?_
      try go_frame
      refine wpAnyH_take (i := 1) (oi := _) (v := .pointer (some ⟨c.rp, 0, none⟩)) rfl (by kernel_rfl) (by kernel_rfl) (by kernel_rfl) (fun _ _ _ h => h) (Or.inl ⟨by rfl, by intro w hSw; (try dsimp only at hSw); go_simp⟩) (by assumption) ?_
      try go_frame
      refine wpAnyH_take (i := 2) (oi := _) (v := .pointer (some ⟨c.rp, 1, none⟩)) rfl (by kernel_rfl) (by kernel_rfl) (by kernel_rfl) (fun _ _ _ h => h) (Or.inl ⟨by rfl, by intro w hSw; (try dsimp only at hSw); go_simp⟩) (by assumption) ?_
      try go_frame
      refine wpAnyH_take (i := 3) (oi := _) (v := .slice (some ⟨c.sb, 0, none⟩) c.n c.n) rfl (by kernel_rfl) (by kernel_rfl) (by kernel_rfl) (fun _ _ _ h => h) (Or.inl ⟨by rfl, by intro w hSw; (try dsimp only at hSw); go_simp⟩) (by assumption) ?_
      try go_frame
      refine wpAnyH_take (i := 4) (oi := _) (v := .pointer (some ⟨wr.heap.size, 1, none⟩)) rfl (by kernel_rfl) (by kernel_rfl) (by kernel_rfl) (fun _ _ _ h => h) (Or.inl ⟨by rfl, by intro w hSw; (try dsimp only at hSw); go_simp⟩) (by assumption) ?_
      try go_frame
      refine wpAnyH_take (i := 5) (oi := _) (v := .int .i64 (xx : Int)) rfl (by kernel_rfl) (by kernel_rfl) (by kernel_rfl) (fun _ _ _ h => h) (Or.inl ⟨by rfl, by intro w hSw; (try dsimp only at hSw); go_simp⟩) (by assumption) ?_
      try go_frame
      refine wpAnyH_take (i := 6) (oi := _) (v := .pointer (some ⟨c.rp, 0, none⟩)) rfl (by kernel_rfl) (by kernel_rfl) (by kernel_rfl) (fun _ _ _ h => h) (Or.inl ⟨by rfl, by intro w hSw; (try dsimp only at hSw); go_simp⟩) (by assumption) ?_
      try go_frame
      refine wpAnyH_take (i := 7) (oi := _) (v := .pointer (some ⟨c.rp, 0, none⟩)) rfl (by kernel_rfl) (by kernel_rfl) (by kernel_rfl) (fun _ _ _ h => h) (Or.inl ⟨by rfl, by intro w hSw; (try dsimp only at hSw); go_simp⟩) (by assumption) ?_
      try go_frame
      refine wpAnyH_take (i := 8) (oi := _) (v := .pointer (some ⟨c.rp, 1, none⟩)) rfl (by kernel_rfl) (by kernel_rfl) (by kernel_rfl) (fun _ _ _ h => h) (Or.inl ⟨by rfl, by intro w hSw; (try dsimp only at hSw); go_simp⟩) (by assumption) ?_
      try go_frame
      refine wpAnyH_take (i := 9) (oi := _) (v := .slice (some ⟨c.sb, 0, none⟩) c.n c.n) rfl (by kernel_rfl) (by kernel_rfl) (by kernel_rfl) (fun _ _ _ h => h) (Or.inl ⟨by rfl, by intro w hSw; (try dsimp only at hSw); go_simp⟩) (by assumption) ?_
      try go_frame
      refine wpAnyH_take (i := 10) (oi := _) (v := .pointer (some ⟨wr.heap.size, 1, none⟩)) rfl (by kernel_rfl) (by kernel_rfl) (by kernel_rfl) (fun _ _ _ h => h) (Or.inl ⟨by rfl, by intro w hSw; (try dsimp only at hSw); go_simp⟩) (by assumption) ?_
      try go_frame
      refine wpAnyH_take (i := 11) (oi := _) (v := .int .i64 (xx : Int)) rfl (by kernel_rfl) (by kernel_rfl) (by kernel_rfl) (fun _ _ _ h => h) (Or.inl ⟨by rfl, by intro w hSw; (try dsimp only at hSw); go_simp⟩) (by assumption) ?_
      try go_frame
      refine wpAnyH_take (i := 12) (oi := _) (v := .pointer (some ⟨c.sb, xx, none⟩)) rfl (by kernel_rfl) (by kernel_rfl) (by kernel_rfl) (fun _ _ _ h => h) (Or.inl ⟨by rfl, by intro w hSw; (try dsimp only at hSw); go_simp⟩) (by assumption) ?_
      try go_frame
      refine wpAnyH_take (i := 14) (oi := _) (v := .int .i64 (c.id : Int)) rfl (by kernel_rfl) (by kernel_rfl) (by kernel_rfl) (fun _ _ _ h => h) (Or.inl ⟨by rfl, by intro w hSw; (try dsimp only at hSw); go_simp⟩) (by assumption) ?_
      try go_frame
      refine wpAnyH_ready (rs := [13, 15]) (by kernel_rfl) (by simp) ?_
      refine AllReadyH.cons (o := _) rfl (fun K hK => ?_) (AllReadyH.cons (o := _) rfl (fun K hK => ?_) AllReadyH.nil)
      · go_simp
        refine hK.out _ _ ⟨by go_simp, by go_simp, by go_simp⟩ (fun hHeld => ?_)
        clear hK K
        try go_frame
        refine wpAnyH_ready (rs := [15]) (by kernel_rfl) (by simp) ?_
        refine AllReadyH.cons (o := _) rfl (fun K hK => ?_) AllReadyH.nil
        go_simp
        refine hK.out _ _ ⟨by go_simp, by go_simp, by go_simp⟩ (fun hHeld => ?_)
        clear hK K
        try go_frame
        refine wpAnyH_ready (rs := [16]) (by kernel_rfl) (by simp) ?_
        refine AllReadyH.cons (o := _) rfl (fun K hK => ?_) AllReadyH.nil
        refine step_append_lies _ (by rfl) _ _ _ (by rfl) 0 3 ii (.int .i64 0) 1 8 Yba.underlying22 hi0 hz0 hz1 hz2 (by rfl) (by omega) (.slice (some ⟨bx, 0, none⟩) ll cx) ll _ (by rfl) HOW2.out ⟨V.heap.size, 0, none⟩ 1 1 [.int .i64 (c.id : Int)] (by rfl) (by rfl) (World.news_of_block (cs := #[.int .i64 (c.id : Int)]) (Go.Deep.blk_alloc_new _ _)) (by simp [Value.oneCell']) (by omega) (by unfold maxLen; omega) (by omega) (by omega) (V.heap.size + 1) (by simp) ?_
        intro g9 cap9 w9 x1 x2 x3 x4
        obtain ⟨s1, s2, s3, s4, s5, HW9⟩ := HAP.out g9 cap9 w9 x1 x2 x3 x4
        clear x1 x2 x3 x4
        refine hK.out _ _ ⟨s1, s2, s3⟩ (fun hHeld => ?_)
        clear hK K
        try go_frame
        refine wpAnyH_take (i := 17) (oi := _) (v := .pointer (some ⟨c.sb, xx, none⟩)) rfl (by kernel_rfl) (by kernel_rfl) (by kernel_rfl) (fun _ _ _ h => h) (Or.inl ⟨by rfl, by intro w hSw; (try dsimp only at hSw); go_simp⟩) (by assumption) ?_
        try go_frame
        refine wpAnyH_ready (rs := [18]) (by kernel_rfl) (by simp) ?_
        refine AllReadyH.cons (o := _) rfl (fun K hK => ?_) AllReadyH.nil
        go_simp
        refine hK.out _ _ ⟨by go_simp, by go_simp, by go_simp⟩ (fun hHeld => ?_)
        clear hK K
        try go_frame
        refine wpAnyH_done (by kernel_rfl) ?_ _
        refine NoPanic.normal ?_
        go_wp2_with fail
        go_roundg (c.L - (i + 1))
        case measure => omega
        case rel =>
          have h7 := HW9.out
          rw [← HLL.out] at h7
          have h8 := HV.out.attach ok.out hgg.out hgl rfl hlt HX.out HSO1.out HBX.out h7.1 h7.2.1 h7.2.2
          rw [HLL.out] at h8
          exact ⟨i + 1, by omega, rfl, by go_num, h8⟩
      · go_simp
        refine hK.out _ _ ⟨by go_simp, by go_simp, by go_simp⟩ (fun hHeld => ?_)
        clear hK K
        try go_frame
        refine wpAnyH_ready (rs := [13]) (by kernel_rfl) (by simp) ?_
        refine AllReadyH.cons (o := _) rfl (fun K hK => ?_) AllReadyH.nil
        go_simp
        refine hK.out _ _ ⟨by go_simp, by go_simp, by go_simp⟩ (fun hHeld => ?_)
        clear hK K
        try go_frame
        refine wpAnyH_ready (rs := [16]) (by kernel_rfl) (by simp) ?_
        refine AllReadyH.cons (o := _) rfl (fun K hK => ?_) AllReadyH.nil
        refine step_append_lies _ (by rfl) _ _ _ (by rfl) 0 3 ii (.int .i64 0) 1 8 Yba.underlying22 hi0 hz0 hz1 hz2 (by rfl) (by omega) (.slice (some ⟨bx, 0, none⟩) ll cx) ll _ (by rfl) HOW2.out ⟨V.heap.size, 0, none⟩ 1 1 [.int .i64 (c.id : Int)] (by rfl) (by rfl) (World.news_of_block (cs := #[.int .i64 (c.id : Int)]) (Go.Deep.blk_alloc_new _ _)) (by simp [Value.oneCell']) (by omega) (by unfold maxLen; omega) (by omega) (by omega) (V.heap.size + 1) (by simp) ?_
        intro g9 cap9 w9 x1 x2 x3 x4
        obtain ⟨s1, s2, s3, s4, s5, HW9⟩ := HAP.out g9 cap9 w9 x1 x2 x3 x4
        clear x1 x2 x3 x4
        refine hK.out _ _ ⟨s1, s2, s3⟩ (fun hHeld => ?_)
        clear hK K
        try go_frame
        refine wpAnyH_take (i := 17) (oi := _) (v := .pointer (some ⟨c.sb, xx, none⟩)) rfl (by kernel_rfl) (by kernel_rfl) (by kernel_rfl) (fun _ _ _ h => h) (Or.inl ⟨by rfl, by intro w hSw; (try dsimp only at hSw); go_simp⟩) (by assumption) ?_
        try go_frame
        refine wpAnyH_ready (rs := [18]) (by kernel_rfl) (by simp) ?_
        refine AllReadyH.cons (o := _) rfl (fun K hK => ?_) AllReadyH.nil
        go_simp
        refine hK.out _ _ ⟨by go_simp, by go_simp, by go_simp⟩ (fun hHeld => ?_)
        clear hK K
        try go_frame
        refine wpAnyH_done (by kernel_rfl) ?_ _
        refine NoPanic.normal ?_
        go_wp2_with fail
        go_roundg (c.L - (i + 1))
        case measure => omega
        case rel =>
          have h7 := HW9.out
          rw [← HLL.out] at h7
          have h8 := HV.out.attach ok.out hgg.out hgl rfl hlt HX.out HSO1.out HBX.out h7.1 h7.2.1 h7.2.2
          rw [HLL.out] at h8
          exact ⟨i + 1, by omega, rfl, by go_num, h8⟩
    · obtain rfl : i = c.L := by omega
      have hlti : ¬ (c.L : Int) < (c.L : Int) := by omega
      have HCM : Hid (CmpOK (w.heap.size + 1) c.n c.mask (.pointer (some ⟨w.heap.size, 0, none⟩)) wr) := cmp_ready hs ok.out
      have HRB : Hid (Row (w.heap.size + 1) c.L c.o wr) := hs.by_.congr fun k hk => if_pos hk
      have HOD : Hid (∀ i, i < c.L → c.o i < c.n) := ok.out.o
      clear hs
      go_wp2_with (first
        | (go_at_call 12; refine (sortStable_any (w.heap.size + 1) c.L c.L c.n c.mask c.o (.pointer (some ⟨w.heap.size, 0, none⟩)) wr (by omega) HRB HOD HCM).mono ?_; rintro e w2 ⟨rfl, hb2, d, hrow2, hmer, hasc⟩
           have HS3 : Hid (S3 c w.heap.size w2.heap.size gb d F vs0 w w2 [] 0 gv0 (.slice none 0 0) (fun _ => .slice none 0 0)) := S3.start HS.out ok.out hgg.out hgl rfl hrp.out hF.out hown0.out hgv.out hb2 hrow2
           have HMA : Hid (Merged c.mask c.o d 0 c.L ∧ Asc c.mask d 0 c.L) := ⟨hmer, hasc⟩
           clear hb2 hrow2 hmer hasc))
      obtain ⟨lo2, hlo2⟩ : ∃ lo2, lo2 = w2.heap.size := ⟨_, rfl⟩
      rw [← hlo2] at HS3
      clear hlo2
      go_loopg [8, 55] c.L (fun gk s8 s55 wr => ∃ (i : Nat) (gv : Value) (gval : Nat → Value), i ≤ c.L ∧ gk = c.L - i ∧ s55 = .int .i64 (i : Int) ∧ S3 c w.heap.size lo2 gb d F vs0 w wr (Gs c.mask (seg d 0 i)) (Gs c.mask (seg d 0 i)).length gv s8 gval)
      case atStart => exact ⟨0, gv0, _, Nat.zero_le _, rfl, rfl, HS3.out⟩
      case round =>
        obtain ⟨i, gv, gval, hi, rfl, rfl, hs3⟩ := hrel
        have H3 : Hid (S3 c w.heap.size lo2 gb d F vs0 w wr (Gs c.mask (seg d 0 i)) (Gs c.mask (seg d 0 i)).length gv u8 gval) := hs3
        by_cases hlt2 : i < c.L
        · have hlti2 : (i : Int) < (c.L : Int) := by omega
          have b1 := hs3.base.by_.cell (i := i) hlt2
          have r1 := hs3.base.rc
          have r2 := hs3.base.fix.r0
          have r3 : wr.cell? ⟨c.rp, 11, none⟩ = some gv := hs3.rpr.cell (i := 11) (by omega)
          have f3 := hs3.rpr.frozen 11
          obtain ⟨m, hm⟩ : ∃ m, d i = m := ⟨_, rfl⟩
          have HM : Hid (d i = m) := hm
          have hmn : m < c.n := by rw [← hm]; exact HMA.out.1.lt ok.out hlt2
          have hmni : (m : Int) < (c.n : Int) := by omega
          have k1 := hs3.base.fix.set m hmn
          obtain ⟨km, hkm⟩ : ∃ km, c.mask m = km := ⟨_, rfl⟩
          rw [hm] at b1
          rw [hkm] at k1
          -- is it a new group?
          obtain ⟨nb, hnb⟩ : ∃ nb : Bool, nb = decide (fv c.mask (seg d 0 i) (c.mask (d i)) = []) := ⟨_, rfl⟩
          have HNB : Hid (nb = decide (fv c.mask (seg d 0 i) (c.mask (d i)) = [])) := hnb
          have hnw := new_iff HMA.out.2 hlt2
          have HNW : Hid (nb = true ↔ (i = 0 ∨ c.mask (d i) ≠ c.mask (d (i - 1)))) := by rw [hnb, decide_eq_true_eq]; exact hnw
          clear hs3 hm hnb hnw
          go_upto_region 14 with (fail)
          go_cut [84] from 60 to 84 (fun s84 wc => s84 = .bool nb ∧ ∃ q, wc = wr.drewN q)
          case first =>
            by_cases h0 : i = 0
            · have h0i : ((i : Int) == 0) = true := by simp [h0]
              have hnb : nb = true := HNW.out.2 (.inl h0)
              subst hnb
              clear h0
              go_quiet (fail)
              go_wp2_with fail
              go_meet
              case rel => exact ⟨rfl, _, rfl⟩
            · have h0i : ((i : Int) == 0) = false := by simp; omega
              obtain ⟨pi, hpi, hpi2⟩ : ∃ pi : Nat, (i : Int) - 1 = (pi : Int) ∧ i - 1 = pi := ⟨i - 1, by omega, rfl⟩
              have hpl : pi < c.L := by omega
              have hpli : (pi : Int) < (c.L : Int) := by omega
              have b0 := H3.out.base.by_.cell (i := pi) hpl
              have hpn : d pi < c.n := HMA.out.1.lt ok.out hpl
              have k2 := H3.out.base.fix.set (d pi) hpn
              obtain ⟨p, hp⟩ : ∃ p, d pi = p := ⟨_, rfl⟩
              rw [hp] at hpn b0 k2
              have hpni : (p : Int) < (c.n : Int) := by omega
              obtain ⟨kp, hkp⟩ : ∃ kp, c.mask p = kp := ⟨_, rfl⟩
              rw [hkp] at k2
              have hnq : nb = true ↔ km ≠ kp := by
                rw [HNW.out, HM.out, hpi2, hp, hkm, hkp]
                exact ⟨fun h => h.resolve_left h0, .inr⟩
              clear h0 hpi2 hp hkp hkm
              by_cases hk : km = kp
              · have hki : ((km : Int) == (kp : Int)) = true := by simp [hk]
                have hnb : nb = false := by
                  cases nb with
                  | false => rfl
                  | true => exact absurd hk (hnq.1 rfl)
                subst hnb
                clear hnq hk
                go_quiet (fail)
                go_wp2_with fail
                go_meet
                case rel => exact ⟨by simp [bne, hki], _, rfl⟩
              · have hki : ((km : Int) == (kp : Int)) = false := by simp; omega
                have hnb : nb = true := hnq.2 hk
                subst hnb
                clear hnq hk
                go_quiet (fail)
                go_wp2_with fail
                go_meet
                case rel => exact ⟨by simp [bne, hki], _, rfl⟩
          case rest =>
            obtain ⟨rfl, q1, hq1⟩ := hcut
            have H4 : Hid (S3 c w.heap.size lo2 gb d F vs0 w wc (Gs c.mask (seg d 0 i)) (Gs c.mask (seg d 0 i)).length gv u8 gval) := by rw [hq1]; exact H3.out.drewN ok.out hgg.out hgl rfl q1
            clear hq1 b1 r1 r2 r3 f3 k1 hkm H3
            go_upto_if 84 with (fail)
            go_cut [8] from 85 to 101 (fun s8 wc => ∃ (A : List (List Nat)) (x : List Nat) (G gc : Nat) (gval : Nat → Value), S3 c w.heap.size lo2 gb d F vs0 w wc (A ++ [x]) (A.length + 1) (.slice (some ⟨G, 0, none⟩) (c.g0 + A.length + 1) gc) s8 gval ∧ A ++ [x ++ [d i]] = Gs c.mask (seg d 0 (i + 1)))
            case first =>
              cases nb with
              | false =>
                go_wp2_with fail
                go_meet
                case rel =>
                  have hn : fv c.mask (seg d 0 i) (c.mask (d i)) ≠ [] := by have := HNB.out; simpa using this
                  obtain ⟨_, A, e1, e2⟩ := Gs_old (asc_le HMA.out.2 hlt2) (by have := ok.out.mask (d i) (HMA.out.1.lt ok.out hlt2); omega) hn
                  have h4 := H4.out
                  rw [e1] at h4
                  have hl : (A ++ [fv c.mask (seg d 0 i) (c.mask (d i))]).length = A.length + 1 := by simp
                  rw [hl] at h4
                  obtain ⟨G, gc, e3, _, _⟩ := h4.gown.form (by rw [hl]; omega)
                  rw [hl] at e3
                  rw [e3] at h4
                  exact ⟨A, _, G, gc, gval, h4, by rw [seg_succ, e2]⟩
              | true =>
                obtain ⟨gl, hgl0⟩ : ∃ gl, gl = Gs c.mask (seg d 0 i) := ⟨_, rfl⟩
                have HGL : Hid (gl = Gs c.mask (seg d 0 i)) := hgl0
                rw [← hgl0] at H4
                have hgl8 : gl.length ≤ 256 := by rw [hgl0]; exact Gs_le _ _
                obtain ⟨K, hK⟩ : ∃ K, gl.length = K := ⟨_, rfl⟩
                have HK : Hid (gl.length = K) := hK
                rw [hK] at H4 hgl8
                obtain ⟨gp, gcap, hgvf⟩ := owns_form H4.out.gown
                rw [hK] at hgvf
                have hg03 := ok.out.g3
                obtain ⟨N, hN⟩ : ∃ N, c.g0 + K = N := ⟨_, rfl⟩
                have HN : Hid (c.g0 + K = N) := hN
                have hN2 : N ≤ 300 := by omega
                rw [hN] at hgvf
                subst hgvf
                have r1 := H4.out.base.rc
                have r3 : wc.cell? ⟨c.rp, 11, none⟩ = some (.slice gp N gcap) := H4.out.rpr.cell (i := 11) (by omega)
                have hsz4 := H4.out.base.sz
                have hl24 := H4.out.base.lo2
                have HO8 : Hid (wc.ownsRow lo2 3 1 u8 K ((List.range K).map fun j => Value.int .i64 ((c.g0 + j : Nat) : Int))) := H4.out.idx
                obtain ⟨ii, hi0, hz0, hz1, hz2⟩ := info_parts info3
                clear hgl0 hK hN
                go_wp2_with (at_builtin
                             refine wpList_append_lies _ rfl _ _ _ rfl lo2 3 ii (.int .i64 0) 1 8 Yba.underlying22 hi0 hz0 hz1 hz2 rfl (by omega) u8 K _ rfl (HO8.out.alloc _) ⟨wc.heap.size, 0, none⟩ 1 1 [.int .i64 (N : Int)] rfl rfl (World.news_of_block (cs := #[.int .i64 (N : Int)]) (Go.Deep.blk_alloc_new _ _)) (by simp [Value.oneCell']) (by omega) (by unfold maxLen; omega) (by omega) (by simp; omega) (wc.heap.size + 1) (by simp) ?_
                             intro g7 cap7 w7 hown7 hgrow7 hat7 hlt7
                             have H5 : Hid (S3 c w.heap.size lo2 gb d F vs0 w w7 gl (K + 1) (.slice gp N gcap) (.slice (some ⟨g7, 0, none⟩) (K + 1) cap7) gval) := H4.out.index ok.out hgg.out hgl rfl rfl hgrow7 hat7 (by rw [HN.out]; exact hown7)
                             clear hown7 hgrow7 hat7 hlt7)
                have hsz5 := H5.out.base.sz
                have hgvb := H5.out.gvb
                have hrpl := ok.out.lt.1
                have hrp5 := H5.out.rpr
                have r5 := H5.out.base.rc
                have r6 : w7.cell? ⟨c.rp, 11, none⟩ = some (.slice gp N gcap) := hrp5.cell (i := 11) (by omega)
                have f6 : w7.frozen? ⟨c.rp, 11, none⟩ = false := hrp5.frozen 11
                have HO9 : Hid ((w7.alloc (.cells #[.slice none 0 0] 22)).drew.ownsRow 0 22 1 (.slice gp N gcap) N (vs0 ++ (List.range gl.length).map gval)) := by
                  have := H5.out.gown
                  rw [HK.out, HN.out] at this
                  rw [HK.out]
                  exact (this.alloc _).drew
                obtain ⟨i2, hj0, hy0, hy1, hy2⟩ := info_parts info22
                have hne1 : some w.heap.size ≠ (Value.slice gp N gcap).ownBlock := fun e => by
                  rcases hgvb _ e.symm with e | e
                  · have := e.1; omega
                  · omega
                have hne2 : some c.rp ≠ (Value.slice gp N gcap).ownBlock := fun e => by
                  rcases hgvb _ e.symm with e | e
                  · exact hgg.out.rp e.1.symm
                  · omega
                have hlow7 : w.heap.size < w7.heap.size := by omega
                have hrpw7 : c.rp < w7.heap.size := by omega
                have m1 : w.heap.size ≠ c.rp := by omega
                have HAP : Hid (∀ (g9 cap9 : Nat) (w9 : World), w9.ownsRow 0 22 1 (.slice (some ⟨g9, 0, none⟩) (N + 1) cap9) (N + 1) ((vs0 ++ (List.range gl.length).map gval) ++ [.slice none 0 0]) → (w7.alloc (.cells #[.slice none 0 0] 22)).drew.grownBy w9 (Value.slice gp N gcap).ownBlock → ((Value.slice gp N gcap).ownBlock = some g9 ∨ g9 = w7.heap.size + 1) → g9 < w9.heap.size →
                    w9.cell? ⟨w.heap.size, 0, none⟩ = some (.pointer (some ⟨c.rp, 0, none⟩)) ∧ w9.cell? ⟨c.rp, 11, none⟩ = some (.slice gp N gcap) ∧ w9.frozen? ⟨c.rp, 11, none⟩ = false ∧
                    Hid (S3 c w.heap.size lo2 gb d F vs0 w (w9.setCell ⟨c.rp, 11, none⟩ (.slice (some ⟨g9, 0, none⟩) (N + 1) cap9)) (gl ++ [[]]) (K + 1) (.slice (some ⟨g9, 0, none⟩) (N + 1) cap9) (.slice (some ⟨g7, 0, none⟩) (K + 1) cap7) (fun j => if j = gl.length then .slice none 0 0 else gval j))) := by
                  intro g9 cap9 w9 hown9 hgrow9 hat9 _
                  have hfar : ∀ b, b < w7.heap.size → some b ≠ (Value.slice gp N gcap).ownBlock → w9.heap[b]? = w7.heap[b]? := fun b h1 h2 => (hgrow9.block b (by simp; omega) h2).trans (Below.heap_alloc w7 _ _ h1)
                  refine ⟨(World.cell?_of_block (a := ⟨w.heap.size, 0, none⟩) (hfar _ hlow7 hne1)).trans r5, (World.cell?_of_block (a := ⟨c.rp, 11, none⟩) (hfar _ hrpw7 hne2)).trans r6, (World.frozen?_of_block (a := ⟨c.rp, 11, none⟩) (hfar _ hrpw7 hne2)).trans f6, ?_⟩
                  have hx := H5.out.group (g := g9) (cap := cap9) (w2 := w9) ok.out hgg.out hgl rfl
                  rw [HK.out, HN.out] at hx
                  rw [HK.out]
                  refine hx ((World.grownBy_alloc w7 (.cells #[.slice none 0 0] 22) _).andThen (row' := (Value.slice gp N gcap).ownBlock) ⟨hgrow9.os, hgrow9.tape, hgrow9.output, hgrow9.size, hgrow9.block⟩ (fun j hj => .inr hj)) (hat9.imp id (fun e => by omega)) ?_
                  rw [HK.out] at hown9
                  exact hown9
                clear hrp5 hgvb hne1 hne2
                refine wp_region_noPanic ?_
                refine wp_region_held_drew (S := fun w' => w'.cell? ⟨w.heap.size, 0, none⟩ = some (.pointer (some ⟨c.rp, 0, none⟩))) (by kernel_rfl) r5 (fun hHeld => ?_)
                refine wpAnyH_take (i := 0) (oi := _) (v := .pointer (some ⟨c.rp, 0, none⟩)) rfl (by kernel_rfl) (by kernel_rfl) (by kernel_rfl) (fun _ _ _ h => h) (Or.inl ⟨by rfl, by intro w hSw; (try dsimp only at hSw); go_simp⟩) (by assumption) ?_
                try go_frame
                refine wpAnyH_take (i := 1) (oi := _) (v := .pointer (some ⟨c.rp, 0, none⟩)) rfl (by kernel_rfl) (by kernel_rfl) (by kernel_rfl) (fun _ _ _ h => h) (Or.inl ⟨by rfl, by intro w hSw; (try dsimp only at hSw); go_simp⟩) (by assumption) ?_
                try go_frame
                refine wpAnyH_take (i := 2) (oi := _) (v := .pointer (some ⟨c.rp, 0, none⟩)) rfl (by kernel_rfl) (by kernel_rfl) (by kernel_rfl) (fun _ _ _ h => h) (Or.inl ⟨by rfl, by intro w hSw; (try dsimp only at hSw); go_simp⟩) (by assumption) ?_
                try go_frame
                refine wpAnyH_take (i := 3) (oi := _) (v := .pointer (some ⟨c.rp, 11, none⟩)) rfl (by kernel_rfl) (by kernel_rfl) (by kernel_rfl) (fun _ _ _ h => h) (Or.inl ⟨by rfl, by intro w hSw; (try dsimp only at hSw); go_simp⟩) (by assumption) ?_
                try go_frame
                refine wpAnyH_ready (rs := [4, 5]) (by kernel_rfl) (by simp) ?_
                refine AllReadyH.cons (o := _) rfl (fun K hK => ?_) (AllReadyH.cons (o := _) rfl (fun K hK => ?_) AllReadyH.nil)
                · go_simp
                  refine hK.out _ _ (by go_simp) (fun hHeld => ?_)
                  clear hK K
                  try go_frame
                  refine wpAnyH_ready (rs := [5]) (by kernel_rfl) (by simp) ?_
                  refine AllReadyH.cons (o := _) rfl (fun K hK => ?_) AllReadyH.nil
                  go_simp
                  refine hK.out _ _ (by go_simp) (fun hHeld => ?_)
                  clear hK K
                  try go_frame
                  refine wpAnyH_ready (rs := [6]) (by kernel_rfl) (by simp) ?_
                  refine AllReadyH.cons (o := _) rfl (fun K hK => ?_) AllReadyH.nil
                  refine step_append_lies _ (by rfl) _ _ _ (by rfl) 0 22 i2 (.slice none 0 0) 1 24 Yba.underlying46 hj0 hy0 hy1 hy2 (by rfl) (by omega) (.slice gp N gcap) N _ (by rfl) HO9.out ⟨w7.heap.size, 0, none⟩ 1 1 [.slice none 0 0] (by rfl) (by rfl) (World.news_of_block (cs := #[.slice none 0 0]) (Go.Deep.blk_alloc_new _ _)) (by simp [Value.oneCell']) (by omega) (by unfold maxLen; omega) (by omega) (by omega) (w7.heap.size + 1) (by simp) ?_
                  intro g9 cap9 w9 x1 x2 x3 x4
                  obtain ⟨s1, s2, s3, H9⟩ := HAP.out g9 cap9 w9 x1 x2 x3 x4
                  clear x1 x2 x3 x4
                  refine hK.out _ _ s1 (fun hHeld => ?_)
                  clear hK K
                  try go_frame
                  refine wpAnyH_take (i := 7) (oi := _) (v := .pointer (some ⟨c.rp, 0, none⟩)) rfl (by kernel_rfl) (by kernel_rfl) (by kernel_rfl) (fun _ _ _ h => h) (Or.inl ⟨by rfl, by intro w hSw; (try dsimp only at hSw); go_simp⟩) (by assumption) ?_
                  try go_frame
                  refine wpAnyH_take (i := 8) (oi := _) (v := .pointer (some ⟨c.rp, 11, none⟩)) rfl (by kernel_rfl) (by kernel_rfl) (by kernel_rfl) (fun _ _ _ h => h) (Or.inl ⟨by rfl, by intro w hSw; (try dsimp only at hSw); go_simp⟩) (by assumption) ?_
                  try go_frame
                  refine wpAnyH_ready (rs := [9]) (by kernel_rfl) (by simp) ?_
                  refine AllReadyH.cons (o := _) rfl (fun K hK => ?_) AllReadyH.nil
                  go_simp
                  refine hK.out _ _ (by go_simp) (fun hHeld => ?_)
                  clear hK K
                  try go_frame
                  refine wpAnyH_done (by kernel_rfl) ?_ _
                  refine NoPanic.normal ?_
                  go_wp2_with fail
                  go_meet
                  case rel =>
                    refine ⟨gl, [], g9, cap9, (fun j => if j = gl.length then .slice none 0 0 else gval j), ?_, ?_⟩
                    · have h9 := H9.out
                      rw [HK.out] at h9 ⊢
                      rw [HN.out]
                      exact h9
                    · have hn : fv c.mask (seg d 0 i) (c.mask (d i)) = [] := by have := HNB.out; simpa using this
                      have e1 := Gs_new (asc_le HMA.out.2 hlt2) (by have := ok.out.mask (d i) (HMA.out.1.lt ok.out hlt2); omega) hn
                      rw [seg_succ, e1.2, HGL.out]
                      simp
                · go_simp
                  refine hK.out _ _ (by go_simp) (fun hHeld => ?_)
                  clear hK K
                  try go_frame
                  refine wpAnyH_ready (rs := [4]) (by kernel_rfl) (by simp) ?_
                  refine AllReadyH.cons (o := _) rfl (fun K hK => ?_) AllReadyH.nil
                  go_simp
                  refine hK.out _ _ (by go_simp) (fun hHeld => ?_)
                  clear hK K
                  try go_frame
                  refine wpAnyH_ready (rs := [6]) (by kernel_rfl) (by simp) ?_
                  refine AllReadyH.cons (o := _) rfl (fun K hK => ?_) AllReadyH.nil
                  refine step_append_lies _ (by rfl) _ _ _ (by rfl) 0 22 i2 (.slice none 0 0) 1 24 Yba.underlying46 hj0 hy0 hy1 hy2 (by rfl) (by omega) (.slice gp N gcap) N _ (by rfl) HO9.out ⟨w7.heap.size, 0, none⟩ 1 1 [.slice none 0 0] (by rfl) (by rfl) (World.news_of_block (cs := #[.slice none 0 0]) (Go.Deep.blk_alloc_new _ _)) (by simp [Value.oneCell']) (by omega) (by unfold maxLen; omega) (by omega) (by omega) (w7.heap.size + 1) (by simp) ?_
                  intro g9 cap9 w9 x1 x2 x3 x4
                  obtain ⟨s1, s2, s3, H9⟩ := HAP.out g9 cap9 w9 x1 x2 x3 x4
                  clear x1 x2 x3 x4
                  refine hK.out _ _ s1 (fun hHeld => ?_)
                  clear hK K
                  try go_frame
                  refine wpAnyH_take (i := 7) (oi := _) (v := .pointer (some ⟨c.rp, 0, none⟩)) rfl (by kernel_rfl) (by kernel_rfl) (by kernel_rfl) (fun _ _ _ h => h) (Or.inl ⟨by rfl, by intro w hSw; (try dsimp only at hSw); go_simp⟩) (by assumption) ?_
                  try go_frame
                  refine wpAnyH_take (i := 8) (oi := _) (v := .pointer (some ⟨c.rp, 11, none⟩)) rfl (by kernel_rfl) (by kernel_rfl) (by kernel_rfl) (fun _ _ _ h => h) (Or.inl ⟨by rfl, by intro w hSw; (try dsimp only at hSw); go_simp⟩) (by assumption) ?_
                  try go_frame
                  refine wpAnyH_ready (rs := [9]) (by kernel_rfl) (by simp) ?_
                  refine AllReadyH.cons (o := _) rfl (fun K hK => ?_) AllReadyH.nil
                  go_simp
                  refine hK.out _ _ (by go_simp) (fun hHeld => ?_)
                  clear hK K
                  try go_frame
                  refine wpAnyH_done (by kernel_rfl) ?_ _
                  refine NoPanic.normal ?_
                  go_wp2_with fail
                  go_meet
                  case rel =>
                    refine ⟨gl, [], g9, cap9, (fun j => if j = gl.length then .slice none 0 0 else gval j), ?_, ?_⟩
                    · have h9 := H9.out
                      rw [HK.out] at h9 ⊢
                      rw [HN.out]
                      exact h9
                    · have hn : fv c.mask (seg d 0 i) (c.mask (d i)) = [] := by have := HNB.out; simpa using this
                      have e1 := Gs_new (asc_le HMA.out.2 hlt2) (by have := ok.out.mask (d i) (HMA.out.1.lt ok.out hlt2); omega) hn
                      rw [seg_succ, e1.2, HGL.out]
                      simp
            case rest =>
              obtain ⟨A, x, G, gc, gval2, hs6, hGs⟩ := hcut
              have H6 : Hid (S3 c w.heap.size lo2 gb d F vs0 w wc (A ++ [x]) (A.length + 1) (.slice (some ⟨G, 0, none⟩) (c.g0 + A.length + 1) gc) u8 gval2) := hs6
              have HGS : Hid (A ++ [x ++ [d i]] = Gs c.mask (seg d 0 (i + 1))) := hGs
              have hl1 : (A ++ [x]).length = A.length + 1 := by simp
              have hA8 : A.length + 1 ≤ 256 := by
                have h1 := Gs_le c.mask (seg d 0 (i + 1))
                rw [← hGs] at h1
                simpa using h1
              have hg03 := ok.out.g3
              obtain ⟨La, hLa⟩ : ∃ La, c.g0 + A.length = La := ⟨_, rfl⟩
              have HLA : Hid (c.g0 + A.length = La) := hLa
              have hLa2 : La ≤ 300 := by omega
              obtain ⟨N, hN⟩ : ∃ N, La + 1 = N := ⟨_, rfl⟩
              have HN : Hid (La + 1 = N) := hN
              have hNi : (N : Int) - 1 = (La : Int) := by omega
              have hLNi : (La : Int) < (N : Int) := by omega
              have hxl : x.length ≤ 256 := by
                have hmem : x ++ [d i] ∈ Gs c.mask (seg d 0 (i + 1)) := by rw [← hGs]; simp
                have h1 := Gs_short hmem
                rw [seg_len, List.length_append] at h1
                omega
              have hwr : IntKind.i64.wrap (La : Int) = (La : Int) := by rw [IntKind.wrap_i64]; omega
              have r1 := hs6.base.rc
              have r3 : wc.cell? ⟨c.rp, 11, none⟩ = some (.slice (some ⟨G, 0, none⟩) N gc) := by
                have h := hs6.rpr.cell (i := 11) (by omega)
                rw [if_pos rfl, hLa, hN] at h
                exact h
              have hgo := hs6.gown
              rw [hl1, ← Nat.add_assoc, hLa, hN] at hgo
              obtain ⟨up, uc, huv⟩ := owns_form (hs6.grp A.length (by rw [hl1]; omega))
              have hgetx : (A ++ [x]).getD A.length [] = x := by simp [List.getD]
              rw [hgetx] at huv
              obtain ⟨ln, hln⟩ : ∃ ln, x.length = ln := ⟨_, rfl⟩
              have HLN : Hid (x.length = ln) := hln
              rw [hln] at huv hxl
              have r4 : wc.cell? ⟨G, La, none⟩ = some (.slice up ln uc) := by
                rw [hgo.cellAt La (by omega)]
                have hv0 : vs0.length = c.g0 := by have := hown0.out.1; omega
                rw [List.getElem?_append_right (by omega), List.getElem?_map, List.getElem?_range (by omega)]
                have e1 : La - vs0.length = A.length := by omega
                rw [e1, Option.map_some, huv]
              have f4 : wc.frozen? ⟨G, La, none⟩ = false := hgo.frozenAt La
              have hGlt : G < wc.heap.size := (hgo.lt G rfl).2
              have hrpl := ok.out.lt.1
              have hsz6 := hs6.base.sz
              have hl26 := hs6.base.lo2
              have hGrp : G ≠ c.rp := by
                rcases hs6.gvb G rfl with e | e
                · rw [e.1]; exact hgg.out.rp
                · omega
              have hGw : G ≠ w.heap.size := by
                rcases hs6.gvb G rfl with e | e
                · have := e.1; omega
                · omega
              have hlow6 : w.heap.size < wc.heap.size := by omega
              have hrpw6 : c.rp < wc.heap.size := by omega
              have hgr := hs6.grp A.length (by rw [hl1]; omega)
              rw [hgetx, huv, hln] at hgr
              have HUO : Hid ((wc.alloc (.cells #[.int .i64 (m : Int)] 3)).drew.ownsRow lo2 3 1 (.slice up ln uc) ln (x.map fun (z : Nat) => Value.int .i64 (z : Int))) := (hgr.alloc _).drew
              have hGne : some G ≠ (Value.slice up ln uc).ownBlock := fun e => owns_apart hgo hgr rfl e.symm
              have hne1 : some w.heap.size ≠ (Value.slice up ln uc).ownBlock := fun e => by have := (hgr.lt _ e.symm).1; omega
              have hne2 : some c.rp ≠ (Value.slice up ln uc).ownBlock := fun e => by have := (hgr.lt _ e.symm).1; omega
              obtain ⟨ii, hi0, hz0, hz1, hz2⟩ := info_parts info3
              have HAP : Hid (∀ (g9 cap9 : Nat) (w9 : World), w9.ownsRow lo2 3 1 (.slice (some ⟨g9, 0, none⟩) (ln + 1) cap9) (ln + 1) ((x.map fun (z : Nat) => Value.int .i64 (z : Int)) ++ [.int .i64 (m : Int)]) → (wc.alloc (.cells #[.int .i64 (m : Int)] 3)).drew.grownBy w9 (Value.slice up ln uc).ownBlock → ((Value.slice up ln uc).ownBlock = some g9 ∨ g9 = wc.heap.size + 1) → g9 < w9.heap.size →
                  w9.cell? ⟨w.heap.size, 0, none⟩ = some (.pointer (some ⟨c.rp, 0, none⟩)) ∧ w9.cell? ⟨c.rp, 11, none⟩ = some (.slice (some ⟨G, 0, none⟩) N gc) ∧ w9.cell? ⟨G, La, none⟩ = some (.slice up ln uc) ∧ w9.frozen? ⟨G, La, none⟩ = false ∧
                  Hid (S3 c w.heap.size lo2 gb d F vs0 w (w9.setCell ⟨G, La, none⟩ (.slice (some ⟨g9, 0, none⟩) (ln + 1) cap9)) (A ++ [x ++ [m]]) (A.length + 1) (.slice (some ⟨G, 0, none⟩) (c.g0 + A.length + 1) gc) u8 (fun j => if j = A.length then .slice (some ⟨g9, 0, none⟩) (ln + 1) cap9 else gval2 j))) := by
                intro g9 cap9 w9 hown9 hgrow9 hat9 _
                have hfar : ∀ b, b < wc.heap.size → some b ≠ (Value.slice up ln uc).ownBlock → w9.heap[b]? = wc.heap[b]? := fun b h1 h2 => (hgrow9.block b (by simp; omega) h2).trans (Below.heap_alloc wc _ _ h1)
                refine ⟨(World.cell?_of_block (a := ⟨w.heap.size, 0, none⟩) (hfar _ hlow6 hne1)).trans r1, (World.cell?_of_block (a := ⟨c.rp, 11, none⟩) (hfar _ hrpw6 hne2)).trans r3, (World.cell?_of_block (a := ⟨G, La, none⟩) (hfar _ hGlt hGne)).trans r4, (World.frozen?_of_block (a := ⟨G, La, none⟩) (hfar _ hGlt hGne)).trans f4, ?_⟩
                have hx := H6.out.member (g := g9) (cap := cap9) (m := m) (w2 := w9) ok.out hgg.out hgl rfl (by have := hown0.out.1; omega)
                rw [huv, HLN.out, HLA.out] at hx
                rw [HLA.out]
                exact hx ((World.grownBy_alloc wc (.cells #[.int .i64 (m : Int)] 3) _).andThen (row' := (Value.slice up ln uc).ownBlock) ⟨hgrow9.os, hgrow9.tape, hgrow9.output, hgrow9.size, hgrow9.block⟩ (fun j hj => .inr hj)) (hat9.imp id (fun e => by omega)) hown9
              clear hs6 hGs hl1 hA8 hLa hN hgo huv hgetx hln hgr hGne hne1 hne2
              go_wp2_with fail
              refine wp_region_noPanic ?_
              refine wp_region_held_drew (S := fun w' => w'.cell? ⟨w.heap.size, 0, none⟩ = some (.pointer (some ⟨c.rp, 0, none⟩)) ∧ w'.cell? ⟨c.rp, 11, none⟩ = some (.slice (some ⟨G, 0, none⟩) N gc)) (by kernel_rfl) ⟨r1, r3⟩ (fun hHeld => ?_)
              refine wpAnyH_take (i := 0) (oi := _) (v := .pointer (some ⟨c.rp, 0, none⟩)) rfl (by kernel_rfl) (by kernel_rfl) (by kernel_rfl) (fun _ _ _ h => h) (Or.inl ⟨by rfl, by intro w hSw; (try dsimp only at hSw); go_simp⟩) (by assumption) ?_
              try go_frame
              refine wpAnyH_take (i := 1) (oi := _) (v := .pointer (some ⟨c.rp, 0, none⟩)) rfl (by kernel_rfl) (by kernel_rfl) (by kernel_rfl) (fun _ _ _ h => h) (Or.inl ⟨by rfl, by intro w hSw; (try dsimp only at hSw); go_simp⟩) (by assumption) ?_
              try go_frame
              refine wpAnyH_take (i := 2) (oi := _) (v := .pointer (some ⟨c.rp, 11, none⟩)) rfl (by kernel_rfl) (by kernel_rfl) (by kernel_rfl) (fun _ _ _ h => h) (Or.inl ⟨by rfl, by intro w hSw; (try dsimp only at hSw); go_simp⟩) (by assumption) ?_
              try go_frame
              refine wpAnyH_take (i := 3) (oi := _) (v := .slice (some ⟨G, 0, none⟩) N gc) rfl (by kernel_rfl) (by kernel_rfl) (by kernel_rfl) (fun _ _ _ h => h) (Or.inl ⟨by rfl, by intro w hSw; (try dsimp only at hSw); go_simp⟩) (by assumption) ?_
              try go_frame
              refine wpAnyH_take (i := 4) (oi := _) (v := .pointer (some ⟨c.rp, 0, none⟩)) rfl (by kernel_rfl) (by kernel_rfl) (by kernel_rfl) (fun _ _ _ h => h) (Or.inl ⟨by rfl, by intro w hSw; (try dsimp only at hSw); go_simp⟩) (by assumption) ?_
              try go_frame
              refine wpAnyH_take (i := 5) (oi := _) (v := .pointer (some ⟨c.rp, 0, none⟩)) rfl (by kernel_rfl) (by kernel_rfl) (by kernel_rfl) (fun _ _ _ h => h) (Or.inl ⟨by rfl, by intro w hSw; (try dsimp only at hSw); go_simp⟩) (by assumption) ?_
              try go_frame
              refine wpAnyH_take (i := 6) (oi := _) (v := .pointer (some ⟨c.rp, 11, none⟩)) rfl (by kernel_rfl) (by kernel_rfl) (by kernel_rfl) (fun _ _ _ h => h) (Or.inl ⟨by rfl, by intro w hSw; (try dsimp only at hSw); go_simp⟩) (by assumption) ?_
              try go_frame
              refine wpAnyH_take (i := 7) (oi := _) (v := .slice (some ⟨G, 0, none⟩) N gc) rfl (by kernel_rfl) (by kernel_rfl) (by kernel_rfl) (fun _ _ _ h => h) (Or.inl ⟨by rfl, by intro w hSw; (try dsimp only at hSw); go_simp⟩) (by assumption) ?_
              try go_frame
              refine wpAnyH_take (i := 8) (oi := _) (v := .int .i64 (N : Int)) rfl (by kernel_rfl) (by kernel_rfl) (by kernel_rfl) (fun _ _ _ h => h) (Or.inl ⟨by rfl, by intro w hSw; (try dsimp only at hSw); go_simp⟩) (by assumption) ?_
              try go_frame
              refine wpAnyH_take (i := 9) (oi := _) (v := .int .i64 (La : Int)) rfl (by kernel_rfl) (by kernel_rfl) (by kernel_rfl) (fun _ _ _ h => h) (Or.inl ⟨by rfl, by intro w hSw; (try dsimp only at hSw); go_simp⟩) (by assumption) ?_
              try go_frame
              refine wpAnyH_take (i := 10) (oi := _) (v := .pointer (some ⟨c.rp, 0, none⟩)) rfl (by kernel_rfl) (by kernel_rfl) (by kernel_rfl) (fun _ _ _ h => h) (Or.inl ⟨by rfl, by intro w hSw; (try dsimp only at hSw); go_simp⟩) (by assumption) ?_
              try go_frame
              refine wpAnyH_take (i := 11) (oi := _) (v := .pointer (some ⟨c.rp, 0, none⟩)) rfl (by kernel_rfl) (by kernel_rfl) (by kernel_rfl) (fun _ _ _ h => h) (Or.inl ⟨by rfl, by intro w hSw; (try dsimp only at hSw); go_simp⟩) (by assumption) ?_
              try go_frame
              refine wpAnyH_take (i := 12) (oi := _) (v := .pointer (some ⟨c.rp, 11, none⟩)) rfl (by kernel_rfl) (by kernel_rfl) (by kernel_rfl) (fun _ _ _ h => h) (Or.inl ⟨by rfl, by intro w hSw; (try dsimp only at hSw); go_simp⟩) (by assumption) ?_
              try go_frame
              refine wpAnyH_take (i := 13) (oi := _) (v := .slice (some ⟨G, 0, none⟩) N gc) rfl (by kernel_rfl) (by kernel_rfl) (by kernel_rfl) (fun _ _ _ h => h) (Or.inl ⟨by rfl, by intro w hSw; (try dsimp only at hSw); go_simp⟩) (by assumption) ?_
              try go_frame
              refine wpAnyH_take (i := 14) (oi := _) (v := .pointer (some ⟨c.rp, 0, none⟩)) rfl (by kernel_rfl) (by kernel_rfl) (by kernel_rfl) (fun _ _ _ h => h) (Or.inl ⟨by rfl, by intro w hSw; (try dsimp only at hSw); go_simp⟩) (by assumption) ?_
              try go_frame
              refine wpAnyH_take (i := 15) (oi := _) (v := .pointer (some ⟨c.rp, 0, none⟩)) rfl (by kernel_rfl) (by kernel_rfl) (by kernel_rfl) (fun _ _ _ h => h) (Or.inl ⟨by rfl, by intro w hSw; (try dsimp only at hSw); go_simp⟩) (by assumption) ?_
              try go_frame
              refine wpAnyH_take (i := 16) (oi := _) (v := .pointer (some ⟨c.rp, 11, none⟩)) rfl (by kernel_rfl) (by kernel_rfl) (by kernel_rfl) (fun _ _ _ h => h) (Or.inl ⟨by rfl, by intro w hSw; (try dsimp only at hSw); go_simp⟩) (by assumption) ?_
              try go_frame
              refine wpAnyH_take (i := 17) (oi := _) (v := .slice (some ⟨G, 0, none⟩) N gc) rfl (by kernel_rfl) (by kernel_rfl) (by kernel_rfl) (fun _ _ _ h => h) (Or.inl ⟨by rfl, by intro w hSw; (try dsimp only at hSw); go_simp⟩) (by assumption) ?_
              try go_frame
              refine wpAnyH_take (i := 18) (oi := _) (v := .int .i64 (N : Int)) rfl (by kernel_rfl) (by kernel_rfl) (by kernel_rfl) (fun _ _ _ h => h) (Or.inl ⟨by rfl, by intro w hSw; (try dsimp only at hSw); go_simp⟩) (by assumption) ?_
              try go_frame
              refine wpAnyH_take (i := 19) (oi := _) (v := .int .i64 (La : Int)) rfl (by kernel_rfl) (by kernel_rfl) (by kernel_rfl) (fun _ _ _ h => h) (Or.inl ⟨by rfl, by intro w hSw; (try dsimp only at hSw); go_simp⟩) (by assumption) ?_
              try go_frame
              refine wpAnyH_take (i := 20) (oi := _) (v := .pointer (some ⟨G, La, none⟩)) rfl (by kernel_rfl) (by kernel_rfl) (by kernel_rfl) (fun _ _ _ h => h) (Or.inl ⟨by rfl, by intro w hSw; (try dsimp only at hSw); go_simp⟩) (by assumption) ?_
              try go_frame
              refine wpAnyH_take (i := 22) (oi := _) (v := .int .i64 (m : Int)) rfl (by kernel_rfl) (by kernel_rfl) (by kernel_rfl) (fun _ _ _ h => h) (Or.inl ⟨by rfl, by intro w hSw; (try dsimp only at hSw); go_simp⟩) (by assumption) ?_
              try go_frame
              refine wpAnyH_ready (rs := [21, 23]) (by kernel_rfl) (by simp) ?_
              refine AllReadyH.cons (o := _) rfl (fun K hK => ?_) (AllReadyH.cons (o := _) rfl (fun K hK => ?_) AllReadyH.nil)
              · go_simp
                refine hK.out _ _ ⟨by go_simp, by go_simp⟩ (fun hHeld => ?_)
                clear hK K
                try go_frame
                refine wpAnyH_ready (rs := [23]) (by kernel_rfl) (by simp) ?_
                refine AllReadyH.cons (o := _) rfl (fun K hK => ?_) AllReadyH.nil
                go_simp
                refine hK.out _ _ ⟨by go_simp, by go_simp⟩ (fun hHeld => ?_)
                clear hK K
                try go_frame
                refine wpAnyH_ready (rs := [24]) (by kernel_rfl) (by simp) ?_
                refine AllReadyH.cons (o := _) rfl (fun K hK => ?_) AllReadyH.nil
                refine step_append_lies _ (by rfl) _ _ _ (by rfl) lo2 3 ii (.int .i64 0) 1 8 Yba.underlying22 hi0 hz0 hz1 hz2 (by rfl) (by omega) (.slice up ln uc) ln _ (by rfl) HUO.out ⟨wc.heap.size, 0, none⟩ 1 1 [.int .i64 (m : Int)] (by rfl) (by rfl) (World.news_of_block (cs := #[.int .i64 (m : Int)]) (Go.Deep.blk_alloc_new _ _)) (by simp [Value.oneCell']) (by omega) (by unfold maxLen; omega) (by omega) (by simp; omega) (wc.heap.size + 1) (by simp) ?_
                intro g9 cap9 w9 x1 x2 x3 x4
                obtain ⟨s1, s2, s3, s4, H9⟩ := HAP.out g9 cap9 w9 x1 x2 x3 x4
                clear x1 x2 x3 x4
                refine hK.out _ _ ⟨s1, s2⟩ (fun hHeld => ?_)
                clear hK K
                try go_frame
                refine wpAnyH_take (i := 25) (oi := _) (v := .pointer (some ⟨G, La, none⟩)) rfl (by kernel_rfl) (by kernel_rfl) (by kernel_rfl) (fun _ _ _ h => h) (Or.inl ⟨by rfl, by intro w hSw; (try dsimp only at hSw); go_simp⟩) (by assumption) ?_
                try go_frame
                refine wpAnyH_ready (rs := [26]) (by kernel_rfl) (by simp) ?_
                refine AllReadyH.cons (o := _) rfl (fun K hK => ?_) AllReadyH.nil
                go_simp
                refine hK.out _ _ ⟨by go_simp, by go_simp⟩ (fun hHeld => ?_)
                clear hK K
                try go_frame
                refine wpAnyH_done (by kernel_rfl) ?_ _
                refine NoPanic.normal ?_
                go_wp2_with fail
                go_roundg (c.L - (i + 1))
                case measure => omega
                case rel =>
                  have h9 := H9.out
                  rw [← HM.out, HGS.out] at h9
                  have e1 : A.length + 1 = (Gs c.mask (seg d 0 (i + 1))).length := by rw [← HGS.out]; simp
                  rw [e1] at h9
                  exact ⟨i + 1, _, _, by omega, rfl, by go_num, h9⟩
              · go_simp
                refine hK.out _ _ ⟨by go_simp, by go_simp⟩ (fun hHeld => ?_)
                clear hK K
                try go_frame
                refine wpAnyH_ready (rs := [21]) (by kernel_rfl) (by simp) ?_
                refine AllReadyH.cons (o := _) rfl (fun K hK => ?_) AllReadyH.nil
                go_simp
                refine hK.out _ _ ⟨by go_simp, by go_simp⟩ (fun hHeld => ?_)
                clear hK K
                try go_frame
                refine wpAnyH_ready (rs := [24]) (by kernel_rfl) (by simp) ?_
                refine AllReadyH.cons (o := _) rfl (fun K hK => ?_) AllReadyH.nil
                refine step_append_lies _ (by rfl) _ _ _ (by rfl) lo2 3 ii (.int .i64 0) 1 8 Yba.underlying22 hi0 hz0 hz1 hz2 (by rfl) (by omega) (.slice up ln uc) ln _ (by rfl) HUO.out ⟨wc.heap.size, 0, none⟩ 1 1 [.int .i64 (m : Int)] (by rfl) (by rfl) (World.news_of_block (cs := #[.int .i64 (m : Int)]) (Go.Deep.blk_alloc_new _ _)) (by simp [Value.oneCell']) (by omega) (by unfold maxLen; omega) (by omega) (by simp; omega) (wc.heap.size + 1) (by simp) ?_
                intro g9 cap9 w9 x1 x2 x3 x4
                obtain ⟨s1, s2, s3, s4, H9⟩ := HAP.out g9 cap9 w9 x1 x2 x3 x4
                clear x1 x2 x3 x4
                refine hK.out _ _ ⟨s1, s2⟩ (fun hHeld => ?_)
                clear hK K
                try go_frame
                refine wpAnyH_take (i := 25) (oi := _) (v := .pointer (some ⟨G, La, none⟩)) rfl (by kernel_rfl) (by kernel_rfl) (by kernel_rfl) (fun _ _ _ h => h) (Or.inl ⟨by rfl, by intro w hSw; (try dsimp only at hSw); go_simp⟩) (by assumption) ?_
                try go_frame
                refine wpAnyH_ready (rs := [26]) (by kernel_rfl) (by simp) ?_
                refine AllReadyH.cons (o := _) rfl (fun K hK => ?_) AllReadyH.nil
                go_simp
                refine hK.out _ _ ⟨by go_simp, by go_simp⟩ (fun hHeld => ?_)
                clear hK K
                try go_frame
                refine wpAnyH_done (by kernel_rfl) ?_ _
                refine NoPanic.normal ?_
                go_wp2_with fail
                go_roundg (c.L - (i + 1))
                case measure => omega
                case rel =>
                  have h9 := H9.out
                  rw [← HM.out, HGS.out] at h9
                  have e1 : A.length + 1 = (Gs c.mask (seg d 0 (i + 1))).length := by rw [← HGS.out]; simp
                  rw [e1] at h9
                  exact ⟨i + 1, _, _, by omega, rfl, by go_num, h9⟩
        · obtain rfl : i = c.L := by omega
          have hlti2 : ¬ (c.L : Int) < (c.L : Int) := by omega
          have hgs : Gs c.mask (seg d 0 c.L) = Gs c.mask (seg c.o 0 c.L) := Gs_same HMA.out.1.same
          rw [hgs] at H3
          obtain ⟨gl, hgl0⟩ : ∃ gl, gl = Gs c.mask (seg c.o 0 c.L) := ⟨_, rfl⟩
          have HGL : Hid (gl = Gs c.mask (seg c.o 0 c.L)) := hgl0
          have hgl8 : gl.length ≤ 256 := by rw [hgl0]; exact Gs_le _ _
          rw [← hgl0] at H3
          have hhd : ∀ j, j < gl.length → 0 < (gl.getD j []).length ∧ fm gl j ∈ seg c.o 0 c.L ∧ c.mask (fm gl j) = (WMb c.mask (seg c.o 0 c.L) 256).getD j 0 := by rw [hgl0]; exact fun j hj => Gs_head hj
          have hml : ∀ j, j < gl.length → fm gl j < c.n := fun j hj => by
            obtain ⟨i, _, hi, e⟩ := mem_seg.1 (hhd j hj).2.1
            rw [← e]; exact ok.out.o i hi
          have hK1 : 1 ≤ gl.length := by
            rw [hgl0]
            have h0 := ok.out.mask _ (ok.out.o 0 hL1)
            exact Gs_pos (x := c.o 0) (mem_seg.2 ⟨0, Nat.le_refl _, hL1, rfl⟩) (by omega)
          have hvs : vs0.length = c.g0 := by have := hown0.out.1; omega
          have hg03 := ok.out.g3
          obtain ⟨G, gc, hgvf, _, _⟩ := H3.out.gown.form (by omega)
          subst hgvf
          obtain ⟨ib, ic, h8f, hib1, hib2⟩ := H3.out.idx.form hK1
          subst h8f
          have hkc : gl.length ≤ ic := by
            rcases H3.out.idx.2 with ⟨e1, _⟩ | ⟨g', cap', cur, e1, _, _, e3, _⟩
            · cases e1
            · simp only [Value.slice.injEq, Option.some.injEq, Addr.mk.injEq, and_true, true_and] at e1
              omega
          have HGZ : Hid (GZ c w.heap.size gl.length G gc gl wr) := H3.out.gz ok.out hgg.out hvs (fun j hj => (hhd j hj).1)
          have HMK : Hid (∀ j, j < gl.length → fm gl j < c.n ∧ c.mask (fm gl j) = (fun j => (WMb c.mask (seg c.o 0 c.L) 256).getD j 0) j) := fun j hj => ⟨hml j hj, (hhd j hj).2.2⟩
          have HIC : Hid (∀ j, j < gl.length → wr.cell? ⟨ib, j, none⟩ = some (.int .i64 ((c.g0 + j : Nat) : Int))) := fun j hj => by
            rw [H3.out.idx.cellAt j (by omega), List.getElem?_map, List.getElem?_range hj]; rfl
          obtain ⟨K, hK⟩ : ∃ K, gl.length = K := ⟨_, rfl⟩
          have HKE : Hid (gl.length = K) := hK
          rw [hK] at HGZ HMK HIC hK1 hgl8 hkc H3 ⊢
          have hsz := H3.out.base.sz
          have hl2 := H3.out.base.lo2
          have hlow : w.heap.size ≤ wr.heap.size := by omega
          have HZO : Hid (ZO wr c.rp K (fun j => c.g0 + j) (fun j => c.zp (fm gl j)) (fun j => c.zl (fm gl j)) (fun j => c.zc (fm gl j))) := HGZ.out.zo ok.out (fun j hj => (HMK.out j hj).1)
          have HZN : Hid (∀ j, j < K → Zn wr.heap.size wr ((fun j => c.zp (fm gl j)) j) ((fun j => c.zl (fm gl j)) j) ((fun j => c.zc (fm gl j)) j) ((fun j => (WMb c.mask (seg c.o 0 c.L) 256).getD j 0) j)) := HGZ.out.zns hlow HMK.out
          have r1 := H3.out.base.rc
          have r2 := H3.out.base.fix.r2
          have hid3 := ok.out.id3
          have hidi : (c.id : Int) < 3 := by omega
          have htl := ok.out.lt
          have HTB : Hid (wr.rowIs c.tb 62 12 T) := htb.out.of_block H3.out.base.tbb
          clear hs3 hgs hgl0 hhd hml hvs hK
          go_wp2_with (first
            | (go_at_call 15
               refine (shortlist_any c.rp ib K ic (fun j => c.g0 + j) (fun j => c.zp (fm gl j)) (fun j => c.zl (fm gl j)) (fun j => c.zc (fm gl j)) (fun j => (WMb c.mask (seg c.o 0 c.L) 256).getD j 0) wr hK1 (by omega) HIC hib2 HZO HZN).mono ?_
               rintro e w4 ⟨hb4, wb, n2, f, rfl, hwb, hn2, hwm, hf1, hf2⟩
               have H4 : Hid (Below wr.heap.size wr w4) := hb4
               have HT4 : Hid (w4.rowIs c.tb 62 12 T) := HTB.out.of_block (hb4.block _ (by omega))
               have t1 : w4.cell? ⟨c.tb, c.id * 4 + 1, none⟩ = some (T (c.id * 4 + 1)) := HT4.out.cell (by omega)
               have t2 : w4.cell? ⟨c.tb, c.id * 4 + 2, none⟩ = some (T (c.id * 4 + 2)) := HT4.out.cell (by omega)
               have g1 : w4.frozen? ⟨c.tb, c.id * 4 + 1, none⟩ = false := HT4.out.frozen _
               have g2 : w4.frozen? ⟨c.tb, c.id * 4 + 2, none⟩ = false := HT4.out.frozen _
               have HW4 : Hid (WMp w4 wb n2 f ∧ (∀ z, z < 8 → (f z).isSome = decide (K < 2 * cn (fun j => (WMb c.mask (seg c.o 0 c.L) 256).getD j 0) K z)) ∧ ∀ z v, z < 8 → f z = some v → Sl wr.heap.size w4 v (wo (fun j => (WMb c.mask (seg c.o 0 c.L) 256).getD j 0) (fun j => c.g0 + j) K z)) := ⟨hwm, hf1, hf2⟩
               have q1 : w4.cell? ⟨w.heap.size, 0, none⟩ = some (.pointer (some ⟨c.rp, 0, none⟩)) := (hb4.cell (p := ⟨w.heap.size, 0, none⟩) (by show w.heap.size < _; omega)).trans r1
               clear hb4 hwm hf1 hf2))
          obtain ⟨W5, hW5⟩ : ∃ W5, W5 = (w4.setCell ⟨c.tb, c.id * 4 + 1, none⟩ (.slice (some ⟨ib, 0, none⟩) K ic)).setCell ⟨c.tb, c.id * 4 + 1 + 1, none⟩ (.map (some wb)) := ⟨_, rfl⟩
          rw [← hW5]
          have hb5 : ∀ b, b ≠ c.tb → W5.heap[b]? = w4.heap[b]? := fun b hb => by
            rw [hW5, Below.heap_setCell _ _ _ _ hb, Below.heap_setCell _ _ _ _ hb]
          have hs5 : W5.heap.size = w4.heap.size := by rw [hW5]; simp
          have hs4 := H4.out.size
          have hbw : ∀ b, b < wr.heap.size → b ≠ c.tb → W5.heap[b]? = wr.heap[b]? := fun b h1 h2 => (hb5 b h2).trans (H4.out.block b h1)
          have HB5 : Hid ((∀ b, b ≠ c.tb → W5.heap[b]? = w4.heap[b]?) ∧ ∀ b, b < wr.heap.size → b ≠ c.tb → W5.heap[b]? = wr.heap[b]?) := ⟨hb5, hbw⟩
          have HT5 : Hid (W5.rowIs c.tb 62 12 (fun j => if j = c.id * 4 + 1 then .slice (some ⟨ib, 0, none⟩) K ic else if j = c.id * 4 + 2 then .map (some wb) else T j)) := by
            rw [hW5]
            refine ((HT4.out.set (c.id * 4 + 1) (.slice (some ⟨ib, 0, none⟩) K ic)).set (c.id * 4 + 1 + 1) (.map (some wb))).congr fun j _ => ?_
            by_cases e1 : j = c.id * 4 + 1
            · rw [if_neg (by omega), if_pos e1, if_pos e1]
            · by_cases e2 : j = c.id * 4 + 2
              · rw [if_pos (by omega), if_neg e1, if_pos e2]
              · rw [if_neg (by omega), if_neg e1, if_neg e1, if_neg e2]
          have hibt : ib ≠ c.tb := by omega
          have HGZ5 : Hid (GZ c w.heap.size K G gc gl W5) := HGZ.out.keep ok.out hbw
          have HIC5 : Hid (∀ j, j < K → W5.cell? ⟨ib, j, none⟩ = some (.int .i64 (((fun j => c.g0 + j) j : Nat) : Int))) := fun j hj => (World.cell?_of_block (a := ⟨ib, j, none⟩) (hbw ib hib2 hibt)).trans (HIC.out j hj)
          have hib5 : ib < W5.heap.size := by omega
          have HZO5 : Hid (ZO W5 c.rp K (fun j => c.g0 + j) (fun j => c.zp (fm gl j)) (fun j => c.zl (fm gl j)) (fun j => c.zc (fm gl j))) := HGZ5.out.zo ok.out (fun j hj => (HMK.out j hj).1)
          have HZN5 : Hid (∀ j, j < K → Zn W5.heap.size W5 ((fun j => c.zp (fm gl j)) j) ((fun j => c.zl (fm gl j)) j) ((fun j => c.zc (fm gl j)) j) ((fun j => (WMb c.mask (seg c.o 0 c.L) 256).getD j 0) j)) := HGZ5.out.zns (by omega) HMK.out
          have HS5 : Hid (W5.os = w4.os ∧ W5.tape = w4.tape ∧ W5.output = w4.output ∧ W5.heap.size = w4.heap.size) := by rw [hW5]; exact ⟨rfl, rfl, rfl, by simp⟩
          have hsw5 : wr.heap.size ≤ W5.heap.size := by omega
          clear hb5 hbw hW5 t1 t2 g1 g2 q1 hs5 r1 r2
          go_wp2_with (first
            | (go_at_call 17
               refine (held_any c.rp ib K ic (fun j => c.g0 + j) (fun j => c.zp (fm gl j)) (fun j => c.zl (fm gl j)) (fun j => c.zc (fm gl j)) (fun j => (WMb c.mask (seg c.o 0 c.L) 256).getD j 0) W5 hK1 (by omega) hkc HIC5 hib5 HZO5 HZN5).mono ?_
               rintro e w6 ⟨hb6, zv, rfl, hzv⟩
               obtain ⟨zvp, zvl, zvc, hzf⟩ := hzv.form
               subst hzf
               have H6 : Hid (Below W5.heap.size W5 w6) := hb6
               have HZV : Hid (HZ W5.heap.size w6 (.slice zvp zvl zvc) ((zlist ((fun j => (WMb c.mask (seg c.o 0 c.L) 256).getD j 0) 0) 8).filter fun z => (List.range (K - 1)).all fun i => ((fun j => (WMb c.mask (seg c.o 0 c.L) 256).getD j 0) (i + 1)).testBit z)) := hzv
               have HT6 : Hid (w6.rowIs c.tb 62 12 (fun j => if j = c.id * 4 + 1 then .slice (some ⟨ib, 0, none⟩) K ic else if j = c.id * 4 + 2 then .map (some wb) else T j)) := HT5.out.of_block (hb6.block _ (by omega))
               have t3 : w6.cell? ⟨c.tb, c.id * 4 + 3, none⟩ = some (T (c.id * 4 + 3)) := by
                 have h := HT6.out.cell (i := c.id * 4 + 3) (by omega)
                 rw [if_neg (by omega), if_neg (by omega)] at h
                 exact h
               have g3 : w6.frozen? ⟨c.tb, c.id * 4 + 3, none⟩ = false := HT6.out.frozen _
               clear hb6 hzv))
          go_end0
          refine ⟨rfl, ?_⟩
          have h3 := H3.out
          rw [← HKE.out, HGL.out] at h3
          have hf : Fr (fun b => b = c.tb) wr (w6.setCell ⟨c.tb, c.id * 4 + 3, none⟩ (.slice zvp zvl zvc)) := by
            refine Fr.setCell ⟨H6.out.os.trans (HS5.out.1.trans H4.out.os), H6.out.tape.trans (HS5.out.2.1.trans H4.out.tape), H6.out.output.trans (HS5.out.2.2.1.trans H4.out.output), Nat.le_trans hsw5 H6.out.size, fun k hk hn => (H6.out.block k (by omega)).trans (HB5.out.2 k hk hn)⟩ (.inl rfl) _
          have hb7 : ∀ b, b < w4.heap.size → b ≠ c.tb → (w6.setCell ⟨c.tb, c.id * 4 + 3, none⟩ (.slice zvp zvl zvc)).heap[b]? = w4.heap[b]? := fun b h1 h2 => by
            rw [Below.heap_setCell _ _ _ _ h2, H6.out.block b (by rw [HS5.out.2.2.2]; exact h1)]
            exact HB5.out.1 b h2
          have hsl : ∀ v l, Sl wr.heap.size w4 v l → Sl w.heap.size (w6.setCell ⟨c.tb, c.id * 4 + 3, none⟩ (.slice zvp zvl zvc)) v l := by
            rintro v l ⟨p, cc, e1, h1⟩
            refine ⟨p, cc, e1, fun h0 => ?_⟩
            obtain ⟨b, e2, g1, g2, g3⟩ := h1 h0
            have := H6.out.size
            have := HS5.out.2.2.2
            exact ⟨b, e2, by omega, by simp; omega, fun i hi => (World.cell?_of_block (a := ⟨b, i, none⟩) (hb7 b g2 (by omega))).trans (g3 i hi)⟩
          refine h3.post ok.out hgg.out (by have := hown0.out.1; omega) hf ⟨.slice (some ⟨ib, 0, none⟩) K ic, .slice zvp zvl zvc, wb, n2, f, ?_, ?_, ?_, ?_, ?_, ?_⟩
          · refine (HT6.out.set (c.id * 4 + 3) (.slice zvp zvl zvc)).congr fun j _ => ?_
            by_cases e1 : j = c.id * 4 + 1
            · rw [if_neg (by omega), if_pos e1, if_pos e1]
            · by_cases e2 : j = c.id * 4 + 2
              · rw [if_neg (by omega), if_neg e1, if_pos e2, if_neg e1, if_pos e2]
              · by_cases e3 : j = c.id * 4 + 3
                · rw [if_pos e3, if_neg e1, if_neg e2, if_pos e3]
                · rw [if_neg e3, if_neg e1, if_neg e2, if_neg e1, if_neg e2, if_neg e3]
          · rw [← HGL.out, HKE.out]
            refine ⟨some ⟨ib, 0, none⟩, ic, by simp, fun _ => ⟨ib, rfl, by omega, by have := hf.size; omega, fun i hi => ?_⟩⟩
            have hi2 : i < K := by simpa using hi
            refine (hf.cell (p := ⟨ib, i, none⟩) hib2 (by show ¬ ib = c.tb; omega)).trans ?_
            rw [HIC.out i hi2]
            simp [List.getD, List.getElem?_range hi2]
          · exact HW4.out.1.of_block (hb7 wb HW4.out.1.lt (by omega))
          · rw [← HGL.out, HKE.out]
            exact HW4.out.2.1
          · rw [← HGL.out, HKE.out]
            exact fun z v hz hv => hsl v _ (HW4.out.2.2 z v hz hv)
          · rw [← HGL.out, HKE.out]
            rcases HZV.out with e | ⟨B, L, l, cap, dd, e1, e2, e3, e4, e5, e6, e7⟩
            · exact .inl e
            · exact .inr ⟨B, L, l, cap, dd, e1, e2, e3, e4, by omega, e6.of_block (Below.heap_setCell _ _ _ _ (by show B ≠ c.tb; omega)), e7⟩
end SortA
end Go.Proofs.Ybulkdgou
