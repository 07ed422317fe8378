import Derived.Test.YbulkdgjkFmtHybrid
namespace Go.Proofs.YbulkdgjkFmt
open Go.RowKit Go.Extern.Stop Go.Stop Go.Extern
attribute [local go_sem ↓] Go.wp_at_zero Go.wp_at_succ

def IsS (w : World) (a : Option Addr) (n : Nat) (S : Nat → ByteArray) : Prop :=
  0 < n → ∃ b off, a = some ⟨b, off, none⟩ ∧ b < w.heap.size ∧ ∀ i, i < n → w.cell? ⟨b, off + i, none⟩ = some (.string (S i))
def IsB (w : World) (a : Option Addr) (n : Nat) (P : Nat → Nat) : Prop :=
  0 < n → ∃ b off, a = some ⟨b, off, none⟩ ∧ b < w.heap.size ∧ ∀ i, i < n → w.cell? ⟨b, off + i, none⟩ = some (.int .u8 (P i : Int)) ∧ P i ≤ 255

theorem size9 : (Ybaf.prog.info? 9).map (·.size) = some 1 := by kernel_rfl
theorem info9 : (Ybaf.prog.info? 9).map (fun i => (i.zero, i.size, i.bytes)) = some (some (.string ⟨#[]⟩), 1, 16) := by kernel_rfl

theorem wpList_copyS {ops : Array Oper} {rest : List Oper} {o : Oper} {a : Act} {w : World} {Q : Exit → Act → World → Prop} (hgd : o.guard = none) (ho : o.op = .call { callee := .builtin .copy, args := #[.tmp 38, .tmp 39], argTypes := #[22, 22] })
    (g d cap : Nat) (ad : Option Addr) (X : Nat → ByteArray) (hd : a.eval (.tmp 38) = .slice (some ⟨g, 0, none⟩) d d) (hs : a.eval (.tmp 39) = .slice ad d cap) (hrow : w.rowIs g 9 d (fun _ => .string ⟨#[]⟩)) (hsrc : IsS w ad d X)
    (h : ∀ w1, Below g w w1 → w1.heap.size = w.heap.size → w1.rowIs g 9 d (fun m => .string (X m)) → wpList Ybaf.prog ops Q rest (a.put o.dst (goInt d)) w1) : wpList Ybaf.prog ops Q (o :: rest) a w := by
  rcases Nat.eq_zero_or_pos d with h0 | h0
  · subst h0
    refine wpList_copy_nothing hgd _ _ 22 22 ho 9 Ybaf.underlying22 size9 _ _ 0 0 0 cap hd hs rfl ?_
    exact h w (Below.refl _ _) rfl (hrow.congr fun i hi => by omega)
  · obtain ⟨b, off, rfl, hb, hc⟩ := hsrc h0
    obtain ⟨c, hg, hc1, hc2⟩ := hrow
    have hlen : ((List.range d).map fun m => Value.string (X m)).length = d := by simp
    refine wpList_copy_own hgd _ _ 22 22 ho 9 Ybaf.underlying22 size9 g 0 d d ⟨b, off, none⟩ d cap hd hs c 9 hg ((List.range d).map fun m => .string (X m)) (by simp) ?_ (by simp; omega) ?_ ?_
    · intro j v hj
      rw [List.getElem?_map] at hj
      obtain ⟨m, hm, rfl⟩ := Option.map_eq_some_iff.1 hj
      obtain ⟨hl, rfl⟩ := List.getElem?_eq_some_iff.1 hm
      simp at hl ⊢
      rw [Addr.add_lit]
      exact hc j hl
    · intro v hv
      simp at hv
      obtain ⟨m, _, rfl⟩ := hv
      rfl
    · rw [hlen]
      refine h _ (below_setRow (Below.refl _ _) (Nat.le_refl _) _) (by simp) ⟨_, setRow_heap w g c _ 9 (0, 0) hg, ?_, ?_⟩
      · simp; omega
      · intro i hi
        simp
        rw [List.getElem?_append_left (by simpa using hi)]
        simp [hi]

theorem run_mk0 (q : Nat) (h : q ≤ 1024) (w : World) :
    (Instr.makeSlice 22 (.int .i64 0) (.int .i64 (q : Int))).run Ybaf.prog w = .ok (.slice (some ⟨w.heap.size, 0, none⟩) 0 q) (w.alloc (.cells (madeCells #[.string ⟨#[]⟩] q) 9)) := by
  obtain ⟨i, hi, hz, hs, hb⟩ := info_parts info9
  have := run_make (P := Ybaf.prog) w 22 9 i _ Ybaf.underlying22 hi hz .i64 .i64 0 q (by omega) (by omega) (by rw [hb]; omega) (by omega)
  simp only [Int.toNat_natCast, hs, Nat.mul_one] at this
  exact this

/-- What a pick names. -/
def pk (S : Nat → ByteArray) (P : Nat → Nat) (n : Nat) (x : ByteArray) (j : Nat) : ByteArray := if P j % (n + 1) < n then S (P j % (n + 1)) else x

def typCells (nb n : Nat) : Array Value := #[.slice (some ⟨nb, 0, none⟩) n n, .slice none 0 0, .slice none 0 0, .slice none 0 0, .slice none 0 0, .slice none 0 0, .slice none 0 0, .slice none 0 0]
def objCells (tb pr : Nat) : Array Value := #[.pointer none, .int .u64 0, .string ⟨#[111]⟩, .pointer (some ⟨tb, 0, none⟩), .nilFunc, .int .i32 0, .chan none, .slice none 0 0, .int .i64 0, .int .u8 0, .nilFunc,
  .pointer none, .slice (some ⟨pr, 0, none⟩) 1 1, .int .u8 0, .bool false, .slice none 0 0, .pointer none, .pointer none, .map none, .pointer none, .nilIface, .slice none 0 0, .pointer none, .slice none 0 0, .string ⟨#[]⟩, .int .u64 0]
def built (W : World) (nb n : Nat) : World := ((W.alloc (.cells #[.bool true] 4)).alloc (.cells (typCells nb n) 31)).alloc (.cells (objCells (W.heap.size + 1) W.heap.size) 61)

theorem built_size (W : World) (nb n : Nat) : (built W nb n).heap.size = W.heap.size + 3 := by simp [built]
theorem built_below (W : World) (nb n : Nat) : Below W.heap.size W (built W nb n) :=
  (((Below.refl _ _).alloc (Nat.le_refl _) _).alloc (by simp) _).alloc (by simp; omega) _
theorem built_ob (W : World) (nb n i : Nat) : (built W nb n).cell? ⟨W.heap.size + 1 + 1, i, none⟩ = (objCells (W.heap.size + 1) W.heap.size)[i]? := by
  unfold built
  rw [World.cell?_alloc_at _ _ _ _ (by simp)]
theorem built_tb (W : World) (nb n i : Nat) : (built W nb n).cell? ⟨W.heap.size + 1, i, none⟩ = (typCells nb n)[i]? := by
  unfold built
  rw [World.cell?_alloc_past _ _ _ (by simp), World.cell?_alloc_at _ _ _ _ (by simp)]
theorem built_pr (W : World) (nb n : Nat) : (built W nb n).cell? ⟨W.heap.size, 0, none⟩ = some (.bool true) := by
  unfold built
  rw [World.cell?_alloc_past _ _ _ (by simp; omega), World.cell?_alloc_past _ _ _ (by simp), World.cell?_alloc_at _ _ _ _ rfl]
  rfl
theorem built_obj {W : World} {nb pb n q c : Nat} {S T : Nat → ByteArray} (hnb : nb < W.heap.size) (hpb : pb < W.heap.size) (hS : ∀ i, i < n → W.cell? ⟨nb, i, none⟩ = some (.string (S i))) (hT : ∀ j, j < q → W.cell? ⟨pb, j, none⟩ = some (.string (T j))) :
    Obj (built W nb n) (W.heap.size + 1 + 1) (W.heap.size + 1) nb pb n q c S T := by
  have hb := built_below W nb n
  have hs := built_size W nb n
  refine ⟨built_ob W nb n 2, built_ob W nb n 3, built_ob W nb n 5, ⟨_, built_ob W nb n 12⟩, fun i => ?_, built_tb W nb n 0, fun i hi => ?_, fun j hj => ?_, by omega, by omega, by omega, by omega⟩
  · unfold built
    rw [World.frozen?_alloc_at _ _ _ _ (by simp)]
  · rw [hb.cell hnb]; exact hS i hi
  · rw [hb.cell hpb]; exact hT j hj

set_option maxHeartbeats 800000 in
set_option maxRecDepth 100000 in
theorem law_big (a0 : Option Addr) (n c0 : Nat) (a1 : Option Addr) (q c1 : Nat) (x : ByteArray) (w : World) (h : 1024 < n ∨ 1024 < q) :
    Calls Ybaf.prog 3 #[.slice a0 n c0, .slice a1 q c1, .string x] w fun e w' => e = .returned (.bool true) ∧ Below w.heap.size w w' := by
  by_cases h8 : 1024 < n
  · have h8' : (1024 : Int) < (n : Int) := by omega
    clear h
    go_enter Ybaf.func3, Ybaf.ntmps3
    go_wp2
    go_ret
    exact ⟨rfl, Below.refl _ _⟩
  · have h8' : ¬ (1024 : Int) < (n : Int) := by omega
    have h40 : (1024 : Int) < (q : Int) := by omega
    clear h
    go_enter Ybaf.func3, Ybaf.ntmps3
    go_wp2
    go_ret
    exact ⟨rfl, Below.refl _ _⟩

set_option maxHeartbeats 1000000 in
set_option maxRecDepth 100000 in
theorem law_main (F : Interp) (a0 : Option Addr) (n c0 : Nat) (a1 : Option Addr) (q c1 : Nat) (x : ByteArray) (S : Nat → ByteArray) (P : Nat → Nat) (w : World) (hn : n ≤ 1024) (hq : q ≤ 1024)
    (hF : Hid (F.answers w.tape)) (hS : Hid (IsS w a0 n S)) (hP : Hid (IsB w a1 q P)) :
    Calls Ybaf.prog 3 #[.slice a0 n c0, .slice a1 q c1, .string x] w fun e w' => e = .returned (.bool true) ∧ Below w.heap.size w w' := by
  have h8' : ¬ (1024 : Int) < (n : Int) := by omega
  have h40 : ¬ (1024 : Int) < (q : Int) := by omega
  have hmk := run_make_row' (P := Ybaf.prog) 22 9 (.string ⟨#[]⟩) 16 Ybaf.underlying22 info9 rfl .i64 .i64 n (by omega) (by omega)
  have hmk0 := run_mk0 q hq
  go_enter Ybaf.func3, Ybaf.ntmps3
  go_wp2_with (first | (refine wpList_copyS rfl rfl _ n c0 a0 S rfl rfl (World.rowIs_made w (.string ⟨#[]⟩) n 9) (by
      intro h0; obtain ⟨b, off, e, hb, hc⟩ := hS.out h0
      exact ⟨b, off, e, by simp; omega, fun m hm => by rw [World.cell?_alloc_lt _ _ _ hb]; exact hc m hm⟩) ?_; intro w1 hb1 hs1 hr1))
  clear hmk hmk0
  have hs1' : w1.heap.size = w.heap.size + 1 := by rw [hs1]; simp
  have hbw1 : Below w.heap.size w w1 := ((Below.refl _ _).alloc (Nat.le_refl _) _).trans hb1
  have HW1 : Hid (Below w.heap.size w w1 ∧ w1.heap.size = w.heap.size + 1 ∧ w1.rowIs w.heap.size 9 n (fun m => .string (S m))) := ⟨hbw1, hs1', hr1⟩
  clear hb1 hs1 hr1 hs1' hbw1
  go_loopg [46, 8] q (fun gk s46 s8 wr => ∃ k g cap : Nat, k ≤ q ∧ gk = q - k ∧ s46 = .int .i64 k ∧ s8 = .slice (some ⟨g, 0, none⟩) k cap ∧ Below (w.heap.size + 1) w1 wr ∧ wr.ownsRow (w.heap.size + 1) 9 1 (.slice (some ⟨g, 0, none⟩) k cap) k ((List.range k).map fun j => .string (pk S P n x j)))
  case atStart =>
    obtain ⟨h1, h2, h3⟩ := HW1.out
    refine ⟨0, w.heap.size + 1, q, Nat.zero_le _, rfl, rfl, rfl, (Below.refl _ _).alloc (by omega) _, ?_⟩
    have := World.ownsRow_made (base := w.heap.size + 1) (e := 9) (size := 1) w1 (madeCells #[.string ⟨#[]⟩] q) q (by omega) (by unfold maxLen; omega) (by simp [size_madeCells])
    rw [h2] at this
    exact this
  case round =>
    obtain ⟨k, g, cap, hk, rfl, rfl, rfl, hb, hown⟩ := hrel
    obtain ⟨h1, h2, h3⟩ := HW1.out
    have hgl := hown.lt g rfl
    have hbw : Below w.heap.size w wr := h1.trans (hb.mono (by omega))
    by_cases hlt : k < q
    · have hlti : (k : Int) < (q : Int) := by omega
      obtain ⟨pa, po, rfl, hpa, hpc⟩ := hP.out (by omega)
      have cP : wr.cell? ⟨pa, po + k, none⟩ = some (.int .u8 (P k : Int)) := by rw [hbw.cell hpa]; exact (hpc k hlt).1
      have hPk : (P k : Int) ≤ 255 := by have := (hpc k hlt).2; omega
      have HB : Hid (Below (w.heap.size + 1) w1 wr ∧ wr.ownsRow (w.heap.size + 1) 9 1 (.slice (some ⟨g, 0, none⟩) k cap) k ((List.range k).map fun j => .string (pk S P n x j))) := ⟨hb, hown⟩
      clear hpc hb hown h1 h2 h3 hbw
      obtain ⟨m, hm, hm2⟩ : ∃ m : Nat, P k % (n + 1) = m ∧ ((P k : Int) % ((n : Int) + 1)) = (m : Int) := ⟨_, rfl, by simp⟩
      have hpk : pk S P n x k = if m < n then S m else x := by unfold pk; rw [hm]
      have HPK : Hid (pk S P n x k = if m < n then S m else x) := hpk
      clear hpk hm
      obtain ⟨i, hi, hz0, hz1, hz2⟩ := info_parts info9
      have hfin : ∀ (s : ByteArray) (g' cap' : Nat) (w3 : World), s = pk S P n x k → w3.ownsRow (w.heap.size + 1) 9 1 (.slice (some ⟨g', 0, none⟩) (k + 1) cap') (k + 1) ((List.range k).map (fun j => .string (pk S P n x j)) ++ [.string s]) →
          (wr.alloc (.cells #[.string s] 9)).grownBy w3 (some g) → Below (w.heap.size + 1) w1 w3 ∧ w3.ownsRow (w.heap.size + 1) 9 1 (.slice (some ⟨g', 0, none⟩) (k + 1) cap') (k + 1) ((List.range (k + 1)).map fun j => .string (pk S P n x j)) := by
        intro s g' cap' w3 hs ho hg
        refine ⟨(HB.out.1.alloc (by have := HB.out.1.size; omega) _).grown hg (by simp; have := HB.out.1.size; omega) (fun k hk => by injection hk with hk; omega), ?_⟩
        rw [List.range_succ, List.map_append]
        subst hs
        exact ho
      have HFIN := show Hid _ from hfin
      clear hfin
      go_upto_if 59 with (fail)
      by_cases hmn : m < n
      · have hmni : (m : Int) < (n : Int) := by omega
        have cm : wr.cell? ⟨w.heap.size, m, none⟩ = some (.string (S m)) := by
          rw [HB.out.1.cell (by simp)]; exact HW1.out.2.2.cell hmn
        have hown2 : Hid ((wr.alloc (.cells #[.string (S m)] 9)).ownsRow (w.heap.size + 1) 9 1 (.slice (some ⟨g, 0, none⟩) k cap) k ((List.range k).map fun j => .string (pk S P n x j))) := HB.out.2.alloc _
        have HN : Hid (∀ j u, [Value.string (S m)][j]? = some u → (wr.alloc (.cells #[.string (S m)] 9)).cell? ((⟨wr.heap.size, 0, none⟩ : Addr).add j) = some u) := World.news_of_block (cs := #[.string (S m)]) (Go.Deep.blk_alloc_new _ _)
        go_wp2_with (at_builtin; refine wpList_append_lies _ rfl _ _ _ rfl (w.heap.size + 1) 9 i (.string ⟨#[]⟩) 1 16 Ybaf.underlying22 hi hz0 hz1 hz2 rfl (by omega) (.slice (some ⟨g, 0, none⟩) k cap) k _ rfl hown2.out ⟨wr.heap.size, 0, none⟩ 1 1 [.string (S m)] rfl rfl HN.out (by simp [Value.oneCell']) (by omega) (by unfold maxLen; omega) (by omega) (by simp; omega) (wr.heap.size + 1) (by simp) ?_; intro g' cap' w3 hown3 hgrow hat hlt3)
        go_roundg (q - (k + 1))
        case measure => omega
        case rel =>
          obtain ⟨q1, q2⟩ := HFIN.out (S m) g' cap' w3 (by rw [HPK.out, if_pos hmn]) hown3 hgrow
          exact ⟨k + 1, g', cap', by omega, rfl, by go_num, rfl, q1, q2⟩
      · have hmni : ¬ (m : Int) < (n : Int) := by omega
        have hown2 : Hid ((wr.alloc (.cells #[.string x] 9)).ownsRow (w.heap.size + 1) 9 1 (.slice (some ⟨g, 0, none⟩) k cap) k ((List.range k).map fun j => .string (pk S P n x j))) := HB.out.2.alloc _
        have HN : Hid (∀ j u, [Value.string x][j]? = some u → (wr.alloc (.cells #[.string x] 9)).cell? ((⟨wr.heap.size, 0, none⟩ : Addr).add j) = some u) := World.news_of_block (cs := #[.string x]) (Go.Deep.blk_alloc_new _ _)
        go_wp2_with (at_builtin; refine wpList_append_lies _ rfl _ _ _ rfl (w.heap.size + 1) 9 i (.string ⟨#[]⟩) 1 16 Ybaf.underlying22 hi hz0 hz1 hz2 rfl (by omega) (.slice (some ⟨g, 0, none⟩) k cap) k _ rfl hown2.out ⟨wr.heap.size, 0, none⟩ 1 1 [.string x] rfl rfl HN.out (by simp [Value.oneCell']) (by omega) (by unfold maxLen; omega) (by omega) (by simp; omega) (wr.heap.size + 1) (by simp) ?_; intro g' cap' w3 hown3 hgrow hat hlt3)
        go_roundg (q - (k + 1))
        case measure => omega
        case rel =>
          obtain ⟨q1, q2⟩ := HFIN.out x g' cap' w3 (by rw [HPK.out, if_neg hmn]) hown3 hgrow
          exact ⟨k + 1, g', cap', by omega, rfl, by go_num, rfl, q1, q2⟩
    · obtain rfl : k = q := by omega
      have hlti : ¬ (k : Int) < (k : Int) := by omega
      obtain ⟨W2, hW2⟩ : ∃ W2 : World, W2 = wr := ⟨_, rfl⟩
      subst hW2
      have hT : ∀ j, j < k → W2.cell? ⟨g, j, none⟩ = some (.string (pk S P n x j)) := by
        intro j hj
        have := hown.cells (g := g) rfl j (.string (pk S P n x j)) (by rw [List.getElem?_map, List.getElem?_range hj]; rfl)
        rw [Addr.add_lit, Nat.zero_add] at this
        exact this
      have hN : ∀ i, i < n → W2.cell? ⟨w.heap.size, i, none⟩ = some (.string (S i)) := by
        intro i hi
        rw [hb.cell (by simp)]; exact h3.cell hi
      have HW2 : Hid (Below w.heap.size w W2 ∧ (∀ j, j < k → W2.cell? ⟨g, j, none⟩ = some (.string (pk S P n x j))) ∧ (∀ i, i < n → W2.cell? ⟨w.heap.size, i, none⟩ = some (.string (S i))) ∧ w.heap.size + 1 ≤ g ∧ g < W2.heap.size) := ⟨hbw, hT, hN, hgl.1, hgl.2⟩
      clear hb hown h1 h2 h3 hbw hT hN HW1
      go_wp2_with fail
      obtain ⟨hw2, hT, hN, hg1, hg2⟩ := HW2.out
      have hobj : Obj (built W2 w.heap.size n) (W2.heap.size + 1 + 1) (W2.heap.size + 1) w.heap.size g n k cap S (pk S P n x) := built_obj (by omega) hg2 hN hT
      refine (hybrid_any F (W2.heap.size + 1 + 1) (W2.heap.size + 1) w.heap.size g n k cap S (pk S P n x) (built W2 w.heap.size n) (by
        have : (built W2 w.heap.size n).tape = w.tape := hw2.tape
        show F.answers _
        rw [this]; exact hF.out) hn hq hobj).mono ?_
      generalize hT0 : pk S P n x = T at *
      rintro e w4 (⟨hkn, ⟨p, rfl⟩, hb4⟩ | ⟨hkn, rfl, hb4, hc5, lb, L, hc12, hlb, hrow, hL⟩)
      · have hbw4 : Below w.heap.size w w4 := (hw2.trans ((built_below W2 _ n).mono hw2.size)).trans (hb4.mono (by rw [built_size]; have := hw2.size; omega))
        have d5 : w4.cell? ⟨W2.heap.size + 1 + 1, 5, none⟩ = some (.int .i32 0) := by rw [hb4.cell hobj.obl]; exact hobj.st
        have d12 : w4.cell? ⟨W2.heap.size + 1 + 1, 12, none⟩ = some (.slice (some ⟨W2.heap.size, 0, none⟩) 1 1) := by rw [hb4.cell hobj.obl]; exact built_ob W2 _ n 12
        have dpr : w4.cell? ⟨W2.heap.size, 0, none⟩ = some (.bool true) := by rw [hb4.cell (by rw [built_size]; simp)]; exact built_pr W2 _ n
        have HM : Hid ((∀ j, j < k → w4.cell? ⟨g, j, none⟩ = some (.string (T j))) ∧ (∀ i, i < n → w4.cell? ⟨w.heap.size, i, none⟩ = some (.string (S i))) ∧ Below w.heap.size w w4 ∧ ¬ Known S T n k) :=
          ⟨fun j hj => by rw [hb4.cell hobj.pbl]; exact hobj.picks j hj, fun i hi => by rw [hb4.cell hobj.nbl]; exact hobj.strs i hi, hbw4, hkn⟩
        clear hw2 hT hN hb4 hbw4 hobj hkn HW2
        go_upto_block 2 with (go_at_call 7; refine (load_any _ _ _ _ d5).mono ?_; rintro e w' ⟨rfl, hw'⟩; replace hw' := hw'.symm; subst hw')
        go_cut [15] (fun s15 wc => ∃ b : Bool, s15 = .bool b ∧ (b = true ↔ Known S T n k) ∧ wc = w4)
        case first =>
          go_wp2_with fail
          go_loopg [90, 15] k (fun gk s90 s15 wr => ∃ j : Nat, j ≤ k ∧ gk = k - j ∧ s90 = .int .i64 j ∧ s15 = .bool true ∧ wr = w4 ∧ Known S T n j)
          case atStart => exact ⟨0, Nat.zero_le _, rfl, rfl, rfl, rfl, fun j hj => by omega⟩
          case round =>
            obtain ⟨j, hj, rfl, rfl, rfl, hwr, hkj⟩ := hrel
            subst hwr
            have HK : Hid (Known S T n j) := hkj
            clear hkj
            by_cases hjl : j < k
            · have hjli : (j : Int) < (k : Int) := by omega
              have cT := HM.out.1 j hjl
              go_upto_block 4 with (fail)
              go_cut [18] (fun s18 wc => ∃ b : Bool, s18 = .bool b ∧ (b = true ↔ ∃ i, i < n ∧ S i = T j) ∧ wc = wr)
              case first =>
                obtain ⟨W5, hW5⟩ : ∃ W5 : World, W5 = wr := ⟨_, rfl⟩
                subst hW5
                go_wp2_with fail
                go_loopg [96, 18] n (fun gk s96 s18 wr => ∃ i : Nat, i ≤ n ∧ gk = n - i ∧ s96 = .int .i64 i ∧ s18 = .bool false ∧ wr = W5 ∧ ∀ i', i' < i → S i' ≠ T j)
                case atStart => exact ⟨0, Nat.zero_le _, rfl, rfl, rfl, rfl, fun j hj => by omega⟩
                case round =>
                  obtain ⟨i, hi, rfl, rfl, rfl, hwr, hne⟩ := hrel
                  subst hwr
                  have HNE : Hid (∀ i', i' < i → S i' ≠ T j) := hne
                  clear hne
                  by_cases hil : i < n
                  · have hili : (i : Int) < (n : Int) := by omega
                    have cS := HM.out.2.1 i hil
                    by_cases he : S i = T j
                    · have he' := str_yes he
                      have HE : Hid (S i = T j) := he
                      clear he
                      go_wp2
                      go_meet
                      case rel => exact ⟨true, rfl, ⟨fun _ => ⟨i, hil, HE.out⟩, fun _ => rfl⟩, rfl⟩
                    · have he' := str_no he
                      have HE : Hid (¬ S i = T j) := he
                      clear he
                      go_wp2
                      go_roundg (n - (i + 1))
                      case measure => omega
                      case rel =>
                        refine ⟨i + 1, by omega, rfl, by go_num, rfl, rfl, fun i' hi' => ?_⟩
                        rcases Nat.lt_or_ge i' i with h | h
                        · exact HNE.out i' h
                        · obtain rfl : i' = i := by omega
                          exact HE.out
                  · obtain rfl : i = n := by omega
                    have hili : ¬ (i : Int) < (i : Int) := by omega
                    go_wp2
                    go_meet
                    case rel => exact ⟨false, rfl, ⟨fun h => (by cases h), fun ⟨i', h1, h2⟩ => absurd h2 (HNE.out i' h1)⟩, rfl⟩
              case rest =>
                obtain ⟨b, rfl, hb, hwc⟩ := hcut
                subst hwc
                have HBB : Hid (b = true ↔ ∃ i, i < n ∧ S i = T j) := hb
                clear hb
                cases b with
                | true =>
                  go_wp2
                  go_roundg (k - (j + 1))
                  case measure => omega
                  case rel =>
                    obtain ⟨i, h1, h2⟩ := HBB.out.1 (by trivial)
                    exact ⟨j + 1, by omega, rfl, by go_num, rfl, rfl, known_step h1 h2 HK.out⟩
                | false =>
                  go_wp2
                  go_meet
                  case rel =>
                    refine ⟨false, rfl, ⟨fun h => (by cases h), fun h => ?_⟩, rfl⟩
                    have := HBB.out.2 (h j hjl)
                    simp at this
            · obtain rfl : j = k := by omega
              have hjli : ¬ (j : Int) < (j : Int) := by omega
              go_wp2
              go_meet
              case rel => exact ⟨true, rfl, ⟨fun _ => HK.out, fun _ => rfl⟩, rfl⟩
        case rest =>
          obtain ⟨b, rfl, hb, hwc⟩ := hcut
          subst hwc
          have hbf : b = false := by
            cases b with
            | false => rfl
            | true => exact absurd (hb.1 rfl) HM.out.2.2.2
          subst hbf
          clear hb
          go_wp2
          go_ret
          exact ⟨rfl, HM.out.2.2.1⟩
      · have hbw4 : Below w.heap.size w w4 := (hw2.trans ((built_below W2 _ n).mono hw2.size)).trans (hb4.below (by have := hw2.size; omega) (by rw [built_size]; have := hw2.size; omega))
        have hsz4 := hb4.size
        rw [built_size] at hsz4
        have dpr : w4.cell? ⟨W2.heap.size, 0, none⟩ = some (.bool true) := by rw [hb4.cell (by rw [built_size]; simp) (by show W2.heap.size ≠ W2.heap.size + 1 + 1; omega)]; exact built_pr W2 _ n
        have HM : Hid ((∀ j, j < k → w4.cell? ⟨g, j, none⟩ = some (.string (T j))) ∧ (∀ i, i < n → w4.cell? ⟨w.heap.size, i, none⟩ = some (.string (S i))) ∧ Below w.heap.size w w4 ∧ Known S T n k ∧ w4.rowIs lb 4 n (fun m => .bool (L m)) ∧ ∀ m, m < n → (L m = true ↔ Hit S T k m)) :=
          ⟨fun j hj => by rw [hb4.cell hobj.pbl (by simp; omega)]; exact hobj.picks j hj, fun i hi => by rw [hb4.cell hobj.nbl (by simp; have := hw2.size; omega)]; exact hobj.strs i hi, hbw4, hkn, hrow, hL⟩
        clear hw2 hT hN hb4 hbw4 hobj hkn HW2 hrow hL hlb
        go_upto_block 2 with (go_at_call 7; refine (load_any _ _ _ _ hc5).mono ?_; rintro e w' ⟨rfl, hw'⟩; replace hw' := hw'.symm; subst hw')
        go_cut [15] (fun s15 wc => ∃ b : Bool, s15 = .bool b ∧ (b = true ↔ Known S T n k) ∧ wc = w4)
        case first =>
          go_wp2_with fail
          go_loopg [90, 15] k (fun gk s90 s15 wr => ∃ j : Nat, j ≤ k ∧ gk = k - j ∧ s90 = .int .i64 j ∧ s15 = .bool true ∧ wr = w4 ∧ Known S T n j)
          case atStart => exact ⟨0, Nat.zero_le _, rfl, rfl, rfl, rfl, fun j hj => by omega⟩
          case round =>
            obtain ⟨j, hj, rfl, rfl, rfl, hwr, hkj⟩ := hrel
            subst hwr
            have HK : Hid (Known S T n j) := hkj
            clear hkj
            by_cases hjl : j < k
            · have hjli : (j : Int) < (k : Int) := by omega
              have cT := HM.out.1 j hjl
              go_upto_block 4 with (fail)
              go_cut [18] (fun s18 wc => ∃ b : Bool, s18 = .bool b ∧ (b = true ↔ ∃ i, i < n ∧ S i = T j) ∧ wc = wr)
              case first =>
                obtain ⟨W5, hW5⟩ : ∃ W5 : World, W5 = wr := ⟨_, rfl⟩
                subst hW5
                go_wp2_with fail
                go_loopg [96, 18] n (fun gk s96 s18 wr => ∃ i : Nat, i ≤ n ∧ gk = n - i ∧ s96 = .int .i64 i ∧ s18 = .bool false ∧ wr = W5 ∧ ∀ i', i' < i → S i' ≠ T j)
                case atStart => exact ⟨0, Nat.zero_le _, rfl, rfl, rfl, rfl, fun j hj => by omega⟩
                case round =>
                  obtain ⟨i, hi, rfl, rfl, rfl, hwr, hne⟩ := hrel
                  subst hwr
                  have HNE : Hid (∀ i', i' < i → S i' ≠ T j) := hne
                  clear hne
                  by_cases hil : i < n
                  · have hili : (i : Int) < (n : Int) := by omega
                    have cS := HM.out.2.1 i hil
                    by_cases he : S i = T j
                    · have he' := str_yes he
                      have HE : Hid (S i = T j) := he
                      clear he
                      go_wp2
                      go_meet
                      case rel => exact ⟨true, rfl, ⟨fun _ => ⟨i, hil, HE.out⟩, fun _ => rfl⟩, rfl⟩
                    · have he' := str_no he
                      have HE : Hid (¬ S i = T j) := he
                      clear he
                      go_wp2
                      go_roundg (n - (i + 1))
                      case measure => omega
                      case rel =>
                        refine ⟨i + 1, by omega, rfl, by go_num, rfl, rfl, fun i' hi' => ?_⟩
                        rcases Nat.lt_or_ge i' i with h | h
                        · exact HNE.out i' h
                        · obtain rfl : i' = i := by omega
                          exact HE.out
                  · obtain rfl : i = n := by omega
                    have hili : ¬ (i : Int) < (i : Int) := by omega
                    go_wp2
                    go_meet
                    case rel => exact ⟨false, rfl, ⟨fun h => (by cases h), fun ⟨i', h1, h2⟩ => absurd h2 (HNE.out i' h1)⟩, rfl⟩
              case rest =>
                obtain ⟨b, rfl, hb, hwc⟩ := hcut
                subst hwc
                have HBB : Hid (b = true ↔ ∃ i, i < n ∧ S i = T j) := hb
                clear hb
                cases b with
                | true =>
                  go_wp2
                  go_roundg (k - (j + 1))
                  case measure => omega
                  case rel =>
                    obtain ⟨i, h1, h2⟩ := HBB.out.1 (by trivial)
                    exact ⟨j + 1, by omega, rfl, by go_num, rfl, rfl, known_step h1 h2 HK.out⟩
                | false =>
                  go_wp2
                  go_meet
                  case rel =>
                    refine ⟨false, rfl, ⟨fun h => (by cases h), fun h => ?_⟩, rfl⟩
                    have := HBB.out.2 (h j hjl)
                    simp at this
            · obtain rfl : j = k := by omega
              have hjli : ¬ (j : Int) < (j : Int) := by omega
              go_wp2
              go_meet
              case rel => exact ⟨true, rfl, ⟨fun _ => HK.out, fun _ => rfl⟩, rfl⟩
        case rest =>
          obtain ⟨b, rfl, hb, hwc⟩ := hcut
          subst hwc
          have hbf : b = true := hb.2 HM.out.2.2.2.1
          subst hbf
          clear hb
          obtain ⟨W5, hW5⟩ : ∃ W5 : World, W5 = wc := ⟨_, rfl⟩
          subst hW5
          go_wp2
          go_loopg [151] n (fun gk s151 wr => ∃ m : Nat, m ≤ n ∧ gk = n - m ∧ s151 = .int .i64 m ∧ Below W5.heap.size W5 wr)
          case atStart => exact ⟨0, Nat.zero_le _, rfl, rfl, Below.refl _ _⟩
          case round =>
            obtain ⟨m, hm, rfl, rfl, hb6⟩ := hrel
            obtain ⟨W6, hW6⟩ : ∃ W6 : World, W6 = wr := ⟨_, rfl⟩
            subst hW6
            by_cases hml : m < n
            · have hmli : (m : Int) < (n : Int) := by omega
              have hm0 : (0 : Int) ≤ (m : Int) := by omega
              have HB6 : Hid (Below W5.heap.size W5 W6) := hb6
              clear hb6
              have Hcell : Hid (∀ wx, Below W5.heap.size W5 wx → (∀ j, j < k → wx.cell? ⟨g, j, none⟩ = some (.string (T j))) ∧ (∀ i, i < n → wx.cell? ⟨w.heap.size, i, none⟩ = some (.string (S i))) ∧ wx.cell? ⟨lb, m, none⟩ = some (.bool (L m)) ∧ wx.cell? ⟨W2.heap.size + 1 + 1, 12, none⟩ = some (.slice (some ⟨lb, 0, none⟩) n n)) := by
                intro wx hwx
                have z1 := HM.out.2.2.1.size
                exact ⟨fun j hj => by rw [hwx.cell (by simp; omega)]; exact HM.out.1 j hj, fun i hi => by rw [hwx.cell (by simp; omega)]; exact HM.out.2.1 i hi,
                  by rw [hwx.cell HM.out.2.2.2.2.1.lt]; exact HM.out.2.2.2.2.1.cell hml, by rw [hwx.cell (by simp; omega)]; exact hc12⟩
              go_upto_block 8 with (fail)
              go_cut [23] (fun s23 wc => ∃ b : Bool, s23 = .bool b ∧ (b = true ↔ ∀ j, j < m → S j ≠ S m) ∧ Below W5.heap.size W5 wc)
              case first =>
                go_wp2_with fail
                go_loopg [24, 23] m (fun gk s24 s23 wr => ∃ j : Nat, j ≤ m ∧ gk = m - j ∧ s24 = .int .i64 j ∧ s23 = .bool true ∧ Below W5.heap.size W5 wr ∧ ∀ j', j' < j → S j' ≠ S m)
                case atStart => exact ⟨0, Nat.zero_le _, rfl, rfl, rfl, HB6.out, fun j hj => by omega⟩
                case round =>
                  obtain ⟨j, hj, rfl, rfl, rfl, hb7, hne⟩ := hrel
                  have HNE : Hid (Below W5.heap.size W5 wr ∧ ∀ j', j' < j → S j' ≠ S m) := ⟨hb7, hne⟩
                  clear hne hb7
                  by_cases hjl : j < m
                  · have hjli : (j : Int) < (m : Int) := by omega
                    have hjn : (j : Int) < (n : Int) := by omega
                    have hj0 : (0 : Int) ≤ (j : Int) := by omega
                    have cj := (Hcell.out wr HNE.out.1).2.1 j (by omega)
                    have cm := (Hcell.out wr HNE.out.1).2.1 m hml
                    by_cases he : S j = S m
                    · have he' := str_yes he
                      have HE : Hid (S j = S m) := he
                      clear he
                      go_wp2_with fail
                      go_quiet (fail)
                      go_wp2
                      go_meet
                      case rel => exact ⟨false, rfl, ⟨fun h => (by cases h), fun h => absurd HE.out (h j hjl)⟩, below_drewN HNE.out.1 _⟩
                    · have he' := str_no he
                      have HE : Hid (¬ S j = S m) := he
                      clear he
                      go_wp2_with fail
                      go_quiet (fail)
                      go_wp2
                      go_roundg (m - (j + 1))
                      case measure => omega
                      case rel =>
                        refine ⟨j + 1, by omega, rfl, by go_num, rfl, below_drewN HNE.out.1 _, fun j' hj' => ?_⟩
                        rcases Nat.lt_or_ge j' j with h | h
                        · exact HNE.out.2 j' h
                        · obtain rfl : j' = j := by omega
                          exact HE.out
                  · obtain rfl : j = m := by omega
                    have hjli : ¬ (j : Int) < (j : Int) := by omega
                    go_wp2
                    go_meet
                    case rel => exact ⟨true, rfl, ⟨fun _ => HNE.out.2, fun _ => rfl⟩, HNE.out.1⟩
              case rest =>
                obtain ⟨b, rfl, hb, hb7⟩ := hcut
                obtain ⟨W7, hW7⟩ : ∃ W7 : World, W7 = wc := ⟨_, rfl⟩
                subst hW7
                have HBB : Hid ((b = true ↔ ∀ j, j < m → S j ≠ S m) ∧ Below W5.heap.size W5 W7) := ⟨hb, hb7⟩
                clear hb hb7
                go_upto_if 168 with (fail)
                go_cut [22] (fun s22 wc => ∃ b2 : Bool, s22 = .bool b2 ∧ (b2 = true ↔ (∀ j, j < m → S j ≠ S m) ∧ ∃ j, j < k ∧ T j = S m) ∧ Below W5.heap.size W5 wc)
                case first =>
                  cases b with
                  | false =>
                    go_wp2
                    go_meet
                    case rel => exact ⟨false, rfl, ⟨fun h => (by cases h), fun h => (by have := HBB.out.1.2 h.1; simp at this)⟩, HBB.out.2⟩
                  | true =>
                    go_wp2_with fail
                    go_loopg [171, 22] k (fun gk s171 s22 wr => ∃ j : Nat, j ≤ k ∧ gk = k - j ∧ s171 = .int .i64 j ∧ s22 = .bool false ∧ Below W5.heap.size W5 wr ∧ ∀ j', j' < j → T j' ≠ S m)
                    case atStart => exact ⟨0, Nat.zero_le _, rfl, rfl, rfl, HBB.out.2, fun j hj => by omega⟩
                    case round =>
                      obtain ⟨j, hj, rfl, rfl, rfl, hb8, hne⟩ := hrel
                      have HNE : Hid (Below W5.heap.size W5 wr ∧ ∀ j', j' < j → T j' ≠ S m) := ⟨hb8, hne⟩
                      clear hne hb8
                      by_cases hjl : j < k
                      · have hjli : (j : Int) < (k : Int) := by omega
                        have cj := (Hcell.out wr HNE.out.1).1 j hjl
                        have cm := (Hcell.out wr HNE.out.1).2.1 m hml
                        by_cases he : T j = S m
                        · have he' := str_yes he
                          have HE : Hid (T j = S m) := he
                          clear he
                          go_wp2
                          go_meet
                          case rel => exact ⟨true, rfl, ⟨fun _ => ⟨HBB.out.1.1 (by trivial), j, hjl, HE.out⟩, fun _ => rfl⟩, HNE.out.1⟩
                        · have he' := str_no he
                          have HE : Hid (¬ T j = S m) := he
                          clear he
                          go_wp2
                          go_roundg (k - (j + 1))
                          case measure => omega
                          case rel =>
                            refine ⟨j + 1, by omega, rfl, by go_num, rfl, HNE.out.1, fun j' hj' => ?_⟩
                            rcases Nat.lt_or_ge j' j with h | h
                            · exact HNE.out.2 j' h
                            · obtain rfl : j' = j := by omega
                              exact HE.out
                      · obtain rfl : j = k := by omega
                        have hjli : ¬ (j : Int) < (j : Int) := by omega
                        go_wp2
                        go_meet
                        case rel => exact ⟨false, rfl, ⟨fun h => (by cases h), fun ⟨_, j', h1, h2⟩ => absurd h2 (HNE.out.2 j' h1)⟩, HNE.out.1⟩
                case rest =>
                  obtain ⟨b2, rfl, hb2, hb8⟩ := hcut
                  have hLb : L m = b2 := by
                    have e1 := HM.out.2.2.2.2.2 m hml
                    rw [Bool.eq_iff_iff, e1, hb2]
                    constructor
                    · rintro ⟨j, q1, q2, q3⟩
                      exact ⟨fun i hi => by rw [q2]; exact q3 i hi, j, q1, q2.symm⟩
                    · rintro ⟨q1, j, q2, q3⟩
                      exact ⟨j, q2, q3.symm, fun i hi => by rw [q3]; exact q1 i hi⟩
                  have cL := (Hcell.out wc hb8).2.2.1
                  have c12 := (Hcell.out wc hb8).2.2.2
                  rw [hLb] at cL
                  have HB8 : Hid (Below W5.heap.size W5 wc) := hb8
                  clear hb2 hb8 hLb
                  go_wp2
                  go_roundg (n - (m + 1))
                  case measure => omega
                  case rel => exact ⟨m + 1, by omega, rfl, by go_num, HB8.out⟩
            · obtain rfl : m = n := by omega
              have hmli : ¬ (m : Int) < (m : Int) := by omega
              have d1 : W6.cell? ⟨W2.heap.size, 0, none⟩ = some (.bool true) := by rw [hb6.cell (by simp; omega)]; exact dpr
              have HB6 : Hid (Below W5.heap.size W5 W6) := hb6
              clear hb6
              go_wp2
              go_ret
              have hsz := HM.out.2.2.1.size
              exact ⟨rfl, HM.out.2.2.1.trans (HB6.out.mono hsz)⟩
end Go.Proofs.YbulkdgjkFmt
