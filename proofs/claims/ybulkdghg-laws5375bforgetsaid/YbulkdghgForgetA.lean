import Derived.Test.YbulkdghgRows
import Derived.WalkKit
import Derived.WalkSpells
import Derived.WalkLawsBesides
import Derived.Deep.RegionHeld3
import Derived.Deep.DeepCutAuto
import Derived.Deep.OwnRows
import Derived.Deep.DrawnRows
namespace Go.Proofs.Ybulkdghg
open Go.RowKit
attribute [local go_sem ↓] Go.wp_at_zero Go.wp_at_succ
set_option maxHeartbeats 400000 in
theorem apf (p : Int) (w : World) :
    Calls Yba.prog 5 #[.agg #[.int .u64 0, .int .u64 0, .pointer none], .int .u16 p] w fun e w' => e = .returned (.agg #[.int .u64 0, .int .u64 0, .pointer none, .int .u16 p]) ∧ w' = (w.alloc (Obj.cells #[Value.int IntKind.u64 0, Value.int IntKind.u64 0, Value.pointer none] 33)).alloc
      (Obj.cells #[Value.int IntKind.u64 0, Value.int IntKind.u64 0, Value.pointer none, Value.int IntKind.u16 p] 35) := by
  go_enter Yba.func5, Yba.ntmps5
  go_wp2
  exact bodyPost_ret (v := .agg #[.int .u64 0, .int .u64 0, .pointer none, .int .u16 p]) (by simp [results, Yba.results5, go_sem]) rfl ⟨rfl, rfl⟩
theorem info45 : (Yba.prog.info? 45).map (fun i => (i.zero, i.size, i.bytes)) = some (some (.agg #[.int .u64 0, .int .u64 0, .pointer none, .int .u16 0, .slice none 0 0, .slice none 0 0, .string ⟨#[]⟩]), 7, 96) := by kernel_rfl

def zs : Array Value := #[.int .u64 0, .int .u64 0, .pointer none, .int .u16 0, .slice none 0 0, .slice none 0 0, .string ⟨#[]⟩]
def mk7 (n : Nat) : Array Value := madeCells zs (n * 7)

theorem run_mk (n : Nat) (h : n ≤ 1024) (w : World) :
    (Instr.makeSlice 37 (.int .i64 (n : Int)) (.int .i64 (n : Int))).run Yba.prog w = .ok (.slice (some ⟨w.heap.size, 0, none⟩) n n) (w.alloc (.cells (mk7 n) 45)) := by
  obtain ⟨i, hi, hzz⟩ := Option.map_eq_some_iff.1 info45
  simp only [Prod.mk.injEq] at hzz
  obtain ⟨hz, hs, hb⟩ := hzz
  have := run_make (P := Yba.prog) w 37 45 i _ Yba.underlying37 hi hz .i64 .i64 n n (by omega) (Int.le_refl _) (by rw [hb]; omega) (by omega)
  simp only [Int.toNat_natCast, hs] at this
  exact this

theorem port_idx (sel : Int) (len : Nat) (hs0 : 0 ≤ sel) (hs1 : sel < 65536) (h0 : 0 < len) : ∃ k : Nat, k < len ∧ (wrap64 (IntKind.u16.wrap (sel.tdiv 2))).tmod (len : Int) = k := by
  have e : wrap64 (IntKind.u16.wrap (sel.tdiv 2)) = sel.tdiv 2 := by
    rw [Int.tdiv_eq_ediv_of_nonneg hs0]
    simp [IntKind.wrap, wrap64, IntKind.bits, IntKind.signed]; omega
  rw [e, Int.tdiv_eq_ediv_of_nonneg hs0, Int.tmod_eq_emod_of_nonneg (by omega)]
  refine ⟨((sel / 2) % (len : Int)).toNat, ?_, ?_⟩
  · have := Int.emod_lt_of_pos (sel / 2) (show (0 : Int) < len by omega)
    have := Int.emod_nonneg (sel / 2) (show (len : Int) ≠ 0 by omega)
    omega
  · have := Int.emod_nonneg (sel / 2) (show (len : Int) ≠ 0 by omega)
    omega



def set7 (w : World) (B o : Nat) (v0 v1 v2 v3 v4 v5 v6 : Value) : World :=
  ((((((w.setCell ⟨B, o, none⟩ v0).setCell ⟨B, o + 1, none⟩ v1).setCell ⟨B, o + 2, none⟩ v2).setCell ⟨B, o + 3, none⟩ v3).setCell ⟨B, o + 4, none⟩ v4).setCell ⟨B, o + 5, none⟩ v5).setCell ⟨B, o + 6, none⟩ v6

theorem set7_size (w : World) (B o : Nat) (v0 v1 v2 v3 v4 v5 v6 : Value) : (set7 w B o v0 v1 v2 v3 v4 v5 v6).heap.size = w.heap.size := by
  simp [set7, World.setCell]

theorem set7_other (w : World) (B o : Nat) (v0 v1 v2 v3 v4 v5 v6 : Value) (j : Nat) (h : j ≠ B) : (set7 w B o v0 v1 v2 v3 v4 v5 v6).heap[j]? = w.heap[j]? := by
  unfold set7
  rw [Below.heap_setCell _ ⟨B, o + 6, none⟩ _ j h, Below.heap_setCell _ ⟨B, o + 5, none⟩ _ j h, Below.heap_setCell _ ⟨B, o + 4, none⟩ _ j h, Below.heap_setCell _ ⟨B, o + 3, none⟩ _ j h, Below.heap_setCell _ ⟨B, o + 2, none⟩ _ j h, Below.heap_setCell _ ⟨B, o + 1, none⟩ _ j h, Below.heap_setCell _ ⟨B, o, none⟩ _ j h]

theorem set7_below (w : World) (B o : Nat) (v0 v1 v2 v3 v4 v5 v6 : Value) (N : Nat) (h : N ≤ B) : Below N w (set7 w B o v0 v1 v2 v3 v4 v5 v6) :=
  (((((((Below.refl N w).setCell (p := ⟨B, o, none⟩) h v0).setCell (p := ⟨B, o + 1, none⟩) h v1).setCell (p := ⟨B, o + 2, none⟩) h v2).setCell (p := ⟨B, o + 3, none⟩) h v3).setCell (p := ⟨B, o + 4, none⟩) h v4).setCell (p := ⟨B, o + 5, none⟩) h v5).setCell (p := ⟨B, o + 6, none⟩) h v6

def at7 (v0 v1 v2 v3 v4 v5 v6 : Value) : Nat → Value
  | 0 => v0 | 1 => v1 | 2 => v2 | 3 => v3 | 4 => v4 | 5 => v5 | _ => v6

theorem set7_row {w : World} {B t n : Nat} {f : Nat → Value} (h : w.rowIs B t n f) (k : Nat) (v0 v1 v2 v3 v4 v5 v6 : Value) :
    (set7 w B (k * 7) v0 v1 v2 v3 v4 v5 v6).rowIs B t n (fun i => if i / 7 = k then at7 v0 v1 v2 v3 v4 v5 v6 (i % 7) else f i) := by
  have h7 := ((((((h.set (k * 7) v0).set (k * 7 + 1) v1).set (k * 7 + 2) v2).set (k * 7 + 3) v3).set (k * 7 + 4) v4).set (k * 7 + 5) v5).set (k * 7 + 6) v6
  refine h7.congr fun i _ => ?_
  by_cases hk : i / 7 = k
  · rw [if_pos hk]
    have hm : i % 7 < 7 := Nat.mod_lt _ (by omega)
    have hi : i = k * 7 + i % 7 := by omega
    generalize i % 7 = m at hm hi
    subst hi
    match m, hm with
    | 0, _ => simp [at7]
    | 1, _ => simp [at7]
    | 2, _ => simp [at7]
    | 3, _ => simp [at7]
    | 4, _ => simp [at7]
    | 5, _ => simp [at7]
    | 6, _ => simp [at7]
  · rw [if_neg hk, if_neg (by omega), if_neg (by omega), if_neg (by omega), if_neg (by omega), if_neg (by omega), if_neg (by omega), if_neg (by omega)]

def peerv (p : Int) (c : ByteArray) (bk : Nat) : Nat → Value
  | 0 => .int .u64 0 | 1 => .int .u64 0 | 2 => .pointer none | 3 => .int .u16 p | 4 => .slice (some ⟨bk, 0, none⟩) 1 1 | 5 => .slice none 0 0 | _ => .string c
def zv : Nat → Value
  | 0 => .int .u64 0 | 1 => .int .u64 0 | 2 => .pointer none | 3 => .int .u16 0 | 4 => .slice none 0 0 | 5 => .slice none 0 0 | _ => .string ⟨#[]⟩
def rowF (P : Nat → Int) (C : Nat → ByteArray) (bs : Nat → Nat) (k : Nat) (i : Nat) : Value :=
  if i / 7 < k then peerv (P (i / 7)) (C (i / 7)) (bs (i / 7)) (i % 7) else zv (i % 7)

structure Inv1 (P : Nat → Int) (C : Nat → ByteArray) (gp : Int) (len : Nat) (w wr : World) (k : Nat) : Prop where
  bel : Below w.heap.size w wr
  gone : wr.heap[w.heap.size + 2]? = some (.cells #[.int .u64 0, .int .u64 0, .pointer none, .int .u16 gp] 35)
  row : ∃ bs, wr.rowIs (w.heap.size + 3) 45 (len * 7) (rowF P C bs k) ∧ ∀ j, j < k → w.heap.size + 3 < bs j ∧ wr.heap[bs j]? = some (.cells #[.float .f64 (floatOfInt .f64 j)] 38)



theorem inv1_start (P : Nat → Int) (C : Nat → ByteArray) (gp : Int) (len : Nat) (w : World) (x y : Obj) :
    Inv1 P C gp len w ((((w.alloc x).alloc y).alloc (.cells #[.int .u64 0, .int .u64 0, .pointer none, .int .u16 gp] 35)).alloc (.cells (mk7 len) 45)) 0 := by
  refine ⟨((((Below.refl _ _).alloc (Nat.le_refl _) _).alloc (by simp) _).alloc (by simp; omega) _).alloc (by simp; omega) _, ?_, fun _ => 0, ?_, fun j hj => by omega⟩
  · rw [Below.heap_alloc _ _ _ (by simp)]
    have := Go.Deep.blk_alloc_new ((w.alloc x).alloc y) (.cells #[.int .u64 0, .int .u64 0, .pointer none, .int .u16 gp] 35)
    simpa using this
  · refine ⟨mk7 len, ?_, by simp [mk7, size_madeCells], ?_⟩
    · have := Go.Deep.blk_alloc_new (((w.alloc x).alloc y).alloc (.cells #[.int .u64 0, .int .u64 0, .pointer none, .int .u16 gp] 35)) (.cells (mk7 len) 45)
      simpa using this
    · intro i hi
      have hm : i % 7 < 7 := Nat.mod_lt _ (by omega)
      simp only [rowF, Nat.not_lt_zero, if_false, mk7, madeCells]
      rw [Array.getElem?_map, Array.getElem?_range, if_pos hi]
      simp only [Option.map_some]
      have h7 : zs.size = 7 := rfl
      rw [h7]
      generalize i % 7 = m at hm
      match m, hm with
      | 0, _ => rfl
      | 1, _ => rfl
      | 2, _ => rfl
      | 3, _ => rfl
      | 4, _ => rfl
      | 5, _ => rfl
      | 6, _ => rfl

theorem inv1_step {P : Nat → Int} {C : Nat → ByteArray} {gp : Int} {len : Nat} {w wr W : World} {k : Nat} {bs : Nat → Nat} (zb : Nat) (hk : k < len)
    (bel : Below w.heap.size w wr)
    (gone : wr.heap[w.heap.size + 2]? = some (.cells #[.int .u64 0, .int .u64 0, .pointer none, .int .u16 gp] 35))
    (row : wr.rowIs (w.heap.size + 3) 45 (len * 7) (rowF P C bs k)) (hbs : ∀ j, j < k → w.heap.size + 3 < bs j ∧ wr.heap[bs j]? = some (.cells #[.float .f64 (floatOfInt .f64 j)] 38))
    (hW : Below wr.heap.size (set7 wr (w.heap.size + 3) (k * 7) (.int .u64 0) (.int .u64 0) (.pointer none) (.int .u16 (P k)) (.slice (some ⟨zb, 0, none⟩) 1 1) (.slice none 0 0) (.string (C k))) W)
    (hz : wr.heap.size ≤ zb) (hzb : W.heap[zb]? = some (.cells #[.float .f64 (floatOfInt .f64 k)] 38)) : Inv1 P C gp len w W (k + 1) := by
  have hlt := row.lt
  have hgl : w.heap.size + 2 < wr.heap.size := by omega
  refine ⟨(bel.trans (set7_below _ _ _ _ _ _ _ _ _ _ _ (by omega))).trans (hW.mono (by omega)), ?_, fun j => if j = k then zb else bs j, ?_, ?_⟩
  · rw [hW.block _ hgl, set7_other _ _ _ _ _ _ _ _ _ _ _ (by omega)]
    exact gone
  · have h7 := set7_row row k (.int .u64 0) (.int .u64 0) (.pointer none) (.int .u16 (P k)) (.slice (some ⟨zb, 0, none⟩) 1 1) (.slice none 0 0) (.string (C k))
    refine (h7.of_block (hW.block _ hlt)).congr fun i _ => ?_
    by_cases hi : i / 7 = k
    · rw [if_pos hi]
      unfold rowF
      rw [if_pos (by omega), hi]; simp only [if_true]
      have hm : i % 7 < 7 := Nat.mod_lt _ (by omega)
      generalize i % 7 = m at hm
      match m, hm with
      | 0, _ => rfl
      | 1, _ => rfl
      | 2, _ => rfl
      | 3, _ => rfl
      | 4, _ => rfl
      | 5, _ => rfl
      | 6, _ => rfl
    · rw [if_neg hi]
      unfold rowF
      by_cases h2 : i / 7 < k
      · rw [if_pos h2, if_pos (by omega)]; simp only [if_neg hi]
      · rw [if_neg h2, if_neg (by omega)]
  · intro j hj
    by_cases e : j = k
    · subst e
      simp only [if_true]
      exact ⟨by omega, hzb⟩
    · simp only [if_neg e]
      obtain ⟨h1, h2⟩ := hbs j (by omega)
      have hbl : bs j < wr.heap.size := (Array.getElem?_eq_some_iff.1 h2).1
      exact ⟨h1, by rw [hW.block _ hbl, set7_other _ _ _ _ _ _ _ _ _ _ _ (by omega)]; exact h2⟩



/-- All blocks that were there but B are as they were. -/
structure But (B : Nat) (w w' : World) : Prop where
  os : w'.os = w.os
  tape : w'.tape = w.tape
  output : w'.output = w.output
  size : w.heap.size ≤ w'.heap.size
  block : ∀ k, k < w.heap.size → k ≠ B → w'.heap[k]? = w.heap[k]?

theorem But.refl (B : Nat) (w : World) : But B w w := ⟨rfl, rfl, rfl, Nat.le_refl _, fun _ _ _ => rfl⟩
theorem But.trans {B : Nat} {a b c : World} (h : But B a b) (k : But B b c) : But B a c :=
  ⟨k.os.trans h.os, k.tape.trans h.tape, k.output.trans h.output, Nat.le_trans h.size k.size, fun i hi hb => (k.block i (Nat.lt_of_lt_of_le hi h.size) hb).trans (h.block i hi hb)⟩
theorem But.of_below {B : Nat} {a w : World} (h : Below a.heap.size a w) : But B a w := ⟨h.os, h.tape, h.output, h.size, fun k hk _ => h.block k hk⟩
theorem But.alloc {B : Nat} {a w : World} (h : But B a w) (o : Obj) : But B a (w.alloc o) := h.trans (But.of_below ((Below.refl _ _).alloc (Nat.le_refl _) o))
theorem But.drew {B : Nat} {a w : World} (h : But B a w) : But B a w.drew := ⟨h.os, h.tape, h.output, h.size, h.block⟩
theorem But.setCell {B : Nat} {a w : World} (h : But B a w) (i : Nat) (v : Value) : But B a (w.setCell ⟨B, i, none⟩ v) :=
  h.trans ⟨rfl, rfl, rfl, by simp [World.setCell], fun k _ hk => Below.heap_setCell _ _ _ _ hk⟩
theorem But.set7 {B : Nat} {a w : World} (h : But B a w) (o : Nat) (v0 v1 v2 v3 v4 v5 v6 : Value) : But B a (set7 w B o v0 v1 v2 v3 v4 v5 v6) :=
  ((((((h.setCell _ _).setCell _ _).setCell _ _).setCell _ _).setCell _ _).setCell _ _).setCell _ _
theorem But.cell {B : Nat} {w w' : World} (h : But B w w') {p : Addr} (hp : p.block < w.heap.size) (hb : p.block ≠ B) : w'.cell? p = w.cell? p := World.cell?_of_block (w := w) (h.block p.block hp hb)
theorem But.below {B N : Nat} {w w' : World} (h : But B w w') (hN : N ≤ B) (hs : N ≤ w.heap.size) : Below N w w' := ⟨h.os, h.tape, h.output, h.size, fun k hk => h.block k (by omega) (by omega)⟩

def rowG (P : Nat → Int) (C : Nat → ByteArray) (bs : Nat → Nat) (gp : Int) (len k i : Nat) : Value :=
  if i / 7 < k ∧ P (i / 7) = gp then zv (i % 7) else rowF P C bs len i


theorem eq29 (w : World) : (Op.equalIn 9997 29 (.pointer none) (.pointer none)).run Yba.prog w = .ok true w := by kernel_rfl

theorem rowF_full (P : Nat → Int) (C : Nat → ByteArray) (bs : Nat → Nat) (len k m : Nat) (hk : k < len) (hm : m < 7) : rowF P C bs len (k * 7 + m) = peerv (P k) (C k) (bs k) m := by
  unfold rowF
  rw [if_pos (by omega), show (k * 7 + m) / 7 = k by omega, show (k * 7 + m) % 7 = m by omega]

theorem rowG_now (P : Nat → Int) (C : Nat → ByteArray) (bs : Nat → Nat) (gp : Int) (len k m : Nat) (hk : k < len) (hm : m < 7) : rowG P C bs gp len k (k * 7 + m) = peerv (P k) (C k) (bs k) m := by
  unfold rowG
  rw [if_neg (by omega), rowF_full P C bs len k m hk hm]

theorem rowG_hit {P : Nat → Int} {C : Nat → ByteArray} {bs : Nat → Nat} {gp : Int} {len k B : Nat} {wr : World} (h : wr.rowIs B 45 (len * 7) (rowG P C bs gp len k)) (hp : P k = gp) :
    (set7 wr B (k * 7) (.int .u64 0) (.int .u64 0) (.pointer none) (.int .u16 0) (.slice none 0 0) (.slice none 0 0) (.string ⟨#[]⟩)).rowIs B 45 (len * 7) (rowG P C bs gp len (k + 1)) := by
  refine (set7_row h k _ _ _ _ _ _ _).congr fun i _ => ?_
  by_cases hi : i / 7 = k
  · rw [if_pos hi]
    unfold rowG
    rw [if_pos ⟨by omega, by rw [hi]; exact hp⟩]
    have hm : i % 7 < 7 := Nat.mod_lt _ (by omega)
    generalize i % 7 = m at hm
    match m, hm with
    | 0, _ => rfl
    | 1, _ => rfl
    | 2, _ => rfl
    | 3, _ => rfl
    | 4, _ => rfl
    | 5, _ => rfl
    | 6, _ => rfl
  · rw [if_neg hi]
    unfold rowG
    by_cases h2 : i / 7 < k ∧ P (i / 7) = gp
    · rw [if_pos h2, if_pos ⟨by omega, h2.2⟩]
    · rw [if_neg h2, if_neg (fun h => h2 ⟨by omega, h.2⟩)]

theorem rowG_miss {P : Nat → Int} {C : Nat → ByteArray} {bs : Nat → Nat} {gp : Int} {len k B : Nat} {wr : World} (h : wr.rowIs B 45 (len * 7) (rowG P C bs gp len k)) (hp : ¬ P k = gp) :
    wr.rowIs B 45 (len * 7) (rowG P C bs gp len (k + 1)) := by
  refine h.congr fun i _ => ?_
  unfold rowG
  by_cases h2 : i / 7 < k ∧ P (i / 7) = gp
  · rw [if_pos h2, if_pos ⟨by omega, h2.2⟩]
  · rw [if_neg h2, if_neg (fun h => h2 ⟨by
      rcases Nat.lt_or_ge (i / 7) k with h3 | h3
      · exact h3
      · exact absurd (by rw [← show i / 7 = k by omega]; exact h.2) hp, h.2⟩)]

set_option maxRecDepth 100000 in
set_option maxHeartbeats 1000000 in
theorem forget (P : Nat → Int) (C : Nat → ByteArray) (bs : Nat → Nat) (gp : Int) (len nb B : Nat) (w : World) (hl : len ≤ 1024) (hnb : nb ≠ B) (hnw : nb < w.heap.size)
    (hn : w.cell? ⟨nb, 110, none⟩ = some (.slice (some ⟨B, 0, none⟩) len len)) (row : Hid (w.rowIs B 45 (len * 7) (rowF P C bs len))) :
    Calls Yba.prog 6 #[.pointer (some ⟨nb, 0, none⟩), .agg #[.int .u64 0, .int .u64 0, .pointer none, .int .u16 gp]] w fun e w' => e = .returned (.tuple #[]) ∧
      But B w w' ∧ w'.rowIs B 45 (len * 7) (rowG P C bs gp len len) := by
  go_enter Yba.func6, Yba.ntmps6
  go_wp2
  have hb0 : Hid (B < w.heap.size) := row.out.lt
  go_loopg [11] len (fun n i wr => ∃ k : Nat, k ≤ len ∧ n = len - k ∧ i = .int .i64 k ∧ But B (w.alloc (.cells #[.int .u64 0, .int .u64 0, .pointer none, .int .u16 gp] 35)) wr ∧ wr.rowIs B 45 (len * 7) (rowG P C bs gp len k))
  case atStart => exact ⟨0, Nat.zero_le _, rfl, rfl, But.refl _ _, (row.out.alloc _).congr fun i _ => by simp [rowG]⟩
  case round =>
    obtain ⟨k, hk, rfl, rfl, hbut, hrow⟩ := hrel
    by_cases hlt : k < len
    · have hlti : (k : Int) < (len : Int) := by omega
      have hsz := hbut.size
      have e1 : wr.cell? ⟨nb, 110, none⟩ = some (.slice (some ⟨B, 0, none⟩) len len) := by
        rw [hbut.cell (by simp; omega) hnb, World.cell?_alloc_lt _ _ _ hnw]; exact hn
      have g : ∀ i, i < 4 → wr.cell? ⟨w.heap.size, i, none⟩ = (#[Value.int .u64 0, .int .u64 0, .pointer none, .int .u16 gp] : Array Value)[i]? := by
        intro i hi
        have := hb0.out
        rw [hbut.cell (by simp) (by simp; omega)]; simp
      have g0 : wr.cell? ⟨w.heap.size, 0, none⟩ = some (.int .u64 0) := g 0 (by omega)
      have g1 : wr.cell? ⟨w.heap.size, 1, none⟩ = some (.int .u64 0) := g 1 (by omega)
      have g2 : wr.cell? ⟨w.heap.size, 2, none⟩ = some (.pointer none) := g 2 (by omega)
      have g3 : wr.cell? ⟨w.heap.size, 3, none⟩ = some (.int .u16 gp) := g 3 (by omega)
      have r : ∀ m, m < 7 → wr.cell? ⟨B, k * 7 + m, none⟩ = some (peerv (P k) (C k) (bs k) m) := by
        intro m hm
        rw [hrow.cell (by omega), rowG_now P C bs gp len k m hlt hm]
      have r0 : wr.cell? ⟨B, k * 7, none⟩ = some (.int .u64 0) := r 0 (by omega)
      have r1 : wr.cell? ⟨B, k * 7 + 1, none⟩ = some (.int .u64 0) := r 1 (by omega)
      have r2 : wr.cell? ⟨B, k * 7 + 2, none⟩ = some (.pointer none) := r 2 (by omega)
      have r3 : wr.cell? ⟨B, k * 7 + 3, none⟩ = some (.int .u16 (P k)) := r 3 (by omega)
      have r4 : wr.cell? ⟨B, k * 7 + 4, none⟩ = some (.slice (some ⟨bs k, 0, none⟩) 1 1) := r 4 (by omega)
      have r5 : wr.cell? ⟨B, k * 7 + 5, none⟩ = some (.slice none 0 0) := r 5 (by omega)
      have r6 : wr.cell? ⟨B, k * 7 + 6, none⟩ = some (.string (C k)) := r 6 (by omega)
      have fz : ∀ i, wr.frozen? ⟨B, i, none⟩ = false := fun i => hrow.frozen i
      have hbw : B < wr.heap.size := hrow.lt
      have hnw' : nb < wr.heap.size := by simp at hsz; omega
      have hgw' : w.heap.size < wr.heap.size := by simp at hsz; omega
      have HB : Hid (But B (w.alloc (.cells #[.int .u64 0, .int .u64 0, .pointer none, .int .u16 gp] 35)) wr ∧ wr.rowIs B 45 (len * 7) (rowG P C bs gp len k)) := ⟨hbut, hrow⟩
      clear hbut hrow r g hsz
      have e29 := eq29
      by_cases hp : P k = gp
      · go_wp2
        go_roundg (len - (k + 1))
        case measure => omega
        case rel =>
          obtain ⟨hbut, hrow⟩ := HB.out
          exact ⟨k + 1, by omega, rfl, by go_num, (hbut.set7 _ _ _ _ _ _ _ _).alloc _, (rowG_hit hrow hp).alloc _⟩
      · go_wp2
        go_roundg (len - (k + 1))
        case measure => omega
        case rel =>
          obtain ⟨hbut, hrow⟩ := HB.out
          exact ⟨k + 1, by omega, rfl, by go_num, hbut.alloc _, (rowG_miss hrow hp).alloc _⟩
    · obtain rfl : k = len := by omega
      have hlti : ¬ (k : Int) < (k : Int) := by omega
      have HB : Hid (But B (w.alloc (.cells #[.int .u64 0, .int .u64 0, .pointer none, .int .u16 gp] 35)) wr ∧ wr.rowIs B 45 (k * 7) (rowG P C bs gp k k)) := ⟨hbut, hrow⟩
      clear hbut hrow
      go_wp2
      go_end0
      obtain ⟨hbut, hrow⟩ := HB.out
      exact ⟨rfl, (But.alloc (But.refl _ _) _).trans hbut, hrow⟩

theorem wpList_by {P : Program} {ops : Array Oper} {rest : List Oper} {o : Oper} {a : Act} {w w' : World} {v : Value} {Q : Exit → Act → World → Prop} (hg : o.guard = none)
    (h : (execOp a.eval o).run P w = .ok (.value v) w') (hK : wpList P ops Q rest (a.put o.dst v) w') : wpList P ops Q (o :: rest) a w :=
  wpList_plain hg fun K hk => by
    unfold Oper.wp
    rw [h]
    exact hk _ _ hK

/-- The cells of a Node whose contacts are the slice over block B. -/
def NodeOk (cs : Array Value) (B n : Nat) : Prop := cs[110]? = some (.slice (some ⟨B, 0, none⟩) n n)

theorem wpList_node {ops : Array Oper} {rest : List Oper} {o : Oper} {a : Act} {w : World} {Q : Exit → Act → World → Prop} (hg : o.guard = none) (ho : o.op = .build 99 #[(39, .tmp 68)]) (B n : Nat)
    (hx : a.eval (.tmp 68) = .slice (some ⟨B, 0, none⟩) n n) (h : ∀ cs, NodeOk cs B n → wpList Yba.prog ops Q rest (a.put o.dst (.agg cs)) w) : wpList Yba.prog ops Q (o :: rest) a w := by
  have hb : (Yba.prog.built 99 [(39, .slice (some ⟨B, 0, none⟩) n n)]).bind (fun cs => cs[110]?) = some (.slice (some ⟨B, 0, none⟩) n n) := by kernel_rfl
  obtain ⟨cs, h1, h2⟩ := Option.bind_eq_some_iff.1 hb
  refine wpList_by hg ?_ (h cs h2)
  simp only [execOp, ho]
  rw [Sem.run_bind]
  have e : (#[(39, Operand.tmp 68)].map fun (x : Nat × Operand) => (x.1, a.eval x.2)) = #[(39, .slice (some ⟨B, 0, none⟩) n n)] := by simp [hx]
  have := run_build (P := Yba.prog) w 99 #[(39, .slice (some ⟨B, 0, none⟩) n n)] cs h1
  rw [e, this]
  rfl

theorem wpList_box99 {ops : Array Oper} {rest : List Oper} {o : Oper} {a : Act} {w : World} {Q : Exit → Act → World → Prop} (hg : o.guard = none) (x : Operand) (ho : o.op = .box 99 x) (cs : Array Value)
    (hx : a.eval x = .agg cs) (h : wpList Yba.prog ops Q rest (a.put o.dst (.pointer (some ⟨w.heap.size, 0, none⟩))) (w.alloc (.cells cs 99))) : wpList Yba.prog ops Q (o :: rest) a w := by
  refine wpList_by hg ?_ h
  simp only [execOp, ho, hx]
  rfl



end Go.Proofs.Ybulkdghg
