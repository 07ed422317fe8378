import Derived.Test.YbulkdgjyRows
import Derived.WalkKit
import Derived.WalkSpells
import Derived.WalkLawsBesides
import Derived.Laws.CopyOwn
import Derived.Laws.OwnMore
import Derived.Laws.BitsAllLaws
import Derived.Deep.AppendLies
import Derived.Deep.DeepCutAuto
import Derived.Deep.CutBlock
import Derived.Deep.OwnRows
import Derived.Deep.DrawnRows
import Derived.Deep.QuietTactic
import Derived.BigQuiet
namespace Go.Proofs.Ybulkdgjy
open Go.RowKit
attribute [local go_sem ↓] Go.wp_at_zero Go.wp_at_succ

theorem info30 : (Yba.prog.info? 30).map (fun i => (i.zero, i.size, i.bytes)) = some (some (.slice none 0 0), 1, 24) := by kernel_rfl
theorem info31 : (Yba.prog.info? 31).map (fun i => (i.zero, i.size, i.bytes)) = some (some (.int .u64 0), 1, 8) := by kernel_rfl
theorem size31 : (Yba.prog.info? 31).map (·.size) = some 1 := by kernel_rfl
theorem info4 : (Yba.prog.info? 4).map (fun i => (i.zero, i.size, i.bytes)) = some (some (.bool false), 1, 1) := by kernel_rfl

theorem info_parts {P : Program} {e : TypeId} {z : Value} {bytes : Nat} (h : (P.info? e).map (fun i => (i.zero, i.size, i.bytes)) = some (some z, 1, bytes)) : ∃ i, P.info? e = some i ∧ i.zero = some z ∧ i.size = 1 ∧ i.bytes = bytes := by
  cases hi : P.info? e with
  | none => rw [hi] at h; simp at h
  | some i => rw [hi] at h; simp at h; exact ⟨i, rfl, h.1, h.2.1, h.2.2⟩

theorem wrap_pow {r bit : Nat} (h : 2 ^ r = bit) (hb : bit < 18446744073709551616) : IntKind.u64.wrap ((2 : Int) ^ r) = (bit : Int) := by
  have e : ((2 : Int) ^ r) = (bit : Int) := by rw [← h]; simp
  rw [e]
  show (bit : Int) % 18446744073709551616 = (bit : Int)
  omega

/-- A word, as the machine holds it. -/
def wd (n : Nat) : Value := .int .u64 (n : Int)
def upd {α : Type} (f : Nat → α) (l : Nat) (x : α) : Nat → α := fun j => if j = l then x else f j
theorem upd_same {α : Type} (f : Nat → α) (l : Nat) (x : α) : upd f l x l = x := by simp [upd]
theorem upd_other {α : Type} (f : Nat → α) {l j : Nat} (x : α) (h : j ≠ l) : upd f l x j = f j := by simp [upd, h]
theorem upd_upd {α : Type} (f : Nat → α) (l : Nat) (x y : α) : upd (upd f l x) l y = upd f l y := by
  funext j; unfold upd; split <;> rfl
theorem upd_self {α : Type} (f : Nat → α) (l : Nat) : upd f l (f l) = f := by
  funext j; unfold upd; split
  · rename_i h; rw [h]
  · rfl

/-- All blocks under B but S are as they were. -/
structure Kept (B S : Nat) (w w' : World) : Prop where
  os : w'.os = w.os
  tape : w'.tape = w.tape
  output : w'.output = w.output
  size : w.heap.size ≤ w'.heap.size
  block : ∀ k, k < B → k ≠ S → w'.heap[k]? = w.heap[k]?
theorem Kept.refl (B S : Nat) (w : World) : Kept B S w w := ⟨rfl, rfl, rfl, Nat.le_refl _, fun _ _ _ => rfl⟩
theorem Kept.trans {B S : Nat} {a b c : World} (h : Kept B S a b) (k : Kept B S b c) : Kept B S a c :=
  ⟨k.os.trans h.os, k.tape.trans h.tape, k.output.trans h.output, Nat.le_trans h.size k.size, fun i hi hne => (k.block i hi hne).trans (h.block i hi hne)⟩
theorem Kept.of_grown {B S : Nat} {w w' : World} {row : Option Nat} (hg : w.grownBy w' row) (hB : B ≤ w.heap.size) (hr : ∀ k, row = some k → k = S ∨ B ≤ k) : Kept B S w w' :=
  ⟨hg.os, hg.tape, hg.output, hg.size, fun k hk hne => hg.block k (by omega) (fun e => by rcases hr k e.symm with h | h <;> omega)⟩
theorem Kept.cell {B S : Nat} {w w' : World} (h : Kept B S w w') {p : Addr} (hp : p.block < B) (hne : p.block ≠ S) : w'.cell? p = w.cell? p := World.cell?_of_block (w := w) (h.block p.block hp hne)
theorem Kept.below {B S : Nat} {w w' : World} (h : Kept B S w w') {T : Nat} (h1 : T ≤ B) (h2 : T ≤ S) : Below T w w' :=
  ⟨h.os, h.tape, h.output, h.size, fun k hk => h.block k (by omega) (by omega)⟩
theorem grown_setCell (w : World) (a : Addr) (v : Value) : w.grownBy (w.setCell a v) (some a.block) :=
  ⟨rfl, rfl, rfl, by simp, fun k _ hk => Go.heap_setCell_other w a k v (fun e => hk (by rw [e]))⟩

/-- The set's blocks. -/
structure Lines (w : World) (S n B : Nat) (R : Nat → Value) (X : Nat → List Nat) : Prop where
  lt : S < B
  bsz : B ≤ w.heap.size
  row : w.rowIs S 30 n R
  own : ∀ j, j < n → w.ownsRow B 31 1 (R j) (X j).length ((X j).map wd)
  apart : ∀ i j, i < n → j < n → i ≠ j → (R i).ownBlock = none ∨ (R i).ownBlock ≠ (R j).ownBlock

theorem Lines.appended {w w3 : World} {S n B l g cap : Nat} {R : Nat → Value} {X : Nat → List Nat} {o : Obj} (h : Lines w S n B R X) (hl : l < n)
    (hown : w3.ownsRow B 31 1 (.slice (some ⟨g, 0, none⟩) ((X l).length + 1) cap) ((X l).length + 1) ((X l).map wd ++ [.int .u64 0])) (hgr : (w.alloc o).grownBy w3 (R l).ownBlock)
    (hat : (R l).ownBlock = some g ∨ g = w.heap.size + 1) :
    Lines (w3.setCell ⟨S, l, none⟩ (.slice (some ⟨g, 0, none⟩) ((X l).length + 1) cap)) S n B (upd R l (.slice (some ⟨g, 0, none⟩) ((X l).length + 1) cap)) (upd X l (X l ++ [0])) ∧
    Kept B S w (w3.setCell ⟨S, l, none⟩ (.slice (some ⟨g, 0, none⟩) ((X l).length + 1) cap)) := by
  have hlb := h.own l hl
  have hrl := hlb.lt
  have hS := h.row.lt
  have hSB := h.lt
  have hB := h.bsz
  have hgB : B ≤ g := (hown.lt g rfl).1
  have hrS : some S ≠ (R l).ownBlock := fun e => by have := hrl S e.symm; omega
  have hal : (w.alloc o).heap.size = w.heap.size + 1 := by simp
  have hrow3 : w3.rowIs S 30 n R := (h.row.alloc o).of_block (hgr.block S (by omega) hrS)
  have gs := grown_setCell w3 ⟨S, l, none⟩ (.slice (some ⟨g, 0, none⟩) ((X l).length + 1) cap)
  have hsz := hgr.size
  refine ⟨⟨hSB, ?_, ?_, ?_, ?_⟩, ?_⟩
  · have := gs.size; omega
  · exact (hrow3.set l _).congr fun i hi => by unfold upd; rfl
  · intro j hj
    by_cases hjl : j = l
    · subst hjl
      rw [upd_same, upd_same]
      have := hown.kept gs (.inr (by simp [Value.ownBlock]; omega))
      simpa [wd] using this
    · rw [upd_other _ _ hjl, upd_other _ _ hjl]
      refine (((h.own j hj).alloc o).kept hgr (h.apart j l hj hl hjl)).kept gs ?_
      cases hv : (R j).ownBlock with
      | none => exact .inl rfl
      | some k =>
        have := (h.own j hj).lt k hv
        exact .inr (by simp; omega)
  · have key : ∀ j, j < n → j ≠ l → (R j).ownBlock = none ∨ (R j).ownBlock ≠ some g := by
      intro j hj hjl
      rcases h.apart j l hj hl hjl with h1 | h1
      · exact .inl h1
      · rcases hat with h2 | h2
        · exact .inr (by rw [← h2]; exact h1)
        · cases hv : (R j).ownBlock with
          | none => exact .inl rfl
          | some k =>
            have := (h.own j hj).lt k hv
            exact .inr (by simp; omega)
    intro i j hi hj hij
    by_cases hil : i = l
    · subst hil
      have hji : j ≠ i := fun e => hij e.symm
      rw [upd_same, upd_other _ _ hji]
      rcases key j hj hji with h1 | h1
      · exact .inr (by rw [h1]; simp [Value.ownBlock])
      · exact .inr (fun e => h1 e.symm)
    · rw [upd_other _ _ hil]
      by_cases hjl : j = l
      · subst hjl
        rw [upd_same]
        exact key i hi hil
      · rw [upd_other _ _ hjl]
        exact h.apart i j hi hj hij
  · refine (Kept.of_grown (World.grownBy_alloc w o none) hB (fun k hk => by cases hk)).trans ((Kept.of_grown hgr (by omega) (fun k hk => .inr (hrl k hk).1)).trans (Kept.of_grown gs (by omega) (fun k hk => .inl ?_)))
    simpa using hk.symm

theorem Lines.stored {w : World} {S n B l g cap q y : Nat} {R : Nat → Value} {X : Nat → List Nat} (h : Lines w S n B R X) (hl : l < n) (hR : R l = .slice (some ⟨g, 0, none⟩) (X l).length cap) :
    Lines (w.setCell ⟨g, q, none⟩ (wd y)) S n B R (upd X l ((X l).set q y)) ∧ Kept B S w (w.setCell ⟨g, q, none⟩ (wd y)) := by
  have hown := h.own l hl
  rw [hR] at hown
  have hgB := (hown.lt g rfl)
  have hS := h.row.lt
  have hSB := h.lt
  have hB := h.bsz
  have gs := grown_setCell w ⟨g, q, none⟩ (wd y)
  refine ⟨⟨hSB, ?_, h.row.setOther (by simp; omega) _, ?_, h.apart⟩, Kept.of_grown gs hB (fun k hk => .inr ?_)⟩
  · have := gs.size; omega
  · intro j hj
    by_cases hjl : j = l
    · subst hjl
      rw [upd_same, hR]
      have := (hown.stored q (wd y)).1
      simpa [List.map_set] using this
    · rw [upd_other _ _ hjl]
      refine (h.own j hj).kept gs ?_
      rcases h.apart j l hj hl hjl with h1 | h1
      · exact .inl h1
      · right; rw [hR] at h1; simpa [Value.ownBlock] using h1
  · have : k = g := by simpa using hk.symm
    omega

theorem Lines.form {w : World} {S n B j : Nat} {R : Nat → Value} {X : Nat → List Nat} (h : Lines w S n B R X) (hj : j < n) : ∃ a cap, R j = .slice a (X j).length cap := by
  rcases (h.own j hj).2 with ⟨e, e0⟩ | ⟨g, cap, cur, e, _⟩
  · exact ⟨none, 0, by rw [e0]; exact e⟩
  · exact ⟨_, cap, e⟩
theorem Lines.cell {w : World} {S n B j q g cap : Nat} {R : Nat → Value} {X : Nat → List Nat} (h : Lines w S n B R X) (hj : j < n) (hR : R j = .slice (some ⟨g, 0, none⟩) (X j).length cap) (hq : q < (X j).length) :
    w.cell? ⟨g, q, none⟩ = some (.int .u64 (((X j).getD q 0 : Nat) : Int)) ∧ w.frozen? ⟨g, q, none⟩ = false := by
  have hown := h.own j hj
  rw [hR] at hown
  refine ⟨?_, hown.frozenAt q⟩
  rw [hown.cellAt q (by omega)]
  simp [List.getD_eq_getElem?_getD, hq, wd]

/-- The log's words behind an add. -/
def padded (xs : List Nat) (ln : Nat) : List Nat := xs ++ List.replicate (ln / 64 + 1 - xs.length) 0
def has (xs : List Nat) (ln : Nat) : Bool := ((padded xs ln).getD (ln / 64) 0 &&& 2 ^ (ln % 64)) != 0
def added (xs : List Nat) (ln : Nat) : List Nat := if has xs ln then padded xs ln else (padded xs ln).set (ln / 64) ((padded xs ln).getD (ln / 64) 0 ||| 2 ^ (ln % 64))
theorem padded_length (xs : List Nat) (ln : Nat) : (padded xs ln).length = max xs.length (ln / 64 + 1) := by simp [padded]; omega

set_option maxHeartbeats 1000000 in
set_option maxRecDepth 100000 in
theorem add_any (w : World) (S n B l ln : Nat) (R : Nat → Value) (X : Nat → List Nat) (hl : l < n) (_hn : n ≤ 1024) (hln : ln < 8192) (_hX : (X l).length ≤ 1024) (hw : ∀ x ∈ X l, x < 18446744073709551616) (HL : Hid (Lines w S n B R X)) :
    Calls Yba.prog 5 #[.slice (some ⟨S, 0, none⟩) n n, .int .i64 (l : Int), .int .i64 (ln : Int)] w fun e w' => e = .returned (.bool (!has (X l) ln)) ∧ Kept B S w w' ∧ ∃ R', Lines w' S n B R' (upd X l (added (X l) ln)) := by
  obtain ⟨m, hm, hmd⟩ : ∃ m : Nat, (ln : Int) / 64 = (m : Int) ∧ ln / 64 = m := ⟨ln / 64, by omega, rfl⟩
  obtain ⟨r, hr, hrd, hr64⟩ : ∃ r : Nat, (ln : Int) % 64 = (r : Int) ∧ ln % 64 = r ∧ r < 64 := ⟨ln % 64, by omega, rfl, by omega⟩
  have hm128 : m < 128 := by omega
  have hli : (l : Int) < (n : Int) := by omega
  have hl0 : (0 : Int) ≤ (l : Int) := by omega
  have HW : Hid (∀ x ∈ X l, x < 18446744073709551616) := hw
  clear hw
  go_enter Yba.func5, Yba.ntmps5
  go_wp2
  go_loopg [] (m + 1 - (X l).length) (fun gk wr => ∃ i R', i ≤ m + 1 - (X l).length ∧ gk = (m + 1 - (X l).length) - i ∧ Kept B S w wr ∧ Lines wr S n B R' (upd X l (X l ++ List.replicate i 0)))
  case atStart => exact ⟨0, R, Nat.zero_le _, rfl, Kept.refl _ _ _, by rw [List.replicate_zero, List.append_nil, upd_self]; exact HL.out⟩
  case round =>
    obtain ⟨i, R', hi, rfl, hk, hL⟩ := hrel
    obtain ⟨YY, hYY⟩ : ∃ YY, YY = upd X l (X l ++ List.replicate i 0) := ⟨_, rfl⟩
    rw [← hYY] at hL
    have hYl : YY l = X l ++ List.replicate i 0 := by rw [hYY, upd_same]
    obtain ⟨K, hK⟩ : ∃ K, (YY l).length = K := ⟨_, rfl⟩
    have hKi : K ≤ (X l).length + i := by rw [← hK, hYl]; simp
    have hKi2 : (X l).length + i ≤ K := by rw [← hK, hYl]; simp
    obtain ⟨a, cap, hR⟩ := hL.form hl
    rw [hK] at hR
    have cS : wr.cell? ⟨S, l, none⟩ = some (.slice a K cap) := by rw [← hR]; exact hL.row.cell hl
    have fS : wr.frozen? ⟨S, l, none⟩ = false := hL.row.frozen l
    have hSlt : S < wr.heap.size := hL.row.lt
    have hBsz := hL.bsz
    have hSB := hL.lt
    have HH : Hid (Kept B S w wr ∧ Lines wr S n B R' YY ∧ YY = upd X l (X l ++ List.replicate i 0) ∧ R' l = .slice a K cap ∧ (YY l).length = K) := ⟨hk, hL, hYY, hR, hK⟩
    have HY : Hid (YY l = X l ++ List.replicate i 0) := hYl
    clear hk hL hYY hR hK hYl
    by_cases hKm : K ≤ m
    · have hKmi : (K : Int) ≤ (m : Int) := by omega
      have hKmi' : ¬ (m : Int) < (K : Int) := by omega
      obtain ⟨ii, hi0, hz0, hz1, hz2⟩ := info_parts info31
      have hown2 : Hid ((wr.alloc (.cells #[.int .u64 0] 31)).ownsRow B 31 1 (.slice a K cap) K ((YY l).map wd)) := by
        have := (HH.out.2.1.own l hl).alloc (.cells #[.int .u64 0] 31)
        rw [HH.out.2.2.2.1, HH.out.2.2.2.2] at this
        exact this
      have HN : Hid (∀ j u, [Value.int .u64 0][j]? = some u → (wr.alloc (.cells #[.int .u64 0] 31)).cell? ((⟨wr.heap.size, 0, none⟩ : Addr).add j) = some u) := World.news_of_block (cs := #[.int .u64 0]) (Go.Deep.blk_alloc_new _ _)
      go_wp2_with (first | (
          at_builtin
          refine wpList_append_lies _ rfl _ _ _ rfl B 31 ii (.int .u64 0) 1 8 Yba.underlying30 hi0 hz0 hz1 hz2 rfl (by omega) (.slice a K cap) K _ rfl hown2.out ⟨wr.heap.size, 0, none⟩ 1 1 [.int .u64 0] rfl rfl HN.out (by simp [Value.oneCell']) (by omega) (by unfold maxLen; omega) (by omega) (by simp; omega) (wr.heap.size + 1) (by simp) ?_
          intro g' cap' w3 hown3 hgrow hat hlt3
          have hne : some S ≠ (Value.slice a K cap).ownBlock := (fun e => by have := (HH.out.2.1.own l hl).lt S (by rw [HH.out.2.2.2.1]; exact e.symm); omega)
          have c3 : w3.cell? ⟨S, l, none⟩ = some (.slice a K cap) := (by rw [hgrow.cell_far _ (by simp; omega) hne, World.cell?_alloc_lt _ _ _ hSlt]; exact cS)
          have f3 : w3.frozen? ⟨S, l, none⟩ = false := (by rw [hgrow.frozen_far _ (by simp; omega) hne, World.frozen?_alloc_past _ _ _ hSlt]; exact fS)))
      go_roundg (m + 1 - (X l).length - (i + 1))
      case measure => omega
      case rel =>
        obtain ⟨hk, hL, hYY, hR, hK⟩ := HH.out
        rw [← hR] at hgrow hat
        rw [← hK] at hown3
        obtain ⟨q1, q2⟩ := hL.appended hl hown3 hgrow hat
        rw [hK] at q1 q2
        have e : upd YY l (YY l ++ [0]) = upd X l (X l ++ List.replicate (i + 1) 0) := by
          rw [HY.out, hYY, upd_upd, List.append_assoc, List.replicate_succ']
        rw [e] at q1
        exact ⟨i + 1, _, by omega, rfl, hk.trans q2, q1⟩
    · have hKmi : ¬ (K : Int) ≤ (m : Int) := by omega
      have hKmi' : (m : Int) < (K : Int) := by omega
      have hpad : padded (X l) ln = YY l := by
        rw [HY.out, padded, hmd]
        congr 2
        omega
      obtain ⟨g, hR⟩ : ∃ g, R' l = .slice (some ⟨g, 0, none⟩) (YY l).length cap := by
        obtain ⟨g, c, e, _⟩ := (HH.out.2.1.own l hl).form (by rw [HH.out.2.2.2.2]; omega)
        rw [HH.out.2.2.2.1] at e
        injection e with e1 e2 e3
        exact ⟨g, by rw [HH.out.2.2.2.1, e1, HH.out.2.2.2.2]⟩
      obtain rfl : a = some ⟨g, 0, none⟩ := by
        have := HH.out.2.2.2.1
        rw [hR] at this
        injection this with e
        exact e.symm
      obtain ⟨cg, fg⟩ := HH.out.2.1.cell hl hR (q := m) (by rw [HH.out.2.2.2.2]; omega)
      obtain ⟨x, hx⟩ : ∃ x, (YY l).getD m 0 = x := ⟨_, rfl⟩
      rw [hx] at cg
      have hx64 : x < 18446744073709551616 := by
        rw [← hx, HY.out, List.getD_eq_getElem?_getD]
        by_cases hmX : m < (X l).length
        · rw [List.getElem?_append_left hmX, List.getElem?_eq_getElem hmX]
          exact HW.out _ (List.getElem_mem _)
        · rw [List.getElem?_append_right (by omega), List.getElem?_replicate]
          split <;> simp
      obtain ⟨bit, hbit⟩ : ∃ bit, 2 ^ r = bit := ⟨_, rfl⟩
      have hbit64 : bit < 18446744073709551616 := by
        rw [← hbit]
        have := Nat.pow_lt_pow_right (a := 2) (by decide) hr64
        exact this
      have hwrap : IntKind.u64.wrap ((2 : Int) ^ r) = (bit : Int) := wrap_pow hbit hbit64
      have hand := u64_and_nat x bit hx64 hbit64
      have hor := u64_or_nat x bit hx64 hbit64
      have hhas : Hid (has (X l) ln = ((x &&& bit) != 0)) := by
        show has (X l) ln = _
        unfold has; rw [hpad, hmd, hrd, hx, hbit]
      have hadd : Hid (added (X l) ln = if (x &&& bit) != 0 then YY l else (YY l).set m (x ||| bit)) := by
        show added (X l) ln = _
        unfold added; rw [hhas.out, hpad, hmd, hrd, hx, hbit]
      have hgS : Hid (R' l = .slice (some ⟨g, 0, none⟩) (YY l).length cap) := hR
      clear hR hpad hx
      clear hbit
      by_cases hz : (x &&& bit) = 0
      · have hzi : (((x &&& bit : Nat) : Int) == 0) = true := by rw [hz]; rfl
        have hzh : Hid ((x &&& bit) = 0) := hz
        clear hz
        go_wp2
        go_ret
        obtain ⟨hk, hL, hYY, hR, hK⟩ := HH.out
        obtain ⟨q1, q2⟩ := hL.stored (q := m) (y := x ||| bit) hl hgS.out
        refine ⟨by rw [hhas.out, hzh.out]; rfl, hk.trans q2, R', ?_⟩
        rw [hadd.out, hzh.out]
        have e : upd YY l ((YY l).set m (x ||| bit)) = upd X l ((YY l).set m (x ||| bit)) := by rw [hYY, upd_upd]
        rw [e] at q1
        exact q1
      · have hzi : (((x &&& bit : Nat) : Int) == 0) = false := by simp only [beq_eq_false_iff_ne, ne_eq]; omega
        have hzh : Hid (((x &&& bit) != 0) = true) := by show _ = true; simp [hz]
        clear hz
        go_wp2
        go_ret
        obtain ⟨hk, hL, hYY, hR, hK⟩ := HH.out
        refine ⟨by rw [hhas.out, hzh.out]; rfl, hk, R', ?_⟩
        rw [hadd.out, hzh.out, if_pos rfl, HY.out, ← hYY]
        exact hL
end Go.Proofs.Ybulkdgjy
