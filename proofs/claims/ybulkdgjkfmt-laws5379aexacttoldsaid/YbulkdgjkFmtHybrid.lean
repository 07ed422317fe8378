import Derived.Test.YbulkdgjkFmtLockA
namespace Go.Proofs.YbulkdgjkFmt
open Go.RowKit Go.Extern.Stop Go.Stop Go.Extern

theorem call21 (args : Array Value) (w : World) : (callFunc 21 args).run Ybaf.prog w = ((FmtStop.errorf #[9, 90] #[63] args).run Ybaf.prog w).andThen fun v w' => .ok (.value v) w' :=
  run_callFunc_extern Ybaf.func21 (by kernel_rfl) (by kernel_rfl) (by kernel_rfl) (by kernel_rfl) args w
theorem fguard (name : String) (w : World) : (FmtStop.guard name).run Ybaf.prog w = .ok () w := by kernel_rfl
theorem fmt0r (w : World) : (FmtDoors.printed ⟨#[108, 97, 116, 99, 104, 119, 111, 114, 107, 58, 32, 37, 115, 32, 104, 97, 115, 32, 110, 111, 32, 99, 111, 110, 102, 108, 105, 99, 116, 32, 116, 121, 112, 101, 32, 37, 113]⟩ 2).run Ybaf.prog w = .ok [(0, 115, false), (1, 113, false)] w := by kernel_rfl
def shape9 : List UInt8 := [12, 6, 0, 0, 0, 0, 0, 0, 0, 115, 116, 114, 105, 110, 103]
theorem op9_115w (name : String) (x : ByteArray) (w : World) : (FmtStop.operand name true 115 false (.iface 9 (.string x))).run Ybaf.prog w = .ok (shape9, FmtStop.pack x.data.toList) w := by kernel_rfl
theorem op9_113w (name : String) (x : ByteArray) (w : World) : (FmtStop.operand name true 113 false (.iface 9 (.string x))).run Ybaf.prog w = .ok (shape9, FmtStop.pack x.data.toList) w := by kernel_rfl
theorem ptr98 (w : World) : (FmtStop.ptrTo "errors.errorString").run Ybaf.prog w = .ok 98 w := by kernel_rfl
theorem elem98 (w : World) : (elemOf 98).run Ybaf.prog w = .ok 100 w := by kernel_rfl
attribute [local go_sem] call21 fguard fmt0r op9_115w op9_113w ptr98 elem98

set_option maxHeartbeats 800000 in
theorem errorf_any (F : Interp) (vb : Nat) (x y : ByteArray) (w : World) (hF : F.answers w.tape) (h0 : w.cell? ⟨vb, 0, none⟩ = some (.iface 9 (.string x))) (h1 : w.cell? ⟨vb, 1, none⟩ = some (.iface 9 (.string y))) :
    Calls Ybaf.prog 15 #[.string ⟨#[108, 97, 116, 99, 104, 119, 111, 114, 107, 58, 32, 37, 115, 32, 104, 97, 115, 32, 110, 111, 32, 99, 111, 110, 102, 108, 105, 99, 116, 32, 116, 121, 112, 101, 32, 37, 113]⟩, .slice (some ⟨vb, 0, none⟩) 2 2] w
      fun e w' => ∃ p, e = .returned (.iface 98 (.pointer (some p))) ∧ Below w.heap.size w w' := by
  have hF' := answers_open hF
  go_enter Ybaf.func15, Ybaf.ntmps15
  go_wp2
  go_ret
  exact ⟨_, rfl, ((Below.refl _ _).alloc (Nat.le_refl _) _).drew⟩

/-- All blocks that were there but B are as they were. -/
structure But (B : Nat) (w w' : World) : Prop where
  os : w'.os = w.os
  tape : w'.tape = w.tape
  output : w'.output = w.output
  size : w.heap.size ≤ w'.heap.size
  block : ∀ k, k < w.heap.size → k ≠ B → w'.heap[k]? = w.heap[k]?

theorem But.refl (B : Nat) (w : World) : But B w w := ⟨rfl, rfl, rfl, Nat.le_refl _, fun _ _ _ => rfl⟩
theorem But.trans {B : Nat} {a b c : World} (h : But B a b) (k : But B b c) : But B a c :=
  ⟨k.os.trans h.os, k.tape.trans h.tape, k.output.trans h.output, Nat.le_trans h.size k.size, fun i hi hb => (k.block i (Nat.lt_of_lt_of_le hi h.size) hb).trans (h.block i hi hb)⟩
theorem But.of_below {B : Nat} {a w : World} (h : Below a.heap.size a w) : But B a w := ⟨h.os, h.tape, h.output, h.size, fun k hk _ => h.block k hk⟩
theorem But.setCell {B : Nat} {a w : World} (h : But B a w) (i : Nat) (v : Value) : But B a (w.setCell ⟨B, i, none⟩ v) :=
  h.trans ⟨rfl, rfl, rfl, by simp [World.setCell], fun k _ hk => Below.heap_setCell _ _ _ _ hk⟩
theorem But.cell {B : Nat} {w w' : World} (h : But B w w') {p : Addr} (hp : p.block < w.heap.size) (hb : p.block ≠ B) : w'.cell? p = w.cell? p := World.cell?_of_block (w := w) (h.block p.block hp hb)
theorem But.below {B N : Nat} {w w' : World} (h : But B w w') (hN : N ≤ B) (hs : N ≤ w.heap.size) : Below N w w' := ⟨h.os, h.tape, h.output, h.size, fun k hk => h.block k (by omega) (by omega)⟩

/-- Name m is hit by one of the first k picks. -/
def Hit (S T : Nat → ByteArray) (k m : Nat) : Prop := ∃ j, j < k ∧ S m = T j ∧ ∀ i, i < m → S i ≠ T j
def Known (S T : Nat → ByteArray) (n k : Nat) : Prop := ∀ j, j < k → ∃ i, i < n ∧ S i = T j

theorem info4 : (Ybaf.prog.info? 4).map (fun i => (i.zero, i.size, i.bytes)) = some (some (.bool false), 1, 1) := by kernel_rfl

theorem hit_step {S T : Nat → ByteArray} {n k i : Nat} {L : Nat → Bool} (hi : i < n) (e : S i = T k) (hne : ∀ j, j < i → S j ≠ T k) (hL : ∀ m, m < n → (L m = true ↔ Hit S T k m)) :
    ∀ m, m < n → ((if m = i then true else L m) = true ↔ Hit S T (k + 1) m) := by
  intro m hm
  by_cases em : m = i
  · subst em
    simp only [if_true, true_iff]
    exact ⟨k, by omega, e, hne⟩
  · rw [if_neg em, hL m hm]
    constructor
    · rintro ⟨j, h1, h2, h3⟩
      exact ⟨j, by omega, h2, h3⟩
    · rintro ⟨j, h1, h2, h3⟩
      refine ⟨j, ?_, h2, h3⟩
      rcases Nat.lt_or_ge j k with h | h
      · exact h
      · obtain rfl : j = k := by omega
        exfalso
        rcases Nat.lt_or_ge m i with hl | hl
        · exact hne m hl h2
        · exact h3 i (by omega) e

theorem known_step {S T : Nat → ByteArray} {n k i : Nat} (hi : i < n) (e : S i = T k) (h : Known S T n k) : Known S T n (k + 1) := by
  intro j hj
  rcases Nat.lt_or_ge j k with hl | hl
  · exact h j hl
  · obtain rfl : j = k := by omega
    exact ⟨i, hi, e⟩

/-- The object's memory ahead of SetHybrid. -/
structure Obj (w : World) (ob tb nb pb n q c : Nat) (S T : Nat → ByteArray) : Prop where
  name : w.cell? ⟨ob, 2, none⟩ = some (.string ⟨#[111]⟩)
  typ : w.cell? ⟨ob, 3, none⟩ = some (.pointer (some ⟨tb, 0, none⟩))
  st : w.cell? ⟨ob, 5, none⟩ = some (.int .i32 0)
  hyb : ∃ v, w.cell? ⟨ob, 12, none⟩ = some v
  fz : ∀ i, w.frozen? ⟨ob, i, none⟩ = false
  names : w.cell? ⟨tb, 0, none⟩ = some (.slice (some ⟨nb, 0, none⟩) n n)
  strs : ∀ i, i < n → w.cell? ⟨nb, i, none⟩ = some (.string (S i))
  picks : ∀ j, j < q → w.cell? ⟨pb, j, none⟩ = some (.string (T j))
  obl : ob < w.heap.size
  tbl : tb < w.heap.size
  nbl : nb < w.heap.size
  pbl : pb < w.heap.size

set_option maxHeartbeats 800000 in
set_option maxRecDepth 100000 in
theorem hybrid_any (F : Interp) (ob tb nb pb n q c : Nat) (S T : Nat → ByteArray) (w : World) (hF : Hid (F.answers w.tape)) (hn : n ≤ 1024) (hq : q ≤ 1024) (ho : Hid (Obj w ob tb nb pb n q c S T)) :
    Calls Ybaf.prog 6 #[.pointer (some ⟨ob, 0, none⟩), .slice (some ⟨pb, 0, none⟩) q c] w fun e w' =>
      (¬ Known S T n q ∧ (∃ p, e = .returned (.iface 98 (.pointer (some p)))) ∧ Below w.heap.size w w') ∨
      (Known S T n q ∧ e = .returned .nilIface ∧ But ob w w' ∧ w'.cell? ⟨ob, 5, none⟩ = some (.int .i32 0) ∧ ∃ lb, ∃ L : Nat → Bool, w'.cell? ⟨ob, 12, none⟩ = some (.slice (some ⟨lb, 0, none⟩) n n) ∧ w.heap.size ≤ lb ∧
        w'.rowIs lb 4 n (fun m => .bool (L m)) ∧ ∀ m, m < n → (L m = true ↔ Hit S T q m)) := by
  have hmk := run_make_row' (P := Ybaf.prog) 24 4 (.bool false) 1 Ybaf.underlying24 info4 rfl .i64 .i64 n (by omega) (by omega)
  have c3 := ho.out.typ
  have c4 := ho.out.names
  go_enter Ybaf.func6, Ybaf.ntmps6
  go_wp2
  clear hmk c3 c4
  go_loopg [20] q (fun g s20 wr => ∃ k : Nat, k ≤ q ∧ g = q - k ∧ s20 = .int .i64 k ∧ Below w.heap.size w wr ∧ Known S T n k ∧ ∃ L : Nat → Bool, wr.rowIs w.heap.size 4 n (fun m => .bool (L m)) ∧ ∀ m, m < n → (L m = true ↔ Hit S T k m))
  case atStart =>
    exact ⟨0, Nat.zero_le _, rfl, rfl, (Below.refl _ _).alloc (Nat.le_refl _) _, fun j hj => by omega, fun _ => false, World.rowIs_made _ _ _ _, fun m _ => by simp [Hit]⟩
  case round =>
    obtain ⟨k, hk, rfl, rfl, hbel, hkn, L, hrow, hL⟩ := hrel
    have hO := ho.out
    have hlw : w.heap.size < wr.heap.size := hrow.lt
    have c3 : wr.cell? ⟨ob, 3, none⟩ = some (.pointer (some ⟨tb, 0, none⟩)) := by rw [hbel.cell hO.obl]; exact hO.typ
    have c4 : wr.cell? ⟨tb, 0, none⟩ = some (.slice (some ⟨nb, 0, none⟩) n n) := by rw [hbel.cell hO.tbl]; exact hO.names
    have cS : Hid (∀ i, i < n → wr.cell? ⟨nb, i, none⟩ = some (.string (S i))) := fun i hi => by rw [hbel.cell hO.nbl]; exact hO.strs i hi
    have c2 : wr.cell? ⟨ob, 2, none⟩ = some (.string ⟨#[111]⟩) := by rw [hbel.cell hO.obl]; exact hO.name
    by_cases hlt : k < q
    · have hlti : (k : Int) < (q : Int) := by omega
      have cT : wr.cell? ⟨pb, k, none⟩ = some (.string (T k)) := by rw [hbel.cell hO.pbl]; exact hO.picks k hlt
      have HB : Hid (Below w.heap.size w wr ∧ Known S T n k ∧ wr.rowIs w.heap.size 4 n (fun m => .bool (L m)) ∧ ∀ m, m < n → (L m = true ↔ Hit S T k m)) := ⟨hbel, hkn, hrow, hL⟩
      clear hbel hkn hrow hL hO
      go_wp2_with fail
      refine (conflict_any tb nb n n S (T k) wr hn c4 cS).mono ?_
      rintro e w1 ⟨r, rfl, hr, rfl⟩
      rcases hr with ⟨rfl, hno⟩ | ⟨i, hi, rfl, he, hne⟩
      · have HNO : Hid (∀ i, i < n → S i ≠ T k) := hno
        clear hno
        go_wp2_with fail
        refine (errorf_any F w1.heap.size ⟨#[111]⟩ (T k) _ (by rw [show (World.alloc _ _).tape = w1.tape from rfl, HB.out.1.tape]; exact hF.out) (by simp) (by simp)).mono ?_
        rintro e w2 ⟨p, rfl, hb2⟩
        have HB2 : Hid (Below w.heap.size w w2) := (HB.out.1.alloc HB.out.1.size _).trans (hb2.mono (by have := HB.out.1.size; simp; omega))
        clear hb2
        go_wp2
        go_ret
        exact .inl ⟨fun hkn => by
          obtain ⟨i, hi, e⟩ := hkn k hlt
          exact HNO.out i hi e, ⟨p, rfl⟩, HB2.out⟩
      · have hii : (i : Int) < (n : Int) := by omega
        have hi0 : ¬ (i : Int) < 0 := by omega
        have HE : Hid (S i = T k ∧ ∀ j, j < i → S j ≠ T k) := ⟨he, hne⟩
        clear he hne
        have cl : w1.cell? ⟨w.heap.size, i, none⟩ = some (.bool (L i)) := HB.out.2.2.1.cell hi
        have fl : w1.frozen? ⟨w.heap.size, i, none⟩ = false := HB.out.2.2.1.frozen i
        go_wp2
        go_roundg (q - (k + 1))
        case measure => omega
        case rel =>
          obtain ⟨hbel, hkn, hrow, hL⟩ := HB.out
          exact ⟨k + 1, by omega, rfl, by go_num, hbel.setCell (Nat.le_refl _) _, known_step hi HE.out.1 hkn, fun m => if m = i then true else L m,
            (hrow.set i _).congr fun m _ => by (by_cases e : m = i <;> simp [e]), hit_step hi HE.out.1 HE.out.2 hL⟩
    · obtain rfl : k = q := by omega
      have hlti : ¬ (k : Int) < (k : Int) := by omega
      have c5 : wr.cell? ⟨ob, 5, none⟩ = some (.int .i32 0) := by rw [hbel.cell hO.obl]; exact hO.st
      obtain ⟨hv, hhv⟩ := hO.hyb
      have c12 : wr.cell? ⟨ob, 12, none⟩ = some hv := by rw [hbel.cell hO.obl]; exact hhv
      have fz : ∀ i, wr.frozen? ⟨ob, i, none⟩ = false := fun i => by rw [hbel.frozen (p := ⟨ob, i, none⟩) hO.obl]; exact hO.fz i
      have HB : Hid (Below w.heap.size w wr ∧ Known S T n k ∧ wr.rowIs w.heap.size 4 n (fun m => .bool (L m)) ∧ (∀ m, m < n → (L m = true ↔ Hit S T k m)) ∧ ob < w.heap.size) := ⟨hbel, hkn, hrow, hL, hO.obl⟩
      clear hbel hkn hrow hL hO hhv
      go_wp2_with fail
      refine (lock_any ob 5 wr c5 (fz 5)).mono ?_
      rintro e w1 ⟨rfl, rfl⟩
      go_wp2_with fail
      refine (unlock_any ob 5 _ ?_ ?_).mono ?_
      · go_simp
      · go_simp
      rintro e w1 ⟨rfl, rfl⟩
      go_wp2
      go_ret
      obtain ⟨hbel, hkn, hrow, hL, hol⟩ := HB.out
      refine .inr ⟨hkn, rfl, (((But.of_below hbel).setCell _ _).setCell _ _).setCell _ _, by go_simp, w.heap.size, L, by go_simp, Nat.le_refl _, ?_, hL⟩
      exact ((hrow.setOther (by simp; omega) _).setOther (by simp; omega) _).setOther (by simp; omega) _
end Go.Proofs.YbulkdgjkFmt
