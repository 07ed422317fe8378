import Derived.Test.YbulkdgjkDoorLeaf2
namespace Go.Proofs.YbulkdgjkDoor
open Go.RowKit
attribute [local go_sem ↓] Go.wp_at_zero Go.wp_at_succ

theorem low_exists (t : Nat) (h : t ≠ 0) : ∃ k j, t = 2 ^ k * (2 * j + 1) := by
  induction t using Nat.strongRecOn with
  | _ t ih =>
    rcases Nat.mod_two_eq_zero_or_one t with h2 | h2
    · obtain ⟨k, j, e⟩ := ih (t / 2) (by omega) (by omega)
      refine ⟨k + 1, j, ?_⟩
      rw [Nat.pow_succ, Nat.mul_right_comm, ← e]
      omega
    · exact ⟨0, t / 2, by omega⟩

theorem tb (k a i : Nat) : (2 ^ k * a).testBit i = (decide (k ≤ i) && a.testBit (i - k)) := by
  rw [Nat.mul_comm, ← Nat.shiftLeft_eq, Nat.testBit_shiftLeft]
theorem odd_bit (j i : Nat) : (2 * j + 1).testBit i = (decide (i = 0) || (2 * j).testBit i) := by
  cases i with
  | zero => simp
  | succ i =>
    rw [Nat.testBit_succ, Nat.testBit_succ]
    have e1 : (2 * j + 1) / 2 = j := by omega
    have e2 : (2 * j) / 2 = j := by omega
    rw [e1, e2]; simp
theorem even_bit (j : Nat) : (2 * j).testBit 0 = false := by simp

theorem low_testBit {t k j i : Nat} (e : t = 2 ^ k * (2 * j + 1)) : t.testBit i = (decide (i = k) || (2 ^ k * (2 * j)).testBit i) := by
  subst e
  rw [tb, tb, odd_bit]
  by_cases h : k ≤ i
  · by_cases h2 : i = k
    · subst h2; simp
    · have : ¬ (i - k = 0) := by omega
      simp [h, h2, this]
  · have : ¬ i = k := by omega
    simp [h, this]
theorem rest_low {k j : Nat} : (2 ^ k * (2 * j)).testBit k = false := by
  rw [tb]; simp

theorem and_pred {t k j : Nat} (e : t = 2 ^ k * (2 * j + 1)) : t &&& (t - 1) = 2 ^ k * (2 * j) := by
  have hp : 0 < 2 ^ k := Nat.two_pow_pos k
  have e1 : t - 1 = 2 ^ k * (2 * j) + (2 ^ k - 1) := by rw [e, Nat.mul_add]; omega
  apply Nat.eq_of_testBit_eq
  intro i
  rw [Nat.testBit_and, e1, Nat.testBit_two_pow_mul_add _ (by omega), low_testBit e, tb]
  by_cases h : i < k
  · have h1 : ¬ k ≤ i := by omega
    have h2 : ¬ i = k := by omega
    simp [h, h1, h2]
  · have h1 : k ≤ i := by omega
    by_cases h2 : i = k
    · subst h2; simp
    · simp [h, h1, h2]

theorem and_neg {t k j : Nat} (e : t = 2 ^ k * (2 * j + 1)) (ht : t < 18446744073709551616) : k < 64 ∧ t &&& (18446744073709551616 - t) = 2 ^ k := by
  have hk : k < 64 := by
    rcases Nat.lt_or_ge k 64 with h | h
    · exact h
    · exfalso
      have h1 : 2 ^ 64 ≤ 2 ^ k := Nat.pow_le_pow_right (by decide) h
      have h2 : 2 ^ k * 1 ≤ 2 ^ k * (2 * j + 1) := Nat.mul_le_mul_left _ (by omega)
      have h3 : (2 : Nat) ^ 64 = 18446744073709551616 := by decide
      omega
  refine ⟨hk, ?_⟩
  have hm : (18446744073709551616 : Nat) = 2 ^ k * 2 ^ (64 - k) := by
    rw [← Nat.pow_add, Nat.add_sub_cancel' (by omega)]
  have hlt : 2 * j + 1 < 2 ^ (64 - k) ∨ 2 * j + 1 ≥ 2 ^ (64 - k) := Nat.lt_or_ge _ _
  have hj : 2 * j < 2 ^ (64 - k) := by
    rcases hlt with h | h
    · omega
    · exfalso
      have := Nat.mul_le_mul_left (2 ^ k) h
      rw [← hm, ← e] at this
      omega
  have e1 : 18446744073709551616 - t = 2 ^ k * (2 ^ (64 - k) - (2 * j + 1)) := by
    rw [Nat.mul_sub, ← hm, ← e]
  apply Nat.eq_of_testBit_eq
  intro i
  rw [Nat.testBit_and, e1, tb, Nat.testBit_two_pow_sub_succ hj, low_testBit e, tb, Nat.testBit_two_pow]
  by_cases h2 : i = k
  · subst h2
    simp
    omega
  · have h3 : ¬ k = i := fun h => h2 h.symm
    simp [h2, h3]
    intro _ h4 _ _
    exact h4

def tab : List Nat := [0, 1, 56, 2, 57, 49, 28, 3, 61, 58, 42, 50, 38, 29, 17, 4, 62, 47, 59, 36, 45, 43, 51, 22, 53, 39, 33, 30, 24, 18, 12, 5, 63, 55, 48, 27, 60, 41, 37, 16, 46, 35, 44, 21, 52, 32, 23, 11, 54, 26, 40, 15, 34, 20, 31, 10, 25, 14, 19, 9, 13, 8, 7, 6]
def place (k : Nat) : Nat := (2 ^ k * 285870213051353865 % 18446744073709551616) / 288230376151711744
theorem tab_place : ∀ k, k < 64 → place k < 64 ∧ tab.getD (place k) 0 = k := by decide +kernel

/-- The table that the program's text lays. -/
def Tab (w : World) : Prop := ∀ i, i < 64 → w.cell? ⟨0, i, none⟩ = some (.int .u8 ((tab.getD i 0 : Nat) : Int))

set_option maxHeartbeats 400000 in
set_option maxRecDepth 100000 in
theorem tz_any (t k j : Nat) (w : World) (e : t = 2 ^ k * (2 * j + 1)) (ht : t < 18446744073709551616) (hT : Hid (Tab w)) :
    Calls Ybad.prog 36 #[.int .u64 (t : Int)] w fun e w' => e = .returned (.int .i64 (k : Int)) ∧ w' = w := by
  obtain ⟨hk, hand⟩ := and_neg e ht
  have hpos : 0 < t := by rw [e]; exact Nat.mul_pos (Nat.two_pow_pos k) (by omega)
  obtain ⟨bit, hbit⟩ : ∃ bit, 2 ^ k = bit := ⟨_, rfl⟩
  have hb64 : bit < 18446744073709551616 := by rw [← hbit]; exact pow_lt64 hk
  obtain ⟨hp1, hp2⟩ := tab_place k hk
  have hneg : IntKind.u64.wrap (-(t : Int)) = ((18446744073709551616 - t : Nat) : Int) := by
    show (-(t : Int)) % 18446744073709551616 = _
    omega
  have hand2 := u64_and_nat t (18446744073709551616 - t) ht (by omega)
  rw [hand, hbit] at hand2
  obtain ⟨pl, hpl⟩ : ∃ pl, place k = pl := ⟨_, rfl⟩
  rw [hpl] at hp1 hp2
  have hmul : IntKind.u64.wrap ((bit : Int) * 285870213051353865) / 288230376151711744 = (pl : Int) := by
    show ((bit : Int) * 285870213051353865) % 18446744073709551616 / 288230376151711744 = (pl : Int)
    rw [← hpl, place, hbit]
    omega
  have hc := hT.out pl hp1
  rw [hp2] at hc
  have hk255 : (k : Int) < 64 := by omega
  have ht0 : ((t : Int) == 0) = false := by simp only [beq_eq_false_iff_ne, ne_eq]; omega
  have hpl64 : (pl : Int) < 64 := by omega
  clear hand hpl hp2 hbit e
  go_enter Ybad.func36, Ybad.ntmps36
  go_wp2
  go_ret
  exact ⟨rfl, rfl⟩

/-- Every block but b is as it was. -/
structure But (b : Nat) (w w' : World) : Prop where
  os : w'.os = w.os
  tape : w'.tape = w.tape
  output : w'.output = w.output
  size : w'.heap.size = w.heap.size
  block : ∀ k, k ≠ b → w'.heap[k]? = w.heap[k]?
theorem But.refl (b : Nat) (w : World) : But b w w := ⟨rfl, rfl, rfl, rfl, fun _ _ => rfl⟩
theorem But.trans {b : Nat} {u v w : World} (h : But b u v) (k : But b v w) : But b u w :=
  ⟨k.os.trans h.os, k.tape.trans h.tape, k.output.trans h.output, k.size.trans h.size, fun i hi => (k.block i hi).trans (h.block i hi)⟩
theorem But.setCell {b : Nat} {w w' : World} (h : But b w w') (o : Nat) (v : Value) : But b w (w'.setCell ⟨b, o, none⟩ v) :=
  ⟨h.os, h.tape, h.output, by simpa using h.size, fun k hk => (Go.heap_setCell_other w' ⟨b, o, none⟩ k v hk).trans (h.block k hk)⟩
theorem But.cell {b : Nat} {w w' : World} (h : But b w w') {p : Addr} (hp : p.block ≠ b) : w'.cell? p = w.cell? p := World.cell?_of_block (w := w) (h.block p.block hp)
theorem Tab.but {b : Nat} {w w' : World} (h : Tab w) (hb : But b w w') (h0 : b ≠ 0) : Tab w' := fun i hi => by
  rw [hb.cell (p := ⟨0, i, none⟩) (fun e => h0 e.symm)]; exact h i hi

def cnt (s t c : Nat) : Value := .int .i64 (if s.testBit c && !t.testBit c then 1 else 0)

set_option maxHeartbeats 400000 in
set_option maxRecDepth 100000 in
theorem count_any (cb n cap s : Nat) (w : World) (hn : n ≤ 64) (hs : s < 2 ^ n) (h0 : cb ≠ 0) (hT : Hid (Tab w)) (hrow : Hid (w.rowIs cb 3 n (cnt s s))) :
    Calls Ybad.prog 27 #[.slice (some ⟨cb, 0, none⟩) n cap, .int .u64 (s : Int), .int .i64 1] w fun e w' => e = .returned (.tuple #[]) ∧ But cb w w' ∧ w'.rowIs cb 3 n (cnt s 0) := by
  have hs64 : s < 18446744073709551616 := by
    have : 2 ^ n ≤ 2 ^ 64 := Nat.pow_le_pow_right (by decide) hn
    have h3 : (2 : Nat) ^ 64 = 18446744073709551616 := by decide
    omega
  have HS : Hid (s < 2 ^ n) := hs
  clear hs
  go_enter Ybad.func27, Ybad.ntmps27
  go_wp2_with fail
  go_loopg [1] s (fun gk s1 wr => ∃ t : Nat, t = gk ∧ t ≤ s ∧ s1 = .int .u64 (t : Int) ∧ But cb w wr ∧ (∀ c, t.testBit c = true → s.testBit c = true) ∧ wr.rowIs cb 3 n (cnt s t))
  case atStart => exact ⟨s, rfl, Nat.le_refl _, rfl, But.refl _ _, fun _ h => h, hrow.out⟩
  case round =>
    obtain ⟨t, rfl, hts, rfl, hb, hsub, hr⟩ := hrel
    have HB : Hid (But cb w wr ∧ (∀ c, t.testBit c = true → s.testBit c = true) ∧ wr.rowIs cb 3 n (cnt s t)) := ⟨hb, hsub, hr⟩
    clear hb hsub hr
    by_cases ht : t = 0
    · subst ht
      go_wp2
      go_end0
      exact ⟨rfl, HB.out.1, HB.out.2.2⟩
    · obtain ⟨k, j, e⟩ := low_exists t ht
      have hti : ((t : Int) == 0) = false := by simp only [beq_eq_false_iff_ne, ne_eq]; omega
      have htk : t.testBit k = true := by rw [low_testBit e]; simp
      have hkn : k < n := by
        rcases Nat.lt_or_ge k n with h | h
        · exact h
        · exfalso
          have h1 := HB.out.2.1 k htk
          rw [Nat.testBit_lt_two_pow (Nat.lt_of_lt_of_le HS.out (Nat.pow_le_pow_right (by decide) h))] at h1
          cases h1
      have hkni : (k : Int) < (n : Int) := by omega
      have hck : wr.cell? ⟨cb, k, none⟩ = some (.int .i64 0) := by
        rw [HB.out.2.2.cell hkn, cnt, htk]; simp
      have hfk : wr.frozen? ⟨cb, k, none⟩ = false := HB.out.2.2.frozen k
      have hTr : Hid (Tab wr) := hT.out.but HB.out.1 h0
      have hpred : IntKind.u64.wrap ((t : Int) - 1) = ((t - 1 : Nat) : Int) := by
        show ((t : Int) - 1) % 18446744073709551616 = _
        omega
      have hand := u64_and_nat t (t - 1) (by omega) (by omega)
      rw [and_pred e] at hand
      obtain ⟨u, hu⟩ : ∃ u, 2 ^ k * (2 * j) = u := ⟨_, rfl⟩
      rw [hu] at hand
      have hut : u < t := by
        rw [e, ← hu, Nat.mul_add]
        have := Nat.two_pow_pos k
        omega
      have hbits : ∀ c, t.testBit c = (decide (c = k) || u.testBit c) := by intro c; rw [low_testBit e, hu]
      have huk : u.testBit k = false := by rw [← hu]; exact rest_low
      have HE : Hid (t = 2 ^ k * (2 * j + 1) ∧ (∀ c, t.testBit c = (decide (c = k) || u.testBit c)) ∧ u.testBit k = false) := ⟨e, hbits, huk⟩
      clear e hbits huk hu htk ht
      go_wp2_with (first | (go_at_call 36; refine (tz_any t k j wr HE.out.1 (by omega) hTr).mono ?_; rintro e w' ⟨rfl, hw'⟩; replace hw' := hw'.symm; subst hw'))
      go_roundg u
      case measure => exact hut
      case rel =>
        obtain ⟨hb, hsub, hr⟩ := HB.out
        obtain ⟨_, hbits, huk⟩ := HE.out
        refine ⟨u, rfl, by omega, rfl, hb.setCell _ _, fun c hc => hsub c (by rw [hbits c, hc]; simp), ?_⟩
        refine (hr.set k _).congr fun c hc => ?_
        by_cases hck : c = k
        · subst hck
          have : s.testBit c = true := hsub c (by rw [hbits]; simp)
          simp [cnt, huk, this]
        · simp only [if_neg hck, cnt, hbits c, decide_eq_false hck, Bool.false_or]
end Go.Proofs.YbulkdgjkDoor
