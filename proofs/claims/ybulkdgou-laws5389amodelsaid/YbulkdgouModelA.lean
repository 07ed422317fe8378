import Derived.Test.YbulkdgouRows
import Derived.WalkKit
import Derived.WalkSpells
import Derived.WalkLawsBesides
import Derived.Laws.CopyOwn
import Derived.Deep.DeepCutAuto
import Derived.Deep.CutBlock
import Derived.Deep.OwnRows
import Derived.Deep.DrawnRows
import Derived.Deep.QuietTactic
import Derived.BigQuiet
namespace Go.Proofs.Ybulkdgou.Model
open Go.RowKit
attribute [local go_sem ↓] Go.wp_at_zero Go.wp_at_succ

def IsI (w : World) (a : Option Addr) (n : Nat) (Z : Nat → Int) : Prop :=
  0 < n → ∃ b off, a = some ⟨b, off, none⟩ ∧ b < w.heap.size ∧ ∀ i, i < n → w.cell? ⟨b, off + i, none⟩ = some (.int .i64 (Z i))

theorem size3 : (Yba.prog.info? 3).map (·.size) = some 1 := by kernel_rfl
theorem info3 : (Yba.prog.info? 3).map (fun i => (i.zero, i.size, i.bytes)) = some (some (.int .i64 0), 1, 8) := by kernel_rfl

theorem wpList_copyI {ops : Array Oper} {rest : List Oper} {o : Oper} {a : Act} {w : World} {Q : Exit → Act → World → Prop} (hgd : o.guard = none) (ho : o.op = .call { callee := .builtin .copy, args := #[.tmp 22, .tmp 23], argTypes := #[22, 22] })
    (g d cap : Nat) (ad : Option Addr) (X : Nat → Int) (hd : a.eval (.tmp 22) = .slice (some ⟨g, 0, none⟩) d d) (hs : a.eval (.tmp 23) = .slice ad d cap) (hrow : w.rowIs g 3 d (fun _ => .int .i64 0)) (hsrc : IsI w ad d X)
    (h : ∀ w1, Below g w w1 → w1.heap.size = w.heap.size → w1.rowIs g 3 d (fun m => .int .i64 (X m)) → wpList Yba.prog ops Q rest (a.put o.dst (goInt d)) w1) : wpList Yba.prog ops Q (o :: rest) a w := by
  rcases Nat.eq_zero_or_pos d with h0 | h0
  · subst h0
    refine wpList_copy_nothing hgd _ _ 22 22 ho 3 Yba.underlying22 size3 _ _ 0 0 0 cap hd hs rfl ?_
    exact h w (Below.refl _ _) rfl (hrow.congr fun i hi => by omega)
  · obtain ⟨b, off, rfl, hb, hc⟩ := hsrc h0
    obtain ⟨c, hg, hc1, hc2⟩ := hrow
    have hlen : ((List.range d).map fun m => Value.int .i64 (X m)).length = d := by simp
    refine wpList_copy_own hgd _ _ 22 22 ho 3 Yba.underlying22 size3 g 0 d d ⟨b, off, none⟩ d cap hd hs c 3 hg ((List.range d).map fun m => .int .i64 (X m)) (by simp) ?_ (by simp; omega) ?_ ?_
    · intro j v hj
      rw [List.getElem?_map] at hj
      obtain ⟨m, hm, rfl⟩ := Option.map_eq_some_iff.1 hj
      obtain ⟨hl, rfl⟩ := List.getElem?_eq_some_iff.1 hm
      simp at hl ⊢
      rw [Addr.add_lit]
      exact hc j hl
    · intro v hv
      simp at hv
      obtain ⟨m, _, rfl⟩ := hv
      rfl
    · rw [hlen]
      refine h _ (below_setRow (Below.refl _ _) (Nat.le_refl _) _) (by simp) ⟨_, setRow_heap w g c _ 3 (0, 0) hg, ?_, ?_⟩
      · simp; omega
      · intro i hi
        simp
        rw [List.getElem?_append_left (by simpa using hi)]
        simp [hi]

/-- What build leaves. -/
structure Built (w w' : World) (len k : Nat) (Z : Nat → Int) : Prop where
  bel : Below w.heap.size w w'
  size : w'.heap.size = w.heap.size + 3
  row : w'.rowIs w.heap.size 3 len (fun m => .int .i64 (Z m))
  keys : w'.cell? ⟨w.heap.size + 2, 0, none⟩ = some (.slice (some ⟨w.heap.size + 1, 0, none⟩) k k)
  rows : w'.cell? ⟨w.heap.size + 2, 3, none⟩ = some (.slice (some ⟨w.heap.size, 0, none⟩) len len)

theorem built_mk {w w1 : World} {len k : Nat} {Z : Nat → Int} (hb : Below w.heap.size w w1) (hs : w1.heap.size = w.heap.size + 1) (hr : w1.rowIs w.heap.size 3 len (fun m => .int .i64 (Z m))) (x : Obj) :
    Built w ((w1.alloc x).alloc (.cells #[.slice (some ⟨w.heap.size + 1, 0, none⟩) k k, .slice none 0 0, .int .i64 0, .slice (some ⟨w.heap.size, 0, none⟩) len len, .slice none 0 0, .slice none 0 0, .slice none 0 0, .int .i64 0] 31)) len k Z := by
  refine ⟨(hb.alloc (by omega) _).alloc (by simp; omega) _, by simp [hs], (hr.alloc _).alloc _, ?_, ?_⟩
  · rw [World.cell?_alloc_at _ _ _ _ (by simp [hs])]; rfl
  · rw [World.cell?_alloc_at _ _ _ _ (by simp [hs])]; rfl

set_option maxHeartbeats 400000 in
set_option maxRecDepth 100000 in
theorem build_any (kk : Int) (a : Option Addr) (len cap : Nat) (Z : Nat → Int) (w : World) (h0 : 0 ≤ kk) (h1 : kk ≤ 255) (hl : len ≤ 1024) (hz : Hid (IsI w a len Z)) :
    Calls Yba.prog 6 #[.int .u8 kk, .slice a len cap] w fun e w' => ∃ k : Nat, k ≤ len ∧ e = .returned (.tuple #[.pointer (some ⟨w.heap.size + 2, 0, none⟩), .slice (some ⟨w.heap.size, 0, none⟩) len len, .int .i64 k]) ∧ Built w w' len k Z := by
  go_enter Yba.func6, Yba.ntmps6
  go_upto_if 16 with (fail)
  go_cut [7] (fun s7 wc => ∃ k : Nat, k ≤ len ∧ s7 = .int .i64 k ∧ wc = w)
  case first =>
    obtain ⟨m, hm⟩ : ∃ m : Nat, kk % 9 = (m : Int) := ⟨(kk % 9).toNat, by omega⟩
    by_cases hgt : len < m
    · have hgt' : (len : Int) < (m : Int) := by omega
      go_wp2
      go_meet
      case rel => exact ⟨len, Nat.le_refl _, rfl, rfl⟩
    · have hgt' : ¬ (len : Int) < (m : Int) := by omega
      go_wp2
      go_meet
      case rel => exact ⟨m, by omega, rfl, rfl⟩
  case rest =>
    obtain ⟨k, hk, rfl, hwc⟩ := hcut
    subst hwc
    have hmk := run_make_row' (P := Yba.prog) 22 3 (.int .i64 0) 8 Yba.underlying22 info3 rfl .i64 .i64 len (by omega) (by omega)
    have hmk2 := run_make_row' (P := Yba.prog) 22 3 (.int .i64 0) 8 Yba.underlying22 info3 rfl .i64 .i64 k (by omega) (by omega)
    go_wp2_with (first | (refine wpList_copyI rfl rfl _ len cap a Z rfl rfl (World.rowIs_made wc (.int .i64 0) len 3) (by
      intro h0; obtain ⟨b, off, e, hb, hc⟩ := hz.out h0
      exact ⟨b, off, e, by simp; omega, fun m hm => by rw [World.cell?_alloc_lt _ _ _ hb]; exact hc m hm⟩) ?_; intro w1 hb1 hs1 hr1))
    go_ret3
    have hs : w1.heap.size = wc.heap.size + 1 := by rw [hs1]; simp
    exact ⟨k, hk, rfl, built_mk (((Below.refl _ _).alloc (Nat.le_refl _) _).trans hb1) hs hr1 _⟩

/-- How many of the first k keys agree. -/
def same (Z : Nat → Int) (a b : Nat) : Nat → Nat
  | 0 => 0
  | k + 1 => same Z a b k + (if Z (a + k) = Z (b + k) then 1 else 0)
theorem same_le (Z : Nat → Int) (a b k : Nat) : same Z a b k ≤ k := by
  induction k with
  | zero => exact Nat.le_refl _
  | succ k ih => simp only [same]; split <;> omega

set_option maxHeartbeats 400000 in
set_option maxRecDepth 100000 in
theorem same_any (g len : Nat) (a : Option Addr) (cap : Nat) (Z : Nat → Int) (w : World) (hl : len ≤ 1024) (h1 : Hid (∀ i, i < len → w.cell? ⟨g, i, none⟩ = some (.int .i64 (Z i)))) (h2 : Hid (IsI w a len Z)) :
    Calls Yba.prog 8 #[.slice (some ⟨g, 0, none⟩) len len, .slice a len cap] w fun e w' => e = .returned (.bool true) ∧ ∃ n, w' = w.drewN n := by
  go_enter Yba.func8, Yba.ntmps8
  go_wp2
  go_loopg [5] len (fun gk s5 wr => ∃ i : Nat, i ≤ len ∧ gk = len - i ∧ s5 = .int .i64 i ∧ ∃ n, wr = w.drewN n)
  case atStart => exact ⟨0, Nat.zero_le _, rfl, rfl, 0, rfl⟩
  case round =>
    obtain ⟨i, hi, rfl, rfl, n, hwr⟩ := hrel
    subst hwr
    by_cases hil : i < len
    · have hili : (i : Int) < (len : Int) := by omega
      have hi0 : (0 : Int) ≤ (i : Int) := by omega
      have c1 := h1.out i hil
      obtain ⟨b, off, rfl, hb, hc⟩ := h2.out (by omega)
      have c2 := hc i hil
      clear hc
      go_wp2_with fail
      go_quiet (fail)
      go_wp2
      go_roundg (len - (i + 1))
      case measure => omega
      case rel => exact ⟨i + 1, by omega, rfl, by go_num, _, rfl⟩
    · obtain rfl : i = len := by omega
      have hili : ¬ (i : Int) < (i : Int) := by omega
      go_wp2
      go_ret
      exact ⟨rfl, _, rfl⟩

set_option maxHeartbeats 400000 in
set_option maxRecDepth 100000 in
theorem distance_any (pb kb g len k p q A B : Nat) (Z : Nat → Int) (w : World) (hl : len ≤ 1024) (hk : 1 ≤ k) (hA : p * k = A) (hB : q * k = B) (hAl : A + k ≤ len) (hBl : B + k ≤ len)
    (c0 : w.cell? ⟨pb, 0, none⟩ = some (.slice (some ⟨kb, 0, none⟩) k k)) (c3 : w.cell? ⟨pb, 3, none⟩ = some (.slice (some ⟨g, 0, none⟩) len len)) (hZ : Hid (∀ i, i < len → w.cell? ⟨g, i, none⟩ = some (.int .i64 (Z i)))) :
    Calls Yba.prog 7 #[.pointer (some ⟨pb, 0, none⟩), .int .i64 (p : Int), .int .i64 (q : Int)] w fun e w' => e = .returned (.int .i64 ((k - same Z A B k : Nat) : Int)) ∧ w' = w := by
  have e1 : (p : Int) * (k : Int) = (A : Int) := by rw [← hA]; simp
  have e2 : ((p : Int) + 1) * (k : Int) = ((A + k : Nat) : Int) := by rw [← hA]; simp [Int.add_mul]
  have e3 : (q : Int) * (k : Int) = (B : Int) := by rw [← hB]; simp
  have hp : (p : Int) ≤ 1024 := by
    have : p * 1 ≤ p * k := Nat.mul_le_mul_left _ hk
    omega
  have hq : (q : Int) ≤ 1024 := by
    have : q * 1 ≤ q * k := Nat.mul_le_mul_left _ hk
    omega
  have hlA : ¬ (len = A) := by omega
  clear hA hB
  go_enter Yba.func7, Yba.ntmps7
  go_wp2
  go_loopg [29, 8] k (fun gk s29 s8 wr => ∃ i : Nat, i ≤ k ∧ gk = k - i ∧ s29 = .int .i64 i ∧ s8 = .int .i64 ((i - same Z A B i : Nat) : Int) ∧ wr = w)
  case atStart => exact ⟨0, Nat.zero_le _, rfl, rfl, rfl, rfl⟩
  case round =>
    obtain ⟨i, hi, rfl, rfl, rfl, hwr⟩ := hrel
    subst hwr
    by_cases hik : i < k
    · have hiki : (i : Int) < ((A + k : Nat) : Int) - (A : Int) := by omega
      have hiki' : (i : Int) < (k : Int) := by omega
      have hi0 : (0 : Int) ≤ (i : Int) := by omega
      have hBi0 : (0 : Int) ≤ (B : Int) + (i : Int) := by omega
      have hBi : (B : Int) + (i : Int) < (len : Int) := by omega
      have e4 : ((B : Int) + (i : Int)).toNat = B + i := by omega
      have cA := hZ.out (A + i) (by omega)
      have cB := hZ.out (B + i) (by omega)
      have hle := same_le Z A B i
      by_cases hz : Z (A + i) = Z (B + i)
      · have hz' : (Z (A + i) == Z (B + i)) = true := by simp [hz]
        go_wp2
        go_roundg (k - (i + 1))
        case measure => omega
        case rel => exact ⟨i + 1, by omega, rfl, by go_num, by simp [same, hz], rfl⟩
      · have hz' : (Z (A + i) == Z (B + i)) = false := by simp [hz]
        go_wp2
        go_roundg (k - (i + 1))
        case measure => omega
        case rel => exact ⟨i + 1, by omega, rfl, by go_num, by simp [same, hz]; go_num, rfl⟩
    · obtain rfl : i = k := by omega
      have hiki : ¬ (i : Int) < ((A + i : Nat) : Int) - (A : Int) := by omega
      have hiki' : ¬ (i : Int) < (i : Int) := by omega
      go_wp2
      go_ret
      exact ⟨rfl, rfl⟩

set_option maxHeartbeats 400000 in
set_option maxRecDepth 100000 in
theorem distance_none (pb kb g len p q : Nat) (w : World) (hl : len ≤ 1024) (hp : p ≤ 1024)
    (c0 : w.cell? ⟨pb, 0, none⟩ = some (.slice (some ⟨kb, 0, none⟩) 0 0)) (c3 : w.cell? ⟨pb, 3, none⟩ = some (.slice (some ⟨g, 0, none⟩) len len)) :
    Calls Yba.prog 7 #[.pointer (some ⟨pb, 0, none⟩), .int .i64 (p : Int), .int .i64 (q : Int)] w fun e w' => e = .returned (.int .i64 0) ∧ w' = w := by
  have e1 : (p : Int) * 0 = 0 := by omega
  have e2 : ((p : Int) + 1) * 0 = 0 := by omega
  have h0 : (0 : Int) ≤ (len : Int) := by omega
  go_enter Yba.func7, Yba.ntmps7
  go_wp2
  go_loopg [29, 8] 0 (fun gk s29 s8 wr => s29 = .int .i64 0 ∧ s8 = .int .i64 0 ∧ wr = w)
  case atStart => exact ⟨rfl, rfl, rfl⟩
  case round =>
    obtain ⟨rfl, rfl, hwr⟩ := hrel
    subst hwr
    go_wp2
    go_ret
    exact ⟨rfl, rfl⟩

theorem IsI.below {w w' : World} {a : Option Addr} {n : Nat} {Z : Nat → Int} (h : IsI w a n Z) (hb : Below w.heap.size w w') : IsI w' a n Z := by
  intro h0
  obtain ⟨b, off, e, hlt, hc⟩ := h h0
  refine ⟨b, off, e, Nat.lt_of_lt_of_le hlt hb.size, fun i hi => ?_⟩
  rw [hb.cell (p := ⟨b, off + i, none⟩) hlt]
  exact hc i hi

theorem cell_drewN (n : Nat) (w : World) (a : Addr) : (w.drewN n).cell? a = w.cell? a := rfl

set_option maxHeartbeats 400000 in
set_option maxRecDepth 100000 in
theorem law_big (kk p q : Int) (a : Option Addr) (len cap : Nat) (w : World) (hl : 1024 < len) :
    Calls Yba.prog 3 #[.int .u8 kk, .slice a len cap, .int .u64 p, .int .u64 q] w fun e w' => e = .returned (.bool true) ∧ Below w.heap.size w w' := by
  have hl' : (1024 : Int) < (len : Int) := by omega
  go_enter Yba.func3, Yba.ntmps3
  go_wp2
  go_ret
  exact ⟨rfl, Below.refl _ _⟩

set_option maxHeartbeats 1000000 in
set_option maxRecDepth 100000 in
theorem law (kk p q : Int) (a : Option Addr) (len cap : Nat) (Z : Nat → Int) (w : World) (h0 : 0 ≤ kk) (h1 : kk ≤ 255) (hp0 : 0 ≤ p) (hp1 : p < 18446744073709551616) (hq0 : 0 ≤ q) (hq1 : q < 18446744073709551616) (hl : len ≤ 1024) (hz : Hid (IsI w a len Z)) :
    Calls Yba.prog 3 #[.int .u8 kk, .slice a len cap, .int .u64 p, .int .u64 q] w fun e w' => e = .returned (.bool true) ∧ Below w.heap.size w w' := by
  have hl' : ¬ (1024 : Int) < (len : Int) := by omega
  go_enter Yba.func3, Yba.ntmps3
  go_upto_if 31 with (first | (go_at_call 6; refine (build_any kk a len cap Z w h0 h1 hl hz).mono ?_; rintro e w' ⟨k, hk, rfl, hB⟩))
  have hb := hB.bel
  have hc0 := hB.keys
  have hc3 := hB.rows
  have hz2 : Hid (IsI w' a len Z) := hz.out.below hb
  have hrow : Hid (∀ i, i < len → w'.cell? ⟨w.heap.size, i, none⟩ = some (.int .i64 (Z i))) := fun i hi => hB.row.cell hi
  replace hb : Hid (Below w.heap.size w w') := hb
  clear hB
  rcases Nat.eq_zero_or_pos k with rfl | hk1
  · obtain ⟨x, hx⟩ : ∃ x : Nat, p % 4 = (x : Int) := ⟨(p % 4).toNat, by omega⟩
    obtain ⟨y, hy⟩ : ∃ x : Nat, q % 4 = (x : Int) := ⟨(q % 4).toNat, by omega⟩
    have hx4 : (x : Int) < 4 := by omega
    have hy4 : (y : Int) < 4 := by omega
    go_wp2_with (first
      | (go_at_call 7; refine (distance_none _ _ _ len x y w' hl (by omega) hc0 hc3).mono ?_; rintro e w2 ⟨rfl, rfl⟩)
      | (go_at_call 8; refine (same_any _ len a cap Z _ hl hrow hz2).mono ?_; rintro e w2 ⟨rfl, n, rfl⟩))
    go_ret
    exact ⟨rfl, below_drewN hb.out _⟩
  · have hkne : ((k : Int) == 0) = false := by simp; omega
    obtain ⟨n, hn, hn1, hn2, hnk⟩ : ∃ n : Nat, (len : Int) / (k : Int) = (n : Int) ∧ 1 ≤ n ∧ n ≤ 1024 ∧ n * k ≤ len := by
      refine ⟨len / k, by simp, (Nat.one_le_div_iff hk1).2 hk, Nat.le_trans (Nat.div_le_self _ _) hl, Nat.div_mul_le_self _ _⟩
    have hn0 : (0 : Int) < (n : Int) := by omega
    have hn2' : (n : Int) ≤ 1024 := by omega
    obtain ⟨x, hx⟩ : ∃ x : Nat, p % (n : Int) = (x : Int) := ⟨(p % n).toNat, by have := Int.emod_nonneg p (b := (n : Int)) (by omega); omega⟩
    obtain ⟨y, hy⟩ : ∃ x : Nat, q % (n : Int) = (x : Int) := ⟨(q % n).toNat, by have := Int.emod_nonneg q (b := (n : Int)) (by omega); omega⟩
    have hxn : (x : Int) < (n : Int) := by rw [← hx]; exact Int.emod_lt_of_pos _ hn0
    have hyn : (y : Int) < (n : Int) := by rw [← hy]; exact Int.emod_lt_of_pos _ hn0
    obtain ⟨A, hA⟩ : ∃ A : Nat, x * k = A := ⟨_, rfl⟩
    obtain ⟨B, hB⟩ : ∃ A : Nat, y * k = A := ⟨_, rfl⟩
    have hAl : A + k ≤ len := by
      have : (x + 1) * k ≤ n * k := Nat.mul_le_mul_right _ (by omega)
      rw [Nat.add_mul] at this
      omega
    have hBl : B + k ≤ len := by
      have : (y + 1) * k ≤ n * k := Nat.mul_le_mul_right _ (by omega)
      rw [Nat.add_mul] at this
      omega
    have eA : (x : Int) * (k : Int) = (A : Int) := by rw [← hA]; simp
    have eB : (y : Int) * (k : Int) = (B : Int) := by rw [← hB]; simp
    have hxk : Hid (x * k = A) := hA
    have hyk : Hid (y * k = B) := hB
    have hnk' : Hid (n * k ≤ len) := hnk
    clear hA hB hnk
    go_upto_region 8 with (fail)
    go_quiet (fail)
    go_wp2
    obtain ⟨b, off, rfl, hblt, hcz0⟩ := hz2.out (by omega)
    have hcz : Hid (∀ i, i < len → w'.cell? ⟨b, off + i, none⟩ = some (.int .i64 (Z i))) := hcz0
    clear hcz0
    go_loopg [18, 17] k (fun gk s18 s17 wr => ∃ i : Nat, i ≤ k ∧ gk = k - i ∧ s18 = .int .i64 i ∧ s17 = .int .i64 ((same Z A B i : Nat) : Int) ∧ ∃ m, wr = w'.drewN m)
    case atStart => exact ⟨0, Nat.zero_le _, rfl, rfl, rfl, _, rfl⟩
    case round =>
      obtain ⟨i, hi, rfl, rfl, rfl, m, hwr⟩ := hrel
      subst hwr
      have hle := same_le Z A B i
      by_cases hik : i < k
      · have hiki : (i : Int) < (k : Int) := by omega
        have hi0 : (0 : Int) ≤ (i : Int) := by omega
        have hAi0 : (0 : Int) ≤ (A : Int) + (i : Int) := by omega
        have hBi0 : (0 : Int) ≤ (B : Int) + (i : Int) := by omega
        have hAi : (A : Int) + (i : Int) < (len : Int) := by omega
        have hBi : (B : Int) + (i : Int) < (len : Int) := by omega
        have e4 : ((B : Int) + (i : Int)).toNat = B + i := by omega
        have e5 : ((A : Int) + (i : Int)).toNat = A + i := by omega
        have cA := hcz.out (A + i) (by omega)
        have cB := hcz.out (B + i) (by omega)
        by_cases hz' : Z (A + i) = Z (B + i)
        · have hz'' : (Z (A + i) == Z (B + i)) = true := by simp [hz']
          go_wp2_with fail
          go_quiet (fail)
          go_wp2
          go_roundg (k - (i + 1))
          case measure => omega
          case rel => exact ⟨i + 1, by omega, rfl, by go_num, by simp only [same, hz', if_true]; go_num, _, rfl⟩
        · have hz'' : (Z (A + i) == Z (B + i)) = false := by simp [hz']
          go_wp2_with fail
          go_quiet (fail)
          go_wp2
          go_roundg (k - (i + 1))
          case measure => omega
          case rel => exact ⟨i + 1, by omega, rfl, by go_num, by simp only [same, hz', if_false]; rfl, _, rfl⟩
      · obtain rfl : i = k := by omega
        have hiki : ¬ (i : Int) < (i : Int) := by omega
        have hsub : (i : Int) - ((same Z A B i : Nat) : Int) = ((i - same Z A B i : Nat) : Int) := by omega
        go_wp2_with (first
          | (go_at_call 7; refine (distance_any _ _ _ len i x y A B Z (w'.drewN m) hl hk1 hxk.out hyk.out hAl hBl hc0 hc3 hrow).mono ?_; rintro e w2 ⟨rfl, hw2⟩; subst hw2)
          | (go_at_call 8; refine (same_any _ len _ cap Z (w'.drewN m) hl hrow hz2).mono ?_; rintro e w2 ⟨rfl, n, rfl⟩))
        go_ret
        exact ⟨rfl, below_drewN hb.out _⟩
end Go.Proofs.Ybulkdgou.Model
