import Derived.Test.YbulkdgouSortG
namespace Go.Proofs.Ybulkdgou
open Go.RowKit
attribute [local go_sem ↓] Go.wp_at_zero Go.wp_at_succ
namespace SortA
/-- Ascending within each block of z cells, of those cells that lie in [lo, hi). -/
def BA (key d : Nat → Nat) (z lo hi : Nat) : Prop := ∀ q i j, q * z ≤ i → i ≤ j → j < q * z + z → lo ≤ i → j < hi → key (d i) ≤ key (d j)
theorem BA.asc {key d : Nat → Nat} {z lo hi : Nat} (h : BA key d z lo hi) (q a b : Nat) (h1 : q * z ≤ a) (h2 : b ≤ q * z + z) (h3 : lo ≤ a) (h4 : b ≤ hi) : Asc key d a b := fun i j p1 p2 p3 => h q i j (by omega) p2 (by omega) (by omega) (by omega)
theorem BA.all {key d : Nat → Nat} {z L : Nat} (h : BA key d z 0 L) (hz : L ≤ z) : Asc key d 0 L := h.asc 0 0 L (by omega) (by omega) (by omega) (Nat.le_refl _)
theorem BA.nil (key d : Nat → Nat) (z : Nat) : BA key d z 0 0 := fun q i j p1 p2 p3 p4 p5 => by omega
/-- One block more. -/
theorem BA.add {key d e : Nat → Nat} {z Q b : Nat} (h : BA key d z 0 (Q * z)) (M : Merged key d e (Q * z) b) (A : Asc key e (Q * z) b) : BA key e z 0 b := by
  intro q i j p1 p2 p3 p4 p5
  by_cases hj : j < Q * z
  · rw [M.out i (by omega), M.out j (by omega)]; exact h q i j p1 p2 p3 (by omega) hj
  · have hq : Q ≤ q := by
      apply Decidable.byContradiction
      intro hc
      have : (q + 1) * z ≤ Q * z := Nat.mul_le_mul_right z (by omega)
      rw [Nat.succ_mul] at this
      omega
    have : Q * z ≤ q * z := Nat.mul_le_mul_right z hq
    exact A i j (by omega) p2 p5
theorem BA.rest {key d e : Nat → Nat} {z lo a b hi : Nat} (h : BA key d z lo hi) (M : Merged key d e a b) (h1 : lo ≤ b) : BA key e z b hi := by
  intro q i j p1 p2 p3 p4 p5
  rw [M.out i (by omega), M.out j (by omega)]; exact h q i j p1 p2 p3 (by omega) p5
theorem BA.lift {key d : Nat → Nat} {z lo lo' hi : Nat} (h : BA key d z lo hi) (hl : lo ≤ lo') : BA key d z lo' hi := fun q i j p1 p2 p3 p4 p5 => h q i j p1 p2 p3 (by omega) p5
theorem two_mul' (q z : Nat) : q * (2 * z) = 2 * q * z := by rw [Nat.mul_comm 2 z, ← Nat.mul_assoc, Nat.mul_comm (q * z) 2, ← Nat.mul_assoc]
theorem two_mul1 (q z : Nat) : (2 * q + 1) * z = q * (2 * z) + z := by rw [Nat.succ_mul, two_mul']

/-- What the sort holds between its calls. -/
structure St (B L n : Nat) (key d : Nat → Nat) (c : Value) (w wr : World) (e : Nat → Nat) : Prop where
  but : But B w wr
  row : Row B L e wr
  mer : Merged key d e 0 L
  cmp : CmpOK B n key c wr
  bnd : ∀ i, i < L → e i < n
theorem St.next {B L n a b : Nat} {key d e f : Nat → Nat} {c : Value} {w wr w' : World} (h : St B L n key d c w wr e) (hab : a ≤ b) (hb : b ≤ L) (hbut : But B wr w') (hrow : Row B L f w') (hm : Merged key e f a b) : St B L n key d c w w' f :=
  ⟨h.but.trans hbut, hrow, h.mer.trans (hm.wider (Nat.zero_le _) hab hb), h.cmp.but hbut, hm.bound hb h.bnd⟩

set_option maxHeartbeats 2000000 in
set_option maxRecDepth 100000 in
theorem stable_any (B L cap n : Nat) (key d : Nat → Nat) (c : Value) (w : World) (hL : L ≤ 1024) (R : Hid (Row B L d w)) (hd : Hid (∀ i, i < L → d i < n)) (C : Hid (CmpOK B n key c w)) :
    Calls Yba.prog 18 #[.slice (some ⟨B, 0, none⟩) L cap, .int .i64 (L : Int), .func (.func 13) #[] #[c]] w fun e w' => e = .returned (.tuple #[]) ∧ But B w w' ∧ ∃ d', Row B L d' w' ∧ Merged key d d' 0 L ∧ Asc key d' 0 L := by
  go_enter Yba.func18, Yba.ntmps18
  go_upto_block 0 with (fail)
  go_cut [7, 8] (fun s7 _ wc => ∃ (q : Nat) (e : Nat → Nat), s7 = .int .i64 ((q * 20 : Nat) : Int) ∧ q * 20 ≤ L ∧ L < q * 20 + 20 ∧ St B L n key d c w wc e ∧ BA key e 20 0 (q * 20))
  case first =>
    go_wp2_with fail
    go_loopg [7, 8] L (fun gk s7 s8 wr => ∃ (q a : Nat) (e : Nat → Nat), a = q * 20 ∧ a ≤ L ∧ gk = L - a ∧ s7 = .int .i64 (a : Int) ∧ s8 = .int .i64 ((a : Int) + 20) ∧ St B L n key d c w wr e ∧ BA key e 20 0 a)
    case atStart => exact ⟨0, 0, d, rfl, Nat.zero_le _, rfl, rfl, rfl, ⟨But.refl _ _, R.out, Merged.refl _ _ _ _, C.out, hd.out⟩, BA.nil _ _ _⟩
    case round =>
      obtain ⟨q, a, e, ha, haL, rfl, rfl, rfl, hst, hba⟩ := hrel
      have HS : Hid (a = q * 20 ∧ St B L n key d c w wr e ∧ BA key e 20 0 a) := ⟨ha, hst, hba⟩
      clear ha hst hba
      by_cases hlt : a + 20 ≤ L
      · have hlti : (a : Int) + 20 ≤ (L : Int) := by omega
        have HR : Hid (Row B L e wr) := HS.out.2.1.row
        have HD : Hid (∀ i, i < L → e i < n) := HS.out.2.1.bnd
        have HC : Hid (CmpOK B n key c wr) := HS.out.2.1.cmp
        go_wp2_with (first | (
          go_at_call 24
          refine (insertion_any B L cap a (a + 20) n key e c wr hL (by omega) hlt HR HD HC).mono ?_
          rintro e' w' ⟨rfl, hb1, f, hrow, hmer, hasc⟩))
        go_roundg (L - (a + 20))
        case measure => omega
        case rel =>
          have e0 := HS.out.1
          have hba := HS.out.2.2
          rw [e0] at hba
          refine ⟨q + 1, a + 20, f, by omega, hlt, rfl, by go_num, by go_num, HS.out.2.1.next (by omega) hlt hb1 hrow hmer, ?_⟩
          exact BA.add hba (by rw [← e0]; exact hmer) (by rw [← e0]; exact hasc)
      · have hlti : ¬ (a : Int) + 20 ≤ (L : Int) := by omega
        go_wp2_with fail
        go_meet
        case rel =>
          have e0 := HS.out.1
          subst e0
          exact ⟨q, e, rfl, by omega, by omega, HS.out.2.1, HS.out.2.2⟩
  case rest =>
    obtain ⟨q, e, rfl, hq1, hq2, hst, hba⟩ := hcut
    obtain ⟨V, hV⟩ : ∃ V, V = wc := ⟨_, rfl⟩
    subst hV
    obtain ⟨a, ha⟩ : ∃ a, a = q * 20 := ⟨_, rfl⟩
    rw [← ha] at hq1 hq2 hba ⊢
    have HS : Hid (a = q * 20 ∧ St B L n key d c w V e ∧ BA key e 20 0 a) := ⟨ha, hst, hba⟩
    clear hst hba ha
    have HR : Hid (Row B L e V) := HS.out.2.1.row
    have HD : Hid (∀ i, i < L → e i < n) := HS.out.2.1.bnd
    have HC : Hid (CmpOK B n key c V) := HS.out.2.1.cmp
    go_upto_region 6 with (fail)
    go_cut [] (fun wc => ∃ f, St B L n key d c w wc f ∧ BA key f 20 0 L)
    case first =>
      go_wp2_with (first | (
        go_at_call 24
        refine (insertion_any B L cap a L n key e c V hL hq1 (Nat.le_refl _) HR HD HC).mono ?_
        rintro e' w' ⟨rfl, hb1, f, hrow, hmer, hasc⟩))
      go_meet
      case rel =>
        have e0 := HS.out.1
        have hba := HS.out.2.2
        rw [e0] at hba
        exact ⟨f, HS.out.2.1.next hq1 (Nat.le_refl _) hb1 hrow hmer, BA.add hba (by rw [← e0]; exact hmer) (by rw [← e0]; exact hasc)⟩
    case rest =>
      obtain ⟨f, hst, hba⟩ := hcut
      obtain ⟨V, hV⟩ : ∃ V, V = wc := ⟨_, rfl⟩
      subst hV
      have HT : Hid (St B L n key d c w V f ∧ BA key f 20 0 L) := ⟨hst, hba⟩
      clear hst hba HS HR HD HC
      go_wp2_with fail
      go_loopg [6] (L - 20) (fun gk s6 wr => ∃ (z : Nat) (f : Nat → Nat), 20 ≤ z ∧ z ≤ 2048 ∧ gk = L - z ∧ s6 = .int .i64 (z : Int) ∧ St B L n key d c w wr f ∧ BA key f z 0 L)
      case atStart => exact ⟨20, f, Nat.le_refl _, by omega, rfl, rfl, HT.out.1, HT.out.2⟩
      case round =>
        obtain ⟨z, f, hz1, hz2, rfl, rfl, hst, hba⟩ := hrel
        obtain ⟨W1, hW1⟩ : ∃ W1 : World, W1 = wr := ⟨_, rfl⟩
        subst hW1
        have HU : Hid (St B L n key d c w W1 f ∧ BA key f z 0 L) := ⟨hst, hba⟩
        clear hst hba
        by_cases hlt : z < L
        · have hlti : (z : Int) < (L : Int) := by omega
          obtain ⟨z2, hzz, hzz', HZ⟩ : ∃ z2 : Nat, (2 : Int) * (z : Int) = (z2 : Int) ∧ (z : Int) * 2 = (z2 : Int) ∧ Hid (z2 = 2 * z) := ⟨2 * z, by omega, by omega, rfl⟩
          have hz3 : z < z2 ∧ z2 ≤ 2048 := by have := HZ.out; omega
          have hz4 := hz3.1
          have hz5 := hz3.2
          have hz6 : z2 ≤ z + z := by have := HZ.out; omega
          clear hz3
          have HB2 : Hid (∀ q z', z' = 2 * z → q * z' = 2 * q * z ∧ (2 * q + 1) * z = q * z' + z) := fun q z' e => by subst e; exact ⟨two_mul' q z, two_mul1 q z⟩
          go_upto_block 4 with (fail)
          go_cut [7, 8] from 33 to 48 (fun s7 _ wc => ∃ (q a : Nat) (g : Nat → Nat), a = q * z2 ∧ s7 = .int .i64 (a : Int) ∧ a ≤ L ∧ L < a + z2 ∧ St B L n key d c w wc g ∧ BA key g z2 0 a ∧ BA key g z a L)
          case first =>
            go_wp2_with fail
            go_loopg [7, 8] L (fun gk s7 s8 wr => ∃ (q a : Nat) (g : Nat → Nat), a = q * z2 ∧ a ≤ L ∧ gk = L - a ∧ s7 = .int .i64 (a : Int) ∧ s8 = .int .i64 ((a : Int) + (z2 : Int)) ∧ St B L n key d c w wr g ∧ BA key g z2 0 a ∧ BA key g z a L)
            case atStart => exact ⟨0, 0, f, by simp, Nat.zero_le _, rfl, rfl, by go_num, HU.out.1, BA.nil _ _ _, HU.out.2⟩
            case round =>
              obtain ⟨q, a, g, ha, haL, rfl, rfl, rfl, hst, hb1, hb2⟩ := hrel
              have HS : Hid (a = q * z2 ∧ St B L n key d c w wr g ∧ BA key g z2 0 a ∧ BA key g z a L) := ⟨ha, hst, hb1, hb2⟩
              clear ha hst hb1 hb2
              by_cases hlt2 : a + z2 ≤ L
              · have hlt2i : (a : Int) + (z2 : Int) ≤ (L : Int) := by omega
                obtain ⟨az, haz, HAZ⟩ : ∃ az : Nat, (a : Int) + (z : Int) = (az : Int) ∧ Hid (az = a + z) := ⟨a + z, by omega, rfl⟩
                have e2 := HB2.out q z2 HZ.out
                have e3 := HS.out.1
                have e4 := HAZ.out
                have A1 : Hid (Asc key g a az) := HS.out.2.2.2.asc (2 * q) a az (by omega) (by omega) (Nat.le_refl _) (by omega)
                have A2 : Hid (Asc key g az (a + z2)) := HS.out.2.2.2.asc (2 * q + 1) az (a + z2) (by omega) (by omega) (by omega) hlt2
                have HSM := symMerge_any B L cap n key c hL L a az (a + z2) g wr (by omega) (by omega) (by omega) hlt2 HS.out.2.1.row HS.out.2.1.bnd HS.out.2.1.cmp A1.out A2.out
                rw [show ((a + z2 : Nat) : Int) = (a : Int) + (z2 : Int) by omega] at HSM
                have HSM' : Hid (Calls Yba.prog 25 #[.slice (some ⟨B, 0, none⟩) L cap, .int .i64 (a : Int), .int .i64 (az : Int), .int .i64 ((a : Int) + (z2 : Int)), .func (.func 13) #[] #[c]] wr fun e w' => e = .returned (.tuple #[]) ∧ But B wr w' ∧ ∃ d', Row B L d' w' ∧ Merged key g d' a (a + z2) ∧ Asc key d' a (a + z2)) := HSM
                clear HSM e2 e3 e4
                go_wp2_with (first | (
                  go_at_call 25
                  refine HSM'.out.mono ?_
                  rintro e' w' ⟨rfl, hbt, g2, hrow, hmer, hasc⟩))
                go_roundg (L - (a + z2))
                case measure => omega
                case rel =>
                  have e0 := HS.out.1
                  have hba := HS.out.2.2.1
                  rw [e0] at hba
                  refine ⟨q + 1, a + z2, g2, by rw [Nat.succ_mul, ← e0], hlt2, rfl, by go_num, by go_num, HS.out.2.1.next (by omega) hlt2 hbt hrow hmer, ?_, HS.out.2.2.2.rest hmer (by omega)⟩
                  exact BA.add hba (by rw [← e0]; exact hmer) (by rw [← e0]; exact hasc)
              · have hlt2i : ¬ (a : Int) + (z2 : Int) ≤ (L : Int) := by omega
                go_wp2_with fail
                go_meet
                case rel => exact ⟨q, a, g, HS.out.1, rfl, haL, by omega, HS.out.2.1, HS.out.2.2.1, HS.out.2.2.2⟩
          case rest =>
            obtain ⟨q, a, g, ha, rfl, haL, haL2, hst, hb1, hb2⟩ := hcut
            obtain ⟨W2, hW2⟩ : ∃ W2, W2 = wc := ⟨_, rfl⟩
            subst hW2
            have HS : Hid (a = q * z2 ∧ St B L n key d c w W2 g ∧ BA key g z2 0 a ∧ BA key g z a L) := ⟨ha, hst, hb1, hb2⟩
            clear ha hst hb1 hb2
            obtain ⟨az, haz, HAZ⟩ : ∃ az : Nat, (a : Int) + (z : Int) = (az : Int) ∧ Hid (az = a + z) := ⟨a + z, by omega, rfl⟩
            have haz2 : a < az ∧ az < a + z2 := by have := HAZ.out; omega
            by_cases hm : az < L
            · have hmi : (az : Int) < (L : Int) := by omega
              have e2 := HB2.out q z2 HZ.out
              have e3 := HS.out.1
              have e4 := HAZ.out
              have A1 : Hid (Asc key g a az) := HS.out.2.2.2.asc (2 * q) a az (by omega) (by omega) (Nat.le_refl _) (by omega)
              have A2 : Hid (Asc key g az L) := HS.out.2.2.2.asc (2 * q + 1) az L (by omega) (by omega) (by omega) (Nat.le_refl _)
              clear e2 e3 e4
              go_wp2_with (first | (
                go_at_call 25
                refine (symMerge_any B L cap n key c hL L a az L g W2 (by omega) (by omega) hm (Nat.le_refl _) HS.out.2.1.row HS.out.2.1.bnd HS.out.2.1.cmp A1.out A2.out).mono ?_
                rintro e' w' ⟨rfl, hbt, g2, hrow, hmer, hasc⟩))
              go_roundg (L - z2)
              case measure => omega
              case rel =>
                have e0 := HS.out.1
                have hba := HS.out.2.2.1
                rw [e0] at hba
                exact ⟨z2, g2, by omega, by omega, rfl, by go_num, HS.out.2.1.next (by omega) (Nat.le_refl _) hbt hrow hmer, BA.add hba (by rw [← e0]; exact hmer) (by rw [← e0]; exact hasc)⟩
            · have hmi : ¬ (az : Int) < (L : Int) := by omega
              go_wp2_with fail
              go_roundg (L - z2)
              case measure => omega
              case rel =>
                have e0 := HS.out.1
                have e2 := HB2.out q z2 HZ.out
                have e4 := HAZ.out
                have hba := HS.out.2.2.1
                have hA : Asc key g a L := HS.out.2.2.2.asc (2 * q) a L (by omega) (by omega) (Nat.le_refl _) (Nat.le_refl _)
                rw [e0] at hba hA
                exact ⟨z2, g, by omega, by omega, rfl, by go_num, HS.out.2.1, BA.add hba (Merged.refl _ _ _ _) hA⟩
        · have hlti : ¬ (z : Int) < (L : Int) := by omega
          go_wp2
          go_end0
          exact ⟨rfl, HU.out.1.but, f, HU.out.1.row, HU.out.1.mer, HU.out.2.all (by omega)⟩

set_option maxHeartbeats 1000000 in
theorem sortStable_any (B L cap n : Nat) (key d : Nat → Nat) (c : Value) (w : World) (hL : L ≤ 1024) (R : Hid (Row B L d w)) (hd : Hid (∀ i, i < L → d i < n)) (C : Hid (CmpOK B n key c w)) :
    Calls Yba.prog 12 #[.slice (some ⟨B, 0, none⟩) L cap, .func (.func 13) #[] #[c]] w fun e w' => e = .returned (.tuple #[]) ∧ But B w w' ∧ ∃ d', Row B L d' w' ∧ Merged key d d' 0 L ∧ Asc key d' 0 L := by
  go_enter Yba.func12, Yba.ntmps12
  go_wp2_with (first | (go_at_call 18; refine (stable_any B L cap n key d c w hL R hd C).mono ?_; rintro e w' ⟨rfl, h⟩))
  go_end0
  exact ⟨rfl, h⟩
end SortA
end Go.Proofs.Ybulkdgou
