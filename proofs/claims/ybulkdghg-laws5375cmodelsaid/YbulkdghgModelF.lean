import Derived.Test.YbulkdghgModelE
namespace Go.Proofs.Ybulkdghg.Model
open Go.RowKit
attribute [local go_sem ↓] Go.wp_at_zero Go.wp_at_succ
attribute [local go_sem] run_store_float

theorem shl_facts (d lv D : Nat) (hd : d ≤ 8) (hlv : lv ≤ 40) (hD : 2 ^ d = D) : wrap64 ((lv : Int) * 2 ^ d) = ((lv * D : Nat) : Int) := by
  have e : ((lv : Int) * 2 ^ d) = ((lv * D : Nat) : Int) := by rw [← hD]; simp
  have h1 : 2 ^ d ≤ 2 ^ 8 := Nat.pow_le_pow_right (by omega) hd
  have h2 : lv * D ≤ 40 * 256 := Nat.mul_le_mul hlv (by omega)
  rw [e]
  simp only [wrap64]
  omega

def Kf (D l : Nat) : Nat := if l = 0 then 0 else 1 + (l - 1) * D
def cnt (D l : Nat) : Nat := if l = 0 then 1 else D
theorem Kf_succ (D l : Nat) : Kf D (l + 1) = Kf D l + cnt D l := by
  unfold Kf cnt
  rw [if_neg (by omega)]
  by_cases h : l = 0
  · subst h; simp
  · rw [if_neg h, if_neg h]
    obtain ⟨q, rfl⟩ : ∃ q, l = q + 1 := ⟨l - 1, by omega⟩
    simp [Nat.add_mul]; omega
theorem Kf_lt (D l lv j : Nat) (hl : l ≤ lv) (hj : j < cnt D l) : Kf D l + j < 1 + lv * D := by
  unfold Kf; unfold cnt at hj
  by_cases h : l = 0
  · rw [if_pos h] at hj ⊢; omega
  · rw [if_neg h] at hj ⊢
    have : l * D ≤ lv * D := Nat.mul_le_mul_right _ hl
    obtain ⟨q, rfl⟩ : ∃ q, l = q + 1 := ⟨l - 1, by omega⟩
    simp [Nat.add_mul] at this ⊢
    omega
theorem Kf_at (d D l j : Nat) (hD : 2 ^ d = D) (hj : j < cnt D l) : lev d (Kf D l + j) = l ∧ sgn d (Kf D l + j) = j := by
  unfold Kf; unfold cnt at hj
  by_cases h : l = 0
  · rw [if_pos h] at hj ⊢
    obtain rfl : j = 0 := by omega
    simp [lev, sgn, h]
  · rw [if_neg h] at hj ⊢
    rw [← hD]
    exact lev_at d l j (by omega) (by omega)

set_option maxHeartbeats 1000000 in
set_option maxRecDepth 100000 in
theorem law_main (a : Option Addr) (d cap lv : Nat) (X : Nat → Nat) (w : World) (hd : d ≤ 8) (hlv : lv ≤ 40) (hx : Hid (IsF w a d X)) :
    Calls Yba.prog 4 #[.slice a d cap, .int .i64 (lv : Int)] w fun e w' => e = .returned (.bool true) ∧ Below w.heap.size w w' := by
  have hn : ¬ (lv : Int) < 0 := by omega
  have h8' : ¬ (8 : Int) < (d : Int) := by omega
  have h40 : ¬ (40 : Int) < (lv : Int) := by omega
  obtain ⟨D, hD, hD1, hDw⟩ : ∃ D : Nat, 2 ^ d = D ∧ D ≤ 256 ∧ wrap64 ((2 : Int) ^ d) = (D : Int) := pow_facts d hd
  obtain ⟨M, hM, hM1, hsh⟩ : ∃ M : Nat, M = lv * D ∧ (M : Int) ≤ 20000 ∧ wrap64 ((lv : Int) * 2 ^ d) = (M : Int) :=
    ⟨_, rfl, by have h2 : lv * D ≤ 40 * 256 := Nat.mul_le_mul hlv (by omega)
                omega, shl_facts d lv D hd hlv hD⟩
  have HM : Hid (M = lv * D) := hM
  clear hM
  have hD0 : 0 < D := by rw [← hD]; exact Nat.pow_pos (by omega)
  have HD : Hid (2 ^ d = D) := hD
  clear hD
  have hmk := run_make_row' (P := Yba.prog) 40 38 (.float .f64 0) 8 Yba.underlying40 info38 rfl .i64 .i64 d (by omega) (by omega)
  go_enter Yba.func4, Yba.ntmps4
  go_wp2_with (first | (refine wpList_copyF rfl rfl _ d cap a X rfl rfl (World.rowIs_made w (.float .f64 0) d 38) (by
      intro h0; obtain ⟨b, off, e, hb, hc⟩ := hx.out h0
      exact ⟨b, off, e, by simp; omega, fun m hm => by rw [World.cell?_alloc_lt _ _ _ hb]; exact hc m hm⟩) ?_; intro w1 hb1 hs1 hr1))
  have hib : w.heap.size < w1.heap.size := by rw [hs1]; simp
  refine (contact_any w.heap.size d lv X hd hlv w1 hib (fun m hm => hr1.cell hm)).mono ?_
  rintro e w2 ⟨v, rfl, hp⟩
  obtain ⟨hbel, hN, pb, hown, hpb⟩ := hp
  obtain ⟨g, vc, rfl, hg1, hg2⟩ := hown.form (by omega)
  have hbw : Below w.heap.size w w2 := ((((Below.refl _ _).alloc (Nat.le_refl _) _).trans hb1).trans (hbel.mono (by omega)))
  have hib2 : w2.rowIs w.heap.size 38 d (fun m => .float .f64 (X m)) := hr1.of_block (hbel.block _ hib)
  have HP : Hid (Below w.heap.size w w2 ∧ w2.rowIs w.heap.size 38 d (fun m => .float .f64 (X m)) ∧ w2.ownsRow w1.heap.size 40 1 (.slice (some ⟨g, 0, none⟩) (1 + lv * 2 ^ d) vc) (1 + lv * 2 ^ d) ((List.range (1 + lv * 2 ^ d)).map fun i => pv d (pb i)) ∧ ∀ i, i < 1 + lv * 2 ^ d → PtOk d X w2 i (pb i)) :=
    ⟨hbw, hib2, hown, fun i hi => (hpb i hi).2.2⟩
  clear hbel hN hown hpb hbw hib2 hb1 hs1 hr1 hib hg1 hmk
  rw [HD.out] at HP ⊢
  obtain ⟨n, hn1⟩ : ∃ n, n = 1 + lv * D := ⟨_, rfl⟩
  have hnD : ((n : Int) != 1 + (M : Int)) = false := by
    rw [hn1, HM.out]; simp
  have hnb : (n : Int) ≤ 20001 := by
    have := HM.out
    omega
  rw [← hn1] at HP ⊢
  have HN : Hid (n = 1 + lv * D) := hn1
  clear hn1
  go_wp2_with fail
  clear hsh hnD
  go_loopg [49] d (fun n i wr => ∃ k : Nat, k ≤ d ∧ n = d - k ∧ i = .int .i64 k ∧ Below w2.heap.size w2 wr)
  case atStart => exact ⟨0, Nat.zero_le _, rfl, rfl, Below.refl _ _⟩
  case round =>
    obtain ⟨k, hk, rfl, rfl, hb⟩ := hrel
    obtain ⟨q1, q2, q3, q4⟩ := HP.out
    by_cases hlt : k < d
    · have hlti : (k : Int) < (d : Int) := by omega
      have hk0 : (0 : Int) ≤ (k : Int) := by omega
      obtain ⟨ab, ao, rfl, hab, hac⟩ := hx.out (by omega)
      have c1 : wr.cell? ⟨ab, ao + k, none⟩ = some (.float .f64 (X k)) := by
        have := q1.size
        rw [hb.cell (by simp; omega), q1.cell hab]; exact hac k hlt
      have c2 : wr.cell? ⟨w.heap.size, k, none⟩ = some (.float .f64 (X k)) := by rw [hb.cell q2.lt]; exact q2.cell hlt
      have HB : Hid (Below w2.heap.size w2 wr) := hb
      clear q1 q2 q3 q4 hb hac
      go_wp2_with fail
      go_quiet ((go_at_call 8; exact Calls.quiet_of_same (ceq_any _ _ _ (SF.refl _))))
      go_wp2
      go_roundg (d - (k + 1))
      case measure => omega
      case rel => exact ⟨k + 1, by omega, rfl, by go_num, below_drewN HB.out _⟩
    · obtain rfl : k = d := by omega
      have hlti : ¬ (k : Int) < (k : Int) := by omega
      have HB : Hid (Below w2.heap.size w2 wr) := hb
      clear q1 q2 q3 q4 hb
      obtain ⟨W3, hW3⟩ : ∃ W3 : World, W3 = wr := ⟨_, rfl⟩
      subst hW3
      go_wp2
      go_loopg [10, 8, 9] (lv + 1) (fun n s10 s8 s9 wr => ∃ l : Nat, l ≤ lv + 1 ∧ n = lv + 1 - l ∧ s10 = .int .i64 l ∧ s8 = .int .i64 (Kf D l) ∧ s9 = .float .f64 (stepBits l) ∧ Below w2.heap.size w2 wr)
      case atStart => exact ⟨0, Nat.zero_le _, rfl, rfl, rfl, rfl, HB.out⟩
      case round =>
        obtain ⟨l, hl, rfl, rfl, rfl, rfl, hb⟩ := hrel
        obtain ⟨W4, hW4⟩ : ∃ W4 : World, W4 = wr := ⟨_, rfl⟩
        subst hW4
        by_cases hll : l ≤ lv
        · have hlli : (l : Int) ≤ (lv : Int) := by omega
          have HB4 : Hid (Below w2.heap.size w2 W4) := hb
          clear hb HB
          have hkb : (Kf D l : Int) ≤ 20000 := by
            have := Kf_lt D l lv 0 hll (by unfold cnt; split <;> omega)
            have := HN.out
            omega
          go_upto_if 72 with (fail)
          go_cut [11] (fun s11 wc => s11 = .int .i64 (cnt D l) ∧ wc = W4)
          case first =>
            by_cases h0 : l = 0
            · have h0' : ((l : Int) == 0) = true := by simp [h0]
              go_wp2
              go_meet
              case rel => exact ⟨by simp [cnt, h0], rfl⟩
            · have h0' : ((l : Int) == 0) = false := by simpa using h0
              rw [hDw]
              go_wp2
              go_meet
              case rel => exact ⟨by simp [cnt, h0], rfl⟩
          case rest =>
            obtain ⟨rfl, rfl⟩ := hcut
            have hcb : (cnt D l : Int) ≤ 256 := by unfold cnt; split <;> omega
            clear hDw
            go_wp2
            go_loopg [12, 8] (cnt D l) (fun n s12 s8 wr => ∃ j : Nat, j ≤ cnt D l ∧ n = cnt D l - j ∧ s12 = .int .i64 j ∧ s8 = .int .i64 ((Kf D l + j : Nat) : Int) ∧ Below w2.heap.size w2 wr)
            case atStart => exact ⟨0, Nat.zero_le _, rfl, rfl, rfl, HB4.out⟩
            case round =>
              obtain ⟨j, hj, rfl, rfl, rfl, hb⟩ := hrel
              obtain ⟨W5, hW5⟩ : ∃ W5 : World, W5 = wr := ⟨_, rfl⟩
              subst hW5
              by_cases hjl : j < cnt D l
              · have hjli : (j : Int) < (cnt D l : Int) := by omega
                have hKn : Kf D l + j < n := by rw [HN.out]; exact Kf_lt D l lv j hll hjl
                obtain ⟨Kj, hKj⟩ : ∃ Kj, Kj = Kf D l + j := ⟨_, rfl⟩
                rw [← hKj] at hKn ⊢
                have hKni : (Kj : Int) < (n : Int) := by omega
                obtain ⟨q1, q2, q3, q4⟩ := HP.out
                have hcell : W5.cell? ⟨g, Kj, none⟩ = some (.slice (some ⟨pb Kj, 0, none⟩) k k) := by
                  rw [hb.cell hg2]
                  have := q3.cells (g := g) rfl Kj (pv k (pb Kj)) (by rw [List.getElem?_map, List.getElem?_range (by exact hKn)]; rfl)
                  rw [Addr.add_lit, Nat.zero_add] at this
                  exact this
                obtain ⟨R, hR, hpt⟩ := q4 Kj hKn
                obtain ⟨e1, e2⟩ := Kf_at k D l j HD.out hjl
                rw [← hKj] at e1 e2
                rw [e1, e2] at hpt
                have HR : Hid (Below w2.heap.size w2 W5 ∧ w2.rowIs (pb Kj) 38 k (fun m => .float .f64 (R m)) ∧ (∀ m, m < k → Pt (X m) (offv l (bitB j m)) (R m)) ∧ Kj = Kf D l + j) := ⟨hb, hR, hpt, hKj⟩
                clear q1 q2 q3 q4 hb hR hpt e1 e2 hKj HB4
                go_wp2
                go_loopg [91] k (fun n s91 wr => ∃ i : Nat, i ≤ k ∧ n = k - i ∧ s91 = .int .i64 i ∧ Below w2.heap.size w2 wr)
                case atStart => exact ⟨0, Nat.zero_le _, rfl, rfl, HR.out.1⟩
                case round =>
                  obtain ⟨i, hi, rfl, rfl, hb⟩ := hrel
                  obtain ⟨W6, hW6⟩ : ∃ W6 : World, W6 = wr := ⟨_, rfl⟩
                  subst hW6
                  by_cases hil : i < k
                  · have hili : (i : Int) < (k : Int) := by omega
                    obtain ⟨ab, ao, rfl, hab, hac⟩ := hx.out (by omega)
                    have HB6 : Hid (Below w2.heap.size w2 W6) := hb
                    have hneg : Op.unary .neg (.float .f64 (stepBits l)) = pure (.float .f64 (Op.negFloat .f64 (stepBits l))) := rfl
                    clear hb hac
                    go_upto_if 99 with (fail)
                    go_cut [15] (fun s15 wc => s15 = .float .f64 (offv l (bitB j i)) ∧ wc = W6)
                    case first =>
                      cases hbt : bitB j i with
                      | true =>
                        have hb' : (bits BinOp.and IntKind.i64 ((j : Int) / 2 ^ i) 1 == 1) = true := hbt
                        go_wp2
                        go_meet
                        case rel => exact ⟨by simp only [hbt, offv, if_true], rfl⟩
                      | false =>
                        have hb' : (bits BinOp.and IntKind.i64 ((j : Int) / 2 ^ i) 1 == 1) = false := hbt
                        go_wp2
                        go_meet
                        case rel => exact ⟨by simp only [hbt, offv, if_false, Bool.false_eq_true], rfl⟩
                    case rest =>
                      obtain ⟨rfl, rfl⟩ := hcut
                      obtain ⟨W6, hW6⟩ : ∃ W6 : World, W6 = wc := ⟨_, rfl⟩
                      subst hW6
                      have hnum := off_num l (by omega) (bitB j i)
                      obtain ⟨off, ho⟩ : ∃ off, off = offv l (bitB j i) := ⟨_, rfl⟩
                      rw [← ho] at hnum ⊢
                      have HO : Hid (off = offv l (bitB j i)) := ho
                      clear ho hneg
                      have hcx : W6.cell? ⟨ab, ao + i, none⟩ = some (.float .f64 (X i)) := by
                        obtain ⟨ab', ao', e', hab', hac'⟩ := hx.out (by omega)
                        simp only [Option.some.injEq, Addr.mk.injEq, and_true] at e'
                        obtain ⟨rfl, rfl⟩ := e'
                        have := HP.out.1.size
                        rw [HB6.out.cell (by simp; omega), HP.out.1.cell hab]; exact hac' i hil
                      have hcp : W6.cell? ⟨pb Kj, i, none⟩ = some (.float .f64 (R i)) := by
                        rw [HB6.out.cell HR.out.2.1.lt]; exact HR.out.2.1.cell hil
                      go_upto_region 37 with (fail)
                      go_cut [16] (fun s16 wc => ∃ y0 : Nat, s16 = .float .f64 y0 ∧ Pt (X i) off (wrapv y0) ∧ Below W6.heap.size W6 wc)
                      case first =>
                        cases hxn : isN (X i) with
                        | true =>
                          have hadd := run_add_nan (y := off) hxn
                          go_wp2
                          go_meet
                          case rel => exact ⟨_, rfl, pt_nan hxn (nanv_nan _ _ _), (Below.refl _ _).drew⟩
                        | false =>
                          obtain ⟨r, hr⟩ := add_num_some (X i) off hxn hnum
                          have hadd := run_add_num hr
                          go_wp2
                          go_meet
                          case rel => exact ⟨_, rfl, pt_num hxn hr, Below.refl _ _⟩
                      case rest =>
                        obtain ⟨y0, rfl, hpt0, hb7⟩ := hcut
                        obtain ⟨W7, hW7⟩ : ∃ W7 : World, W7 = wc := ⟨_, rfl⟩
                        subst hW7
                        have hcp7 : W7.cell? ⟨pb Kj, i, none⟩ = some (.float .f64 (R i)) := by
                          rw [hb7.cell (Nat.lt_of_lt_of_le HR.out.2.1.lt HB6.out.size)]; exact hcp
                        have hsf : SF (R i) (wrapv y0) := Pt.same (HR.out.2.2.1 i hil) (by rw [← HO.out]; exact hpt0)
                        have HB7 : Hid (Below w2.heap.size w2 W7) := HB6.out.trans (hb7.mono HB6.out.size)
                        clear hpt0 hb7 hcp hcx hnum HB6
                        have hf : FloatKind.f64.format = Ieee.double := rfl
                        unfold wrapv at hsf
                        go_upto_if 109 with (fail)
                        go_cut [16] (fun s16 wc => s16 = .float .f64 (up1 y0) ∧ wc = W7)
                        case first =>
                          cases h1 : (Ieee.double.order y0 0 == some .lt) with
                          | true =>
                            have ha := run_up (up_yes h1)
                            go_wp2
                            go_meet
                            case rel => exact ⟨rfl, rfl⟩
                          | false =>
                            go_wp2
                            go_meet
                            case rel => exact ⟨by rw [up_no h1], rfl⟩
                        case rest =>
                          obtain ⟨rfl, rfl⟩ := hcut
                          obtain ⟨W7, hW7⟩ : ∃ W7 : World, W7 = wc := ⟨_, rfl⟩
                          subst hW7
                          generalize up1 y0 = y1 at hsf ⊢
                          go_upto_if 113 with (fail)
                          go_cut [16] (fun s16 wc => s16 = .float .f64 (down1 y1) ∧ wc = W7)
                          case first =>
                            cases h2 : (Ieee.double.order y1 one == some .gt || Ieee.double.order y1 one == some .eq) with
                            | true =>
                              have hb := run_down (down_yes h2)
                              have h2' : (Ieee.double.order y1 4607182418800017408 == some .gt || Ieee.double.order y1 4607182418800017408 == some .eq) = true := h2
                              rw [h2']
                              go_wp2
                              go_meet
                              case rel => exact ⟨rfl, rfl⟩
                            | false =>
                              have h2' : (Ieee.double.order y1 4607182418800017408 == some .gt || Ieee.double.order y1 4607182418800017408 == some .eq) = false := h2
                              rw [h2']
                              go_wp2
                              go_meet
                              case rel => exact ⟨by rw [down_no h2], rfl⟩
                          case rest =>
                            obtain ⟨rfl, rfl⟩ := hcut
                            generalize down1 y1 = y2 at hsf ⊢
                            have HSF : Hid (SF (R i) y2) := hsf
                            clear hsf
                            go_wp2_with (go_at_call 8; refine (ceq_any _ _ _ HSF.out).mono ?_; rintro e w' ⟨rfl, rfl⟩)
                            go_roundg (k - (i + 1))
                            case measure => omega
                            case rel => exact ⟨i + 1, by omega, rfl, by go_num, HB7.out⟩
                  · obtain rfl : i = k := by omega
                    have hili : ¬ (i : Int) < (i : Int) := by omega
                    have HB6 : Hid (Below w2.heap.size w2 W6) := hb
                    clear hb
                    go_wp2
                    go_roundg (cnt D l - (j + 1))
                    case measure => omega
                    case rel =>
                      have e := HR.out.2.2.2
                      exact ⟨j + 1, by omega, rfl, by go_num, by rw [e]; go_num, HB6.out⟩
              · obtain rfl : j = cnt D l := by omega
                have hjli : ¬ ((cnt D l : Nat) : Int) < ((cnt D l : Nat) : Int) := by omega
                have HB5 : Hid (Below w2.heap.size w2 W5) := hb
                clear hb
                have hdiv : ∀ w, (binOp .quo 38 (.float .f64 (stepBits l)) (.float .f64 4611686018427387904)).run Yba.prog w = .ok (.float .f64 (stepBits (l + 1))) w := fun w => run_float_arith w .quo 38 .f64 (stepBits l) 4611686018427387904 (stepBits (l + 1)) (half l (by omega))
                go_wp2
                go_roundg (lv + 1 - (l + 1))
                case measure => omega
                case rel => exact ⟨l + 1, by omega, rfl, by go_num, by rw [Kf_succ]; go_num, rfl, HB5.out⟩
        · obtain rfl : l = lv + 1 := by omega
          have hlli : ¬ (((lv + 1 : Nat) : Int) ≤ (lv : Int)) := by omega
          have HB4 : Hid (Below w2.heap.size w2 W4) := hb
          clear hb
          go_wp2
          go_ret
          have hsz := HP.out.1.size
          exact ⟨rfl, HP.out.1.trans (HB4.out.mono hsz)⟩
end Go.Proofs.Ybulkdghg.Model
