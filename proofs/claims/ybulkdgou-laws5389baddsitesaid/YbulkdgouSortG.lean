import Derived.Test.YbulkdgouSortF
namespace Go.Proofs.Ybulkdgou
open Go.RowKit
attribute [local go_sem ↓] Go.wp_at_zero Go.wp_at_succ
namespace SortA

theorem Rot.triv {d : Nat → Nat} {s m e : Nat} (h : s = m ∨ e = m) : Rot d d s m e := by
  rcases h with rfl | rfl
  · exact ⟨fun _ _ => rfl, fun _ _ => rfl, fun x hx => by omega⟩
  · exact ⟨fun _ _ => rfl, fun x hx => by omega, fun x hx => by rw [show s + (e - e) + x = s + x by omega]⟩
theorem Rot.ascLo {key d d1 : Nat → Nat} {s m e : Nat} (R : Rot d d1 s m e) (A : Asc key d m e) : Asc key d1 s (s + (e - m)) := by
  intro p q p1 p2 p3
  have e1 := R.lo (p - s) (by omega)
  have e2 := R.lo (q - s) (by omega)
  rw [show s + (p - s) = p by omega] at e1
  rw [show s + (q - s) = q by omega] at e2
  rw [e1, e2]; exact A _ _ (by omega) (by omega) (by omega)
theorem Rot.ascHi {key d d1 : Nat → Nat} {s m e : Nat} (R : Rot d d1 s m e) (hme : m ≤ e) (A : Asc key d s m) : Asc key d1 (s + (e - m)) e := by
  intro p q p1 p2 p3
  have e1 := R.hi (p - (s + (e - m))) (by omega)
  have e2 := R.hi (q - (s + (e - m))) (by omega)
  rw [show s + (e - m) + (p - (s + (e - m))) = p by omega] at e1
  rw [show s + (e - m) + (q - (s + (e - m))) = q by omega] at e2
  rw [e1, e2]; exact A _ _ (by omega) (by omega) (by omega)
theorem Rot.bound {d d1 : Nat → Nat} {s m e L n : Nat} (R : Rot d d1 s m e) (hsm : s ≤ m) (hme : m ≤ e) (he : e ≤ L) (hd : ∀ i, i < L → d i < n) : ∀ i, i < L → d1 i < n := by
  intro i hi
  by_cases h1 : s ≤ i ∧ i < e
  · by_cases h2 : i < s + (e - m)
    · have := R.lo (i - s) (by omega)
      rw [show s + (i - s) = i by omega] at this
      rw [this]; exact hd _ (by omega)
    · have := R.hi (i - (s + (e - m))) (by omega)
      rw [show s + (e - m) + (i - (s + (e - m))) = i by omega] at this
      rw [this]; exact hd _ (by omega)
  · rw [R.out i h1]; exact hd i hi

/-- Where the search ends: the cut at s is fair. -/
structure Fair (key d : Nat → Nat) (a m b M s : Nat) : Prop where
  b1 : a ≤ s ∧ s ≤ m ∧ s ≤ M ∧ M + m ≤ b + s
  lt : ∀ i j, s ≤ i → i < m → m ≤ j → j < M + m - s → key (d j) < key (d i)
  le : ∀ i j, a ≤ i → i < s → M + m - s ≤ j → j < b → key (d i) ≤ key (d j)
theorem fair_of {key d : Nat → Nat} {a m b M lo hi s : Nat} (A1 : Asc key d a m) (A2 : Asc key d m b) (hlo : lo = a ∧ M + m ≤ b + a ∨ lo + b = M + m) (hhi : hi = M ∧ M ≤ m ∨ hi = m ∧ m ≤ M) (h1 : lo ≤ s) (h2 : s ≤ hi) (hal : a ≤ lo)
    (L : ∀ x, lo ≤ x → x < s → key (d x) ≤ key (d (M + m - 1 - x))) (H : ∀ x, s ≤ x → x < hi → key (d (M + m - 1 - x)) < key (d x)) : Fair key d a m b M s := by
  refine ⟨by omega, fun i j i1 i2 j1 j2 => ?_, fun i j i1 i2 j1 j2 => ?_⟩
  · have hs := H s (Nat.le_refl _) (by omega)
    have e1 := A1 s i (by omega) i1 i2
    have e2 := A2 j (M + m - 1 - s) j1 (by omega) (by omega)
    omega
  · have hs := L (s - 1) (by omega) (by omega)
    rw [show M + m - 1 - (s - 1) = M + m - s by omega] at hs
    have e1 := A1 i (s - 1) i1 (by omega) (by omega)
    have e2 := A2 (M + m - s) j (by omega) j1 j2
    omega

set_option maxHeartbeats 4000000 in
set_option maxRecDepth 100000 in
theorem symMerge_step (B L cap a m b n : Nat) (key d : Nat → Nat) (c : Value) (w : World) (hL : L ≤ 1024) (ham : a + 1 < m) (hmb : m + 1 < b) (hb : b ≤ L) (R : Hid (Row B L d w)) (hd : Hid (∀ i, i < L → d i < n)) (C : Hid (CmpOK B n key c w)) (A1 : Hid (Asc key d a m)) (A2 : Hid (Asc key d m b))
    (IH : Hid (∀ (a' m' b' : Nat) (d' : Nat → Nat) (w' : World), a' < m' → m' < b' → b' ≤ L → b' - a' < b - a → Row B L d' w' → (∀ i, i < L → d' i < n) → CmpOK B n key c w' → Asc key d' a' m' → Asc key d' m' b' →
      Calls Yba.prog 25 #[.slice (some ⟨B, 0, none⟩) L cap, .int .i64 (a' : Int), .int .i64 (m' : Int), .int .i64 (b' : Int), .func (.func 13) #[] #[c]] w' fun e w'' => e = .returned (.tuple #[]) ∧ But B w' w'' ∧ ∃ d'', Row B L d'' w'' ∧ Merged key d' d'' a' b' ∧ Asc key d'' a' b')) :
    Calls Yba.prog 25 #[.slice (some ⟨B, 0, none⟩) L cap, .int .i64 (a : Int), .int .i64 (m : Int), .int .i64 (b : Int), .func (.func 13) #[] #[c]] w fun e w' => e = .returned (.tuple #[]) ∧ But B w w' ∧ ∃ d', Row B L d' w' ∧ Merged key d d' a b ∧ Asc key d' a b := by
  obtain ⟨g, hg, hg1⟩ : ∃ g : Int, (m : Int) - (a : Int) = g ∧ (g == 1) = false := ⟨_, rfl, by simp; omega⟩
  obtain ⟨g2, hg2, hg3⟩ : ∃ g : Int, (b : Int) - (m : Int) = g ∧ (g == 1) = false := ⟨_, rfl, by simp; omega⟩
  obtain ⟨M, hM, hM1, hM2, HMd⟩ : ∃ M : Nat, ((a : Int) + (b : Int)) / 2 = (M : Int) ∧ a + 1 < M ∧ M + 1 < b ∧ Hid (2 * M ≤ a + b ∧ a + b ≤ 2 * M + 1) := ⟨(a + b) / 2, by omega, by omega, by omega, ⟨by omega, by omega⟩⟩
  go_enter Yba.func25, Yba.ntmps25
  go_upto_if 140 with (fail)
  go_cut [20, 21] (fun s20 s21 wc => ∃ lo hi : Nat, s20 = .int .i64 (lo : Int) ∧ s21 = .int .i64 (hi : Int) ∧ wc = w ∧ (lo = a ∧ M + m ≤ b + a ∨ lo + b = M + m) ∧ (hi = M ∧ M ≤ m ∨ hi = m ∧ m ≤ M) ∧ a ≤ lo ∧ lo ≤ hi)
  case first =>
    have hMd := HMd.out
    by_cases hMm : M < m
    · have hMmi : (M : Int) < (m : Int) := by omega
      have hs : (M : Int) + (m : Int) - (b : Int) = ((M + m - b : Nat) : Int) := by omega
      go_wp2_with fail
      go_meet
      case rel => exact ⟨M + m - b, M, by go_num, rfl, rfl, .inr (by omega), .inl ⟨rfl, by omega⟩, by omega, by omega⟩
    · have hMmi : ¬ (M : Int) < (m : Int) := by omega
      go_wp2_with fail
      go_meet
      case rel => exact ⟨a, m, rfl, rfl, rfl, .inl ⟨rfl, by omega⟩, .inr ⟨rfl, by omega⟩, Nat.le_refl _, by omega⟩
  case rest =>
    obtain ⟨lo, hi, rfl, rfl, rfl, hlo, hhi, hal, hlh⟩ := hcut
    obtain ⟨w, hw⟩ : ∃ w, w = wc := ⟨_, rfl⟩
    subst hw
    have HLO : Hid (lo = a ∧ M + m ≤ b + a ∨ lo + b = M + m) := hlo
    have HHI : Hid (hi = M ∧ M ≤ m ∨ hi = m ∧ m ≤ M) := hhi
    have hhM : hi ≤ M ∧ hi ≤ m := by omega
    have hlb : M + m ≤ b + lo := by omega
    have hhM1 := hhM.1
    have hhM2 := hhM.2
    clear hlo hhi hhM
    have hN1 : (M : Int) + (m : Int) - 1 = ((M + m - 1 : Nat) : Int) := by omega
    go_upto_block 8 with (fail)
    go_cut [20, 21] (fun s20 _ wc => ∃ s : Nat, s20 = .int .i64 (s : Int) ∧ But B w wc ∧ Row B L d wc ∧ Fair key d a m b M s)
    case first =>
      go_wp2_with fail
      go_loopg [20, 21] (hi - lo) (fun gk s20 s21 wr => ∃ (s r : Nat), lo ≤ s ∧ s ≤ r ∧ r ≤ hi ∧ gk = r - s ∧ s20 = .int .i64 (s : Int) ∧ s21 = .int .i64 (r : Int) ∧ But B w wr ∧ Row B L d wr ∧ (∀ x, lo ≤ x → x < s → key (d x) ≤ key (d (M + m - 1 - x))) ∧ (∀ x, r ≤ x → x < hi → key (d (M + m - 1 - x)) < key (d x)))
      case atStart => exact ⟨lo, hi, Nat.le_refl _, hlh, Nat.le_refl _, rfl, rfl, rfl, But.refl _ _, R.out, fun x h1 h2 => by omega, fun x h1 h2 => by omega⟩
      case round =>
        obtain ⟨s, r, hs1, hsr, hr1, rfl, rfl, rfl, hbut, hrow, h1, h2⟩ := hrel
        have HS : Hid (But B w wr ∧ Row B L d wr ∧ (∀ x, lo ≤ x → x < s → key (d x) ≤ key (d (M + m - 1 - x))) ∧ (∀ x, r ≤ x → x < hi → key (d (M + m - 1 - x)) < key (d x))) := ⟨hbut, hrow, h1, h2⟩
        by_cases hlt : s < r
        · have hlti : (s : Int) < (r : Int) := by omega
          obtain ⟨h, hh, hh1, hh2⟩ : ∃ h : Nat, ((s : Int) + (r : Int)) / 2 = (h : Int) ∧ s ≤ h ∧ h < r := ⟨(s + r) / 2, by omega, by omega, by omega⟩
          obtain ⟨t, ht, ht1⟩ : ∃ t : Nat, ((M + m - 1 : Nat) : Int) - (h : Int) = (t : Int) ∧ t = M + m - 1 - h := ⟨M + m - 1 - h, by omega, rfl⟩
          have htm : m ≤ t := by omega
          have htb : t < b := by omega
          have c1 := hrow.cell (i := h) (by omega)
          have c2 := hrow.cell (i := t) (by omega)
          have hhL : (h : Int) < (L : Int) := by omega
          have haL : (t : Int) < (L : Int) := by omega
          have HT1 : Hid (t = M + m - 1 - h) := ht1
          have HC : Hid (∀ q, Calls Yba.prog 13 #[.int .i64 (d t : Int), .int .i64 (d h : Int), c] (wr.drewN q) fun e u' => e = .returned (.int .i64 (cmpv (key (d t)) (key (d h)))) ∧ ∃ p, u' = (wr.drewN q).drewN p) :=
            C.out wr hbut (d t) (d h) (hd.out t (by omega)) (hd.out h (by omega))
          clear hbut hrow h1 h2 ht1
          by_cases hk : key (d t) < key (d h)
          · have hcv : cmpv (key (d t)) (key (d h)) = -1 := if_pos hk
            rw [hcv] at HC
            have HK : Hid (key (d t) < key (d h)) := hk
            clear hk hcv
            go_wp2_with fail
            go_quiet ((go_at_call 13; exact Calls.quiet_of (HC.out _)))
            go_wp2_with fail
            go_roundg (h - s)
            case measure => omega
            case rel =>
              refine ⟨s, h, hs1, hh1, by omega, rfl, rfl, by go_num, HS.out.1.drewN _, HS.out.2.1, HS.out.2.2.1, fun x p q => ?_⟩
              have ht1 := HT1.out
              have e1 := A1.out h x (by omega) p (by omega)
              have e2 := A2.out (M + m - 1 - x) t (by omega) (by omega) htb
              have := HK.out
              omega
          · obtain ⟨z, hz, hz0⟩ : ∃ z : Int, cmpv (key (d t)) (key (d h)) = z ∧ 0 ≤ z := ⟨_, rfl, by unfold cmpv; rw [if_neg hk]; split <;> omega⟩
            rw [hz] at HC
            have hz1 : decide (z < 0) = false := by simp; omega
            have HK : Hid (¬ key (d t) < key (d h)) := hk
            clear hk hz
            go_wp2_with fail
            go_quiet ((go_at_call 13; exact Calls.quiet_of (HC.out _)))
            go_wp2_with fail
            go_roundg (r - (h + 1))
            case measure => omega
            case rel =>
              refine ⟨h + 1, r, by omega, by omega, hr1, rfl, by go_num, rfl, HS.out.1.drewN _, HS.out.2.1, fun x p q => ?_, HS.out.2.2.2⟩
              have ht1 := HT1.out
              have e1 := A1.out x h (by omega) (by omega) (by omega)
              have e2 := A2.out t (M + m - 1 - x) htm (by omega) (by omega)
              have := HK.out
              omega
        · obtain rfl : s = r := by omega
          have hlti : ¬ (s : Int) < (s : Int) := by omega
          clear hbut hrow h1 h2
          go_wp2_with fail
          go_meet
          case rel => exact ⟨s, rfl, HS.out.1, HS.out.2.1, fair_of A1.out A2.out HLO.out HHI.out hs1 hr1 hal HS.out.2.2.1 HS.out.2.2.2⟩
    case rest =>
      obtain ⟨s, rfl, hbut, hrow, hfair⟩ := hcut
      obtain ⟨V, hV⟩ : ∃ V, V = wc := ⟨_, rfl⟩
      subst hV
      have HF : Hid (But B w V ∧ Row B L d V ∧ Fair key d a m b M s) := ⟨hbut, hrow, hfair⟩
      have hs1 := hfair.b1.1
      have hs2 := hfair.b1.2.1
      have hs3 := hfair.b1.2.2.1
      have hs4 := hfair.b1.2.2.2
      obtain ⟨E, hE, hE2⟩ : ∃ E : Nat, (M : Int) + (m : Int) - (s : Int) = (E : Int) ∧ E = M + m - s := ⟨M + m - s, by omega, rfl⟩
      have HE : Hid (E = M + m - s) := hE2
      have hmE : m ≤ E := by omega
      have hEb : E ≤ b := by omega
      clear hbut hrow hfair hE2
      obtain ⟨bb, hbb⟩ : ∃ bb : Bool, bb = (decide (s < m) && decide (m < E)) := ⟨_, rfl⟩
      have HBB : Hid (bb = (decide (s < m) && decide (m < E))) := hbb
      clear hbb
      go_upto_region 39 with (fail)
      go_cut [185] from 178 to 184 (fun s185 wc => s185 = .bool bb ∧ wc = V)
      case first =>
        have hbb := HBB.out
        by_cases h1 : s < m
        · have h1i : (s : Int) < (m : Int) := by omega
          by_cases h2 : m < E
          · have h2i : (m : Int) < (E : Int) := by omega
            go_wp2_with fail
            go_meet
            case rel => exact ⟨by rw [hbb]; simp [h1, h2], rfl⟩
          · have h2i : ¬ (m : Int) < (E : Int) := by omega
            go_wp2_with fail
            go_meet
            case rel => exact ⟨by rw [hbb]; simp [h1, h2], rfl⟩
        · have h1i : ¬ (s : Int) < (m : Int) := by omega
          go_wp2_with fail
          go_meet
          case rel => exact ⟨by rw [hbb]; simp [h1], rfl⟩
      case rest =>
        obtain ⟨rfl, rfl⟩ := hcut
        obtain ⟨V, hV⟩ : ∃ V, V = wc := ⟨_, rfl⟩
        subst hV
        go_upto_if 185 with (fail)
        go_cut [] from 186 to 191 (fun wd => But B w wd ∧ ∃ d1, Row B L d1 wd ∧ Rot d d1 s m E)
        case first =>
          cases bb with
          | true =>
            have hbb := HBB.out
            simp at hbb
            have HROW : Hid (Row B L d V) := HF.out.2.1
            go_wp2_with (first | (
              go_at_call 29
              refine (rotate_any B L cap s m E d (.func (.func 13) #[] #[c]) V hL hbb.1 hbb.2 (by omega) HROW).mono ?_
              rintro e w' ⟨rfl, hb1, d1, hrot, hrow1⟩))
            go_meet
            case rel => exact ⟨HF.out.1.trans hb1, d1, hrow1, hrot⟩
          | false =>
            have hbb := HBB.out
            go_wp2_with fail
            go_meet
            case rel =>
              refine ⟨HF.out.1, d, HF.out.2.1, Rot.triv ?_⟩
              by_cases h1 : s < m
              · simp [h1] at hbb; exact .inr (by omega)
              · exact .inl (by omega)
        case rest =>
          obtain ⟨hbut1, d1, hrow1, hrot1⟩ := hcut
          obtain ⟨V1, hV1⟩ : ∃ V1, V1 = wc := ⟨_, rfl⟩
          subst hV1
          have HF1 : Hid (But B w V1 ∧ Row B L d1 V1 ∧ Rot d d1 s m E) := ⟨hbut1, hrow1, hrot1⟩
          have hce : Hid (s + (E - m) = M) := by have := HE.out; show s + (E - m) = M; omega
          have hd1 : Hid (∀ i, i < L → d1 i < n) := hrot1.bound hs2 hmE (by omega) hd.out
          clear hbut1 hrow1 hrot1
          obtain ⟨b2, hb2⟩ : ∃ b2 : Bool, b2 = (decide (a < s) && decide (s < M)) := ⟨_, rfl⟩
          have HB2 : Hid (b2 = (decide (a < s) && decide (s < M))) := hb2
          clear hb2
          go_upto_region 41 with (fail)
          go_cut [199] from 192 to 198 (fun s199 wc => s199 = .bool b2 ∧ wc = V1)
          case first =>
            have hbb := HB2.out
            by_cases h1 : a < s
            · have h1i : (a : Int) < (s : Int) := by omega
              by_cases h2 : s < M
              · have h2i : (s : Int) < (M : Int) := by omega
                go_wp2_with fail
                go_meet
                case rel => exact ⟨by rw [hbb]; simp [h1, h2], rfl⟩
              · have h2i : ¬ (s : Int) < (M : Int) := by omega
                go_wp2_with fail
                go_meet
                case rel => exact ⟨by rw [hbb]; simp [h1, h2], rfl⟩
            · have h1i : ¬ (a : Int) < (s : Int) := by omega
              go_wp2_with fail
              go_meet
              case rel => exact ⟨by rw [hbb]; simp [h1], rfl⟩
          case rest =>
            obtain ⟨rfl, rfl⟩ := hcut
            obtain ⟨V1, hV1⟩ : ∃ V1, V1 = wc := ⟨_, rfl⟩
            subst hV1
            go_upto_if 199 with (fail)
            go_cut [] from 200 to 205 (fun wd => But B w wd ∧ ∃ d2, Row B L d2 wd ∧ Merged key d1 d2 a M ∧ Asc key d2 a M)
            case first =>
              have hl : Asc key d1 s M := by have := HF1.out.2.2.ascLo (A2.out.sub (Nat.le_refl _) hEb); rw [hce.out] at this; exact this
              have hl0 : Asc key d1 a s := (A1.out.sub (Nat.le_refl _) hs2).congr fun i p q => HF1.out.2.2.out i (by omega)
              have HAL : Hid (Asc key d1 a s ∧ Asc key d1 s M) := ⟨hl0, hl⟩
              clear hl hl0
              cases b2 with
              | true =>
                have hbb := HB2.out
                simp at hbb
                go_wp2_with (first | (
                  go_at_call 25
                  refine (IH.out a s M d1 V1 hbb.1 hbb.2 (by omega) (by omega) HF1.out.2.1 hd1.out (C.out.but HF1.out.1) HAL.out.1 HAL.out.2).mono ?_
                  rintro e w' ⟨rfl, hb1, d2, hrow2, hmer2, hasc2⟩))
                go_meet
                case rel => exact ⟨HF1.out.1.trans hb1, d2, hrow2, hmer2, hasc2⟩
              | false =>
                have hbb := HB2.out
                go_wp2_with fail
                go_meet
                case rel =>
                  refine ⟨HF1.out.1, d1, HF1.out.2.1, Merged.refl _ _ _ _, ?_⟩
                  by_cases h1 : a < s
                  · simp [h1] at hbb
                    have e1 : s = M := by omega
                    rw [← e1]; exact HAL.out.1
                  · have e1 : s = a := by omega
                    rw [← e1]; exact HAL.out.2
            case rest =>
              obtain ⟨hbut2, d2, hrow2, hmer2, hasc2⟩ := hcut
              obtain ⟨V2, hV2⟩ : ∃ V2, V2 = wc := ⟨_, rfl⟩
              subst hV2
              have HF2 : Hid (But B w V2 ∧ Row B L d2 V2 ∧ Merged key d1 d2 a M ∧ Asc key d2 a M) := ⟨hbut2, hrow2, hmer2, hasc2⟩
              have hd2 : Hid (∀ i, i < L → d2 i < n) := hmer2.bound (by omega) hd1.out
              clear hbut2 hrow2 hmer2 hasc2
              obtain ⟨b3, hb3⟩ : ∃ b3 : Bool, b3 = (decide (M < E) && decide (E < b)) := ⟨_, rfl⟩
              have HB3 : Hid (b3 = (decide (M < E) && decide (E < b))) := hb3
              clear hb3
              have hr1 : Asc key d2 M E := by
                have := HF1.out.2.2.ascHi hmE (A1.out.sub hs1 (Nat.le_refl _))
                rw [hce.out] at this
                exact this.congr fun i p q => HF2.out.2.2.1.out i (by omega)
              have hr2 : Asc key d2 E b := ((A2.out.sub hmE (Nat.le_refl _)).congr fun i p q => HF1.out.2.2.out i (by omega)).congr fun i p q => HF2.out.2.2.1.out i (by have := HE.out; omega)
              have HAR : Hid (Asc key d2 M E ∧ Asc key d2 E b) := ⟨hr1, hr2⟩
              clear hr1 hr2
              go_upto_region 43 with (fail)
              go_cut [213] from 206 to 212 (fun s213 wc => s213 = .bool b3 ∧ wc = V2)
              case first =>
                have hbb := HB3.out
                by_cases h1 : M < E
                · have h1i : (M : Int) < (E : Int) := by omega
                  by_cases h2 : E < b
                  · have h2i : (E : Int) < (b : Int) := by omega
                    go_wp2_with fail
                    go_meet
                    case rel => exact ⟨by rw [hbb]; simp [h1, h2], rfl⟩
                  · have h2i : ¬ (E : Int) < (b : Int) := by omega
                    go_wp2_with fail
                    go_meet
                    case rel => exact ⟨by rw [hbb]; simp [h1, h2], rfl⟩
                · have h1i : ¬ (M : Int) < (E : Int) := by omega
                  go_wp2_with fail
                  go_meet
                  case rel => exact ⟨by rw [hbb]; simp [h1], rfl⟩
              case rest =>
                obtain ⟨rfl, rfl⟩ := hcut
                obtain ⟨V2, hV2⟩ : ∃ V2, V2 = wc := ⟨_, rfl⟩
                subst hV2
                have HFIN : Hid (∀ d3, Merged key d2 d3 M b → Asc key d3 M b → Merged key d d3 a b ∧ Asc key d3 a b) := fun d3 m3 a3 => by
                  have hE := HE.out
                  have hf := HF.out.2.2
                  exact step (s := s) (m := m) (e := E) (c := M) hs1 hs2 hmE hEb hce.out.symm A1.out A2.out (fun i j p q r t => hf.lt i j p q r (by omega)) (fun i j p q r t => hf.le i j p q (by omega) t) HF1.out.2.2 HF2.out.2.2.1 HF2.out.2.2.2 m3 a3
                cases b3 with
                | true =>
                  have hbb := HB3.out
                  simp at hbb
                  go_wp2_with (first | (
                    go_at_call 25
                    refine (IH.out M E b d2 V2 hbb.1 hbb.2 hb (by omega) HF2.out.2.1 hd2.out (C.out.but HF2.out.1) HAR.out.1 HAR.out.2).mono ?_
                    rintro e w' ⟨rfl, hb1, d3, hrow3, hmer3, hasc3⟩))
                  go_end0
                  have hq := HFIN.out d3 hmer3 hasc3
                  exact ⟨rfl, HF2.out.1.trans hb1, d3, hrow3, hq.1, hq.2⟩
                | false =>
                  have hbb := HB3.out
                  have ha : Asc key d2 M b := by
                    by_cases h1 : M < E
                    · simp [h1] at hbb
                      have e1 : E = b := by omega
                      rw [← e1]; exact HAR.out.1
                    · have e1 : E = M := by have := HE.out; omega
                      rw [← e1]; exact HAR.out.2
                  have HA : Hid (Asc key d2 M b) := ha
                  clear ha hbb
                  go_wp2
                  go_end0
                  have hq := HFIN.out d2 (Merged.refl _ _ _ _) HA.out
                  exact ⟨rfl, HF2.out.1, d2, HF2.out.2.1, hq.1, hq.2⟩

/-- symMergeCmpFunc merges two ascending stretches, stably. -/
theorem symMerge_any (B L cap n : Nat) (key : Nat → Nat) (c : Value) (hL : L ≤ 1024) : ∀ (N a m b : Nat) (d : Nat → Nat) (w : World), b - a ≤ N → a < m → m < b → b ≤ L → Row B L d w → (∀ i, i < L → d i < n) → CmpOK B n key c w → Asc key d a m → Asc key d m b →
    Calls Yba.prog 25 #[.slice (some ⟨B, 0, none⟩) L cap, .int .i64 (a : Int), .int .i64 (m : Int), .int .i64 (b : Int), .func (.func 13) #[] #[c]] w fun e w' => e = .returned (.tuple #[]) ∧ But B w w' ∧ ∃ d', Row B L d' w' ∧ Merged key d d' a b ∧ Asc key d' a b := by
  intro N
  induction N with
  | zero => intro a m b d w h1 h2 h3; omega
  | succ N ih =>
    intro a m b d w hN ham hmb hb hrow hd hC A1 A2
    by_cases h1 : m = a + 1
    · subst h1
      exact symMerge_left B L cap a b n key d c w hL hmb hb hrow hd hC A2
    · by_cases h2 : b = m + 1
      · subst h2
        exact symMerge_right B L cap a m n key d c w hL (by omega) hb hrow hd hC A1
      · exact symMerge_step B L cap a m b n key d c w hL (by omega) (by omega) hb hrow hd hC A1 A2 (fun a' m' b' d' w' p1 p2 p3 p4 p5 p6 p7 p8 p9 => ih a' m' b' d' w' (by omega) p1 p2 p3 p5 p6 p7 p8 p9)
end SortA
end Go.Proofs.Ybulkdgou
