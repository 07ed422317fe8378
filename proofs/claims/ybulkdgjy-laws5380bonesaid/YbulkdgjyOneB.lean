import Derived.Test.YbulkdgjyOneA
namespace Go.Proofs.Ybulkdgjy
open Go.RowKit
attribute [local go_sem ↓] Go.wp_at_zero Go.wp_at_succ

set_option maxHeartbeats 400000 in
set_option maxRecDepth 100000 in
theorem one_big (lg li : Int) (a : Option Addr) (len cap : Nat) (w : World) (hl : 256 < len) :
    Calls Yba.prog 4 #[.slice a len cap, .int .u8 lg, .int .u16 li] w fun e w' => e = .returned (.bool true) ∧ Below w.heap.size w w' := by
  have hl' : (256 : Int) < (len : Int) := by omega
  go_enter Yba.func4, Yba.ntmps4
  go_wp2
  go_ret
  exact ⟨rfl, Below.refl _ _⟩

/-- Where the copying loop stands. -/
structure Copied (w wr : World) (n i : Nat) (L : Nat → Nat) (Z : Nat → Nat → Nat) (R : Nat → Value) : Prop where
  bel : Below w.heap.size w wr
  lines : Lines wr w.heap.size n (w.heap.size + 1) R (words L Z i)

set_option maxHeartbeats 2000000 in
set_option maxRecDepth 100000 in
theorem one (lg li : Int) (a : Option Addr) (len cap : Nat) (A : Nat → Option Addr) (L C : Nat → Nat) (Z : Nat → Nat → Nat) (w : World) (h0 : 0 ≤ lg) (h1 : lg ≤ 255) (h2 : 0 ≤ li) (h3 : li ≤ 65535) (hl : len ≤ 256) (hz : Hid (Init w a len A L C Z)) :
    Calls Yba.prog 4 #[.slice a len cap, .int .u8 lg, .int .u16 li] w fun e w' => e = .returned (.bool true) ∧ Below w.heap.size w w' := by
  have hl' : ¬ (256 : Int) < (len : Int) := by omega
  obtain ⟨n, hn, hn2⟩ : ∃ n : Nat, (len : Int) + 1 = (n : Int) ∧ len + 1 = n := ⟨len + 1, by omega, rfl⟩
  have hmk := run_make_row' (P := Yba.prog) 24 30 (.slice none 0 0) 24 Yba.underlying24 info30 rfl .i64 .i64 n (by omega) (by omega)
  have HN : Hid (len + 1 = n) := hn2
  have hn257 : n ≤ 257 := by omega
  have hlenn : (len : Int) < (n : Int) := by omega
  have hn0 : (0 : Int) < (n : Int) := by omega
  clear hn2
  go_enter Yba.func4, Yba.ntmps4
  go_wp2_with fail
  go_loopg [7] len (fun gk s7 wr => ∃ i : Nat, i ≤ len ∧ gk = len - i ∧ s7 = .int .i64 (i : Int) ∧ wr = w ∧ ∀ j, j < i → L j ≤ 1024)
  case atStart => exact ⟨0, Nat.zero_le _, rfl, rfl, rfl, fun j hj => by omega⟩
  case round =>
    obtain ⟨i, hi, rfl, rfl, hwr, hLs⟩ := hrel
    subst hwr
    have HLs : Hid (∀ j, j < i → L j ≤ 1024) := hLs
    clear hLs
    by_cases hil : i < len
    · have hili : (i : Int) < (len : Int) := by omega
      have hi0 : (0 : Int) ≤ (i : Int) := by omega
      obtain ⟨b, off, rfl, hb, hc⟩ := hz.out.head (by omega)
      have ci := hc i hil
      clear hc
      by_cases hLi : 1024 < L i
      · have hLii : (1024 : Int) < (L i : Int) := by omega
        go_wp2
        go_ret
        exact ⟨rfl, Below.refl _ _⟩
      · have hLii : ¬ (1024 : Int) < (L i : Int) := by omega
        go_wp2_with fail
        go_roundg (len - (i + 1))
        case measure => omega
        case rel =>
          refine ⟨i + 1, by omega, rfl, by go_num, rfl, fun j hj => ?_⟩
          rcases Nat.lt_or_ge j i with h | h
          · exact HLs.out j h
          · obtain rfl : j = i := by omega
            omega
    · obtain rfl : i = len := by omega
      have hili : ¬ (i : Int) < (i : Int) := by omega
      obtain ⟨W1, hW1⟩ : ∃ W1 : World, W1 = wr := ⟨_, rfl⟩
      subst hW1
      go_wp2_with fail
      clear hmk
      go_loopg [9] i (fun gk s9 wr => ∃ (j : Nat) (R : Nat → Value), j ≤ i ∧ gk = i - j ∧ s9 = .int .i64 (j : Int) ∧ Copied W1 wr n j L Z R)
      case atStart =>
        refine ⟨0, fun _ => .slice none 0 0, Nat.zero_le _, rfl, rfl, (Below.refl _ _).alloc (Nat.le_refl _) _, ⟨by omega, by simp, World.rowIs_made W1 (.slice none 0 0) n 30, fun j hj => ?_, fun i j _ _ _ => .inl rfl⟩⟩
        simp [words]
        exact World.ownsRow_nil _ _ _ _
      case round =>
        obtain ⟨j, R, hj, rfl, rfl, hcp⟩ := hrel
        have HC : Hid (Copied W1 wr n j L Z R) := hcp
        clear hcp
        by_cases hji : j < i
        · have hjii : (j : Int) < (i : Int) := by omega
          have hj0 : (0 : Int) ≤ (j : Int) := by omega
          have hjn : (j : Int) < (n : Int) := by omega
          obtain ⟨b, off, rfl, hb, hc⟩ := hz.out.head (by omega)
          have cj : wr.cell? ⟨b, off + j, none⟩ = some (.slice (A j) (L j) (C j)) := by rw [HC.out.bel.cell hb]; exact hc j hji
          have hLj : L j ≤ 1024 := HLs.out j hji
          have hblt : b < wr.heap.size := Nat.lt_of_lt_of_le hb HC.out.bel.size
          clear hc
          cases hA : A j with
          | none =>
            rw [hA] at cj
            have hL0 := hz.out.none j hji hA
            have HL0 : Hid (L j = 0) := hL0
            clear hL0 hA
            go_wp2_with fail
            go_roundg (i - (j + 1))
            case measure => omega
            case rel => exact ⟨j + 1, R, by omega, rfl, by go_num, HC.out.bel, by rw [← words_skip HL0.out]; exact HC.out.lines⟩
          | some x =>
            rw [hA] at cj
            have HA : Hid (A j = some x) := hA
            clear hA
            have hmk2 := run_make_row' (P := Yba.prog) 30 31 (.int .u64 0) 8 Yba.underlying30 info31 rfl .i64 .i64 (L j) (by omega) (by omega)
            have HU : Hid (IsU (wr.alloc (.cells (madeCells #[.int .u64 0] (L j)) 31)) (some x) (L j) (Z j)) := by
              have := (hz.out.each j hji).below (HC.out.bel.alloc HC.out.bel.size (.cells (madeCells #[.int .u64 0] (L j)) 31))
              rw [HA.out] at this
              exact this
            have hNlt : W1.heap.size < wr.heap.size := HC.out.lines.row.lt
            go_wp2_with (first | (
              refine wpList_copyU rfl rfl _ (L j) (C j) (some x) (Z j) rfl rfl (World.rowIs_made wr (.int .u64 0) (L j) 31) HU.out ?_
              intro w1 hb1 hs1 hr1
              have gr : wr.grownBy w1 none := ⟨hb1.os, hb1.tape, hb1.output, (by rw [hs1]; simp), fun k hk _ => (hb1.block k hk).trans (Go.Deep.blk_alloc_lt _ _ _ hk)⟩
              have r1 : w1.rowIs W1.heap.size 30 n R := HC.out.lines.row.of_block (gr.block W1.heap.size hNlt (by simp))
              have c1 := r1.cell (i := j) (by omega)
              have f1 := r1.frozen j
              have HF : Hid (wr.grownBy w1 none ∧ w1.rowIs wr.heap.size 31 (L j) (fun m => .int .u64 (Z j m : Int))) := ⟨gr, hr1⟩
              clear hb1 hs1 hr1 gr r1))
            go_roundg (i - (j + 1))
            case measure => omega
            case rel =>
              have hB := HC.out.lines.bsz
              obtain ⟨q1, q2⟩ := HC.out.lines.put (l := j) (by omega) (own_of_row HF.out.2 (B := W1.heap.size + 1) (by omega) (by unfold maxLen; omega)) HF.out.1 (Nat.le_refl _)
              rw [words_succ] at q1
              exact ⟨j + 1, _, by omega, rfl, by go_num, HC.out.bel.trans (q2.below (by omega) (by omega)), q1⟩
        · obtain rfl : j = i := by omega
          have hjii : ¬ (j : Int) < (j : Int) := by omega
          obtain ⟨W2, hW2⟩ : ∃ W2 : World, W2 = wr := ⟨_, rfl⟩
          subst hW2
          obtain ⟨l, hlg, hln⟩ : ∃ l : Nat, lg % (n : Int) = (l : Int) ∧ l < n := ⟨(lg % n).toNat, by have := Int.emod_nonneg lg (b := (n : Int)) (by omega); omega, by have := Int.emod_lt_of_pos lg hn0; omega⟩
          obtain ⟨ln, hli, hln8⟩ : ∃ ln : Nat, li % 8192 = (ln : Int) ∧ ln < 8192 := ⟨(li % 8192).toNat, by omega, by omega⟩
          obtain ⟨m, hm, hmd⟩ : ∃ m : Nat, (ln : Int) / 64 = (m : Int) ∧ ln / 64 = m := ⟨ln / 64, by omega, rfl⟩
          obtain ⟨r, hr, hrd, hr64⟩ : ∃ r : Nat, (ln : Int) % 64 = (r : Int) ∧ ln % 64 = r ∧ r < 64 := ⟨ln % 64, by omega, rfl, by omega⟩
          obtain ⟨bit, hbit⟩ : ∃ bit, 2 ^ r = bit := ⟨_, rfl⟩
          have hbit64 : bit < 18446744073709551616 := by
            rw [← hbit]
            have := Nat.pow_lt_pow_right (a := 2) (by decide) hr64
            exact this
          have hwrap : IntKind.u64.wrap ((2 : Int) ^ r) = (bit : Int) := wrap_pow hbit hbit64
          have HBIT : Hid (2 ^ r = bit ∧ ln / 64 = m ∧ ln % 64 = r) := ⟨hbit, hmd, hrd⟩
          have hlni : (l : Int) < (n : Int) := by omega
          have hl0 : (0 : Int) ≤ (l : Int) := by omega
          clear hbit hmd hrd
          go_upto_if 86 with (fail)
          rw [hlg, hli]
          go_cut [15] (fun s15 wc => ∃ oa oL oC, s15 = .slice oa oL oC ∧ oL = (words L Z j l).length ∧ oL ≤ 1024 ∧ IsU W1 oa oL (fun q => (words L Z j l).getD q 0) ∧ wc = W2)
          case first =>
            by_cases hlj : l < j
            · have hlji : (l : Int) < (j : Int) := by omega
              obtain ⟨b, off, rfl, hb, hc⟩ := hz.out.head (by omega)
              have cl : W2.cell? ⟨b, off + l, none⟩ = some (.slice (A l) (L l) (C l)) := by rw [HC.out.bel.cell hb]; exact hc l hlj
              clear hc
              go_wp2
              go_meet
              case rel =>
                refine ⟨_, _, _, rfl, (words_length hlj).symm, HLs.out l hlj, ?_, rfl⟩
                intro hpos
                obtain ⟨b, off, e, hlt, hc⟩ := hz.out.each l hlj hpos
                exact ⟨b, off, e, hlt, fun q hq => by simp only [words_getD hlj hq]; exact hc q hq⟩
            · have hlji : ¬ (l : Int) < (j : Int) := by omega
              go_wp2
              go_meet
              case rel => exact ⟨none, 0, 0, rfl, by simp [words, hlj], by omega, fun h => by omega, rfl⟩
          case rest =>
            obtain ⟨oa, oL, oC, rfl, hoL, hoL1, hoU, hwc⟩ := hcut
            subst hwc
            have HO : Hid (oL = (words L Z j l).length ∧ IsU W1 oa oL (fun q => (words L Z j l).getD q 0)) := ⟨hoL, hoU⟩
            clear hoL hoU
            go_upto_region 23 with (fail)
            go_cut [16] (fun s16 wc2 => s16 = .bool (has (words L Z j l) ln) ∧ wc2 = wc)
            case first =>
              by_cases hmo : m < oL
              · have hmoi : (m : Int) < (oL : Int) := by omega
                have hm0 : (0 : Int) ≤ (m : Int) := by omega
                obtain ⟨b, off, rfl, hb, hc⟩ := HO.out.2.below HC.out.bel (by omega)
                obtain ⟨cm, hx64⟩ := hc m hmo
                obtain ⟨x, hx⟩ : ∃ x, (words L Z j l).getD m 0 = x := ⟨_, rfl⟩
                simp only [hx] at cm hx64
                have hand := u64_and_nat x bit hx64 hbit64
                have hh : has (words L Z j l) ln = ((x &&& bit) != 0) := by
                  obtain ⟨e1, e2, e3⟩ := HBIT.out
                  rw [has, getD_padded, e2, e3, hx, e1]
                have HH : Hid (has (words L Z j l) ln = ((x &&& bit) != 0)) := hh
                clear hc hx hh
                by_cases hz0 : (x &&& bit) = 0
                · have hzi : (((x &&& bit : Nat) : Int) == 0) = true := by rw [hz0]; rfl
                  have HZ : Hid ((x &&& bit) = 0) := hz0
                  clear hz0
                  go_wp2
                  go_meet
                  case rel => exact ⟨by rw [HH.out, HZ.out]; rfl, rfl⟩
                · have hzi : (((x &&& bit : Nat) : Int) == 0) = false := by simp only [beq_eq_false_iff_ne, ne_eq]; omega
                  have HZ : Hid (¬ (x &&& bit) = 0) := hz0
                  clear hz0
                  go_wp2
                  go_meet
                  case rel =>
                    refine ⟨?_, rfl⟩
                    rw [HH.out, bne_iff_ne.2 HZ.out]
                    show Value.bool (!(((x &&& bit : Nat) : Int) == 0)) = _
                    rw [hzi]; rfl
              · have hmoi : ¬ (m : Int) < (oL : Int) := by omega
                have hh : has (words L Z j l) ln = false := by
                  obtain ⟨e1, e2, e3⟩ := HBIT.out
                  rw [has, getD_padded, e2, List.getD_eq_getElem?_getD, List.getElem?_eq_none (by rw [← HO.out.1]; omega)]
                  simp
                have HH : Hid (has (words L Z j l) ln = false) := hh
                clear hh
                go_wp2
                go_meet
                case rel => exact ⟨by rw [HH.out], rfl⟩
            case rest =>
              obtain ⟨rfl, hwc⟩ := hcut
              subst hwc
              obtain ⟨hv, hhv⟩ : ∃ hv, has (words L Z j l) ln = hv := ⟨_, rfl⟩
              rw [hhv]
              have HHV : Hid (has (words L Z j l) ln = hv) := hhv
              clear hhv
              have HLn : Hid (Lines wc W1.heap.size n (W1.heap.size + 1) R (words L Z j)) := HC.out.lines
              have HXl : Hid ((words L Z j l).length ≤ 1024) := by show _ ≤ _; rw [← HO.out.1]; exact hoL1
              have HXw : Hid (∀ x ∈ words L Z j l, x < 18446744073709551616) := words_lt hz.out l
              obtain ⟨W, hW⟩ : ∃ W, (added (words L Z j l) ln).length = W := ⟨_, rfl⟩
              have hWm : W = max oL (m + 1) := by rw [← hW, added_length, HBIT.out.2.1, HO.out.1]
              have HW : Hid ((added (words L Z j l) ln).length = W) := hW
              have hW1 : oL ≤ W := by omega
              have hW2 : m + 1 ≤ W := by omega
              have hW3 : W = oL ∨ W = m + 1 := by omega
              have hm127 : m < 128 := by have := HBIT.out.2.1; omega
              have hW4 : W ≤ 1152 := by omega
              have HW3 : Hid (W = oL ∨ W = m + 1) := hW3
              clear hW hWm hW3
              go_upto_if 116 with (first | (
                go_at_call 5
                refine (add_any wc W1.heap.size n (W1.heap.size + 1) l ln R (words L Z j) hln (by omega) hln8 HXl.out HXw.out HLn).mono ?_
                rintro e w2 ⟨he, hk2, R2, hL2⟩
                rw [HHV.out] at he
                subst he))
              have HF : Hid (Kept (W1.heap.size + 1) W1.heap.size wc w2 ∧ Lines w2 W1.heap.size n (W1.heap.size + 1) R2 (upd (words L Z j) l (added (words L Z j l) ln))) := ⟨hk2, hL2⟩
              clear hk2 hL2
              go_cut [18] (fun s18 wc => s18 = .int .i64 (W : Int) ∧ wc = w2)
              case first =>
                by_cases hom : oL < m + 1
                · have homi : (oL : Int) < (m : Int) + 1 := by omega
                  have hWe : (m : Int) + 1 = (W : Int) := by have := HW3.out; omega
                  have HWe : Hid ((m : Int) + 1 = (W : Int)) := hWe
                  clear hWe
                  go_wp2
                  go_meet
                  case rel => exact ⟨by rw [HWe.out], rfl⟩
                · have homi : ¬ (oL : Int) < (m : Int) + 1 := by omega
                  have hWe : (oL : Int) = (W : Int) := by have := HW3.out; omega
                  have HWe : Hid ((oL : Int) = (W : Int)) := hWe
                  clear hWe
                  go_wp2
                  go_meet
                  case rel => exact ⟨by rw [HWe.out], rfl⟩
              case rest =>
                obtain ⟨rfl, hwc⟩ := hcut
                subst hwc
                have HB2 : Hid (Below W1.heap.size W1 wc) := HC.out.bel.trans (HF.out.1.below (by omega) (by omega))
                obtain ⟨a2, cap2, hR2⟩ := HF.out.2.form hln
                rw [upd_same, HW.out] at hR2
                obtain ⟨g2, rfl⟩ : ∃ g, a2 = some ⟨g, 0, none⟩ := by
                  obtain ⟨g, c, e, _⟩ := (HF.out.2.own l hln).form (by rw [upd_same, HW.out]; omega)
                  rw [hR2] at e
                  injection e with e1
                  exact ⟨g, e1⟩
                have cl : wc.cell? ⟨W1.heap.size, l, none⟩ = some (.slice (some ⟨g2, 0, none⟩) W cap2) := by rw [← hR2]; exact HF.out.2.row.cell hln
                have HR2 : Hid (R2 l = .slice (some ⟨g2, 0, none⟩) W cap2) := hR2
                clear hR2
                obtain ⟨W5, hW5⟩ : ∃ W5 : World, W5 = wc := ⟨_, rfl⟩
                subst hW5
                go_wp2_with fail
                go_loopg [19] W (fun gk s19 wr => ∃ q : Nat, q ≤ W ∧ gk = W - q ∧ s19 = .int .i64 (q : Int) ∧ wr = W5)
                case atStart => exact ⟨0, Nat.zero_le _, rfl, rfl, rfl⟩
                case round =>
                  obtain ⟨q, hq, rfl, rfl, hwr⟩ := hrel
                  subst hwr
                  by_cases hqW : q < W
                  · have hqi : (q : Int) < (W : Int) := by omega
                    have hq0 : (0 : Int) ≤ (q : Int) := by omega
                    have cq : wr.cell? ⟨g2, q, none⟩ = some (.int .u64 (((added (words L Z j l) ln).getD q 0 : Nat) : Int)) := by
                      have := (HF.out.2.cell hln (q := q) (g := g2) (cap := cap2) (by rw [upd_same, HW.out]; exact HR2.out) (by rw [upd_same, HW.out]; exact hqW)).1
                      rw [upd_same] at this
                      exact this
                    rw [getD_added, HBIT.out.2.1, HBIT.out.2.2, HBIT.out.1] at cq
                    obtain ⟨x, hx⟩ : ∃ x, (words L Z j l).getD q 0 = x := ⟨_, rfl⟩
                    rw [hx] at cq
                    have hx64 : x < 18446744073709551616 := by
                      rw [← hx, List.getD_eq_getElem?_getD]
                      rcases Nat.lt_or_ge q (words L Z j l).length with hh | hh
                      · rw [List.getElem?_eq_getElem hh]; exact HXw.out _ (List.getElem_mem _)
                      · rw [List.getElem?_eq_none hh]; decide
                    have HX : Hid ((words L Z j l).getD q 0 = x) := hx
                    clear hx
                    go_upto_if 134 with (fail)
                    obtain ⟨W6, hW6⟩ : ∃ W6 : World, W6 = wr := ⟨_, rfl⟩
                    subst hW6
                    go_cut [20] (fun s20 wc => s20 = .int .u64 (x : Int) ∧ wc = W6)
                    case first =>
                      by_cases hqo : q < oL
                      · have hqoi : (q : Int) < (oL : Int) := by omega
                        obtain ⟨b, off, rfl, hb, hc⟩ := HO.out.2.below HB2.out (by omega)
                        obtain ⟨co, _⟩ := hc q hqo
                        simp only [HX.out] at co
                        clear hc
                        go_wp2
                        go_meet
                        case rel => exact ⟨rfl, rfl⟩
                      · have hqoi : ¬ (q : Int) < (oL : Int) := by omega
                        have hx0 : x = 0 := by
                          rw [← HX.out, List.getD_eq_getElem?_getD, List.getElem?_eq_none (by rw [← HO.out.1]; omega)]; rfl
                        have HX0 : Hid (x = 0) := hx0
                        clear hx0
                        go_wp2
                        go_meet
                        case rel => exact ⟨by rw [HX0.out]; rfl, rfl⟩
                    case rest =>
                      obtain ⟨rfl, hwc⟩ := hcut
                      subst hwc
                      by_cases hqm : q = m
                      · have hqmi : ((q : Int) == (m : Int)) = true := by rw [hqm]; simp
                        rw [if_pos hqm] at cq
                        have hor := u64_or_nat x bit hx64 hbit64
                        have HQM : Hid (q = m) := hqm
                        clear hqm
                        go_wp2
                        go_roundg (W - (q + 1))
                        case measure => omega
                        case rel => exact ⟨q + 1, by omega, rfl, by go_num, rfl⟩
                      · have hqmi : ((q : Int) == (m : Int)) = false := by simp only [beq_eq_false_iff_ne, ne_eq]; omega
                        rw [if_neg hqm] at cq
                        have HQM : Hid (¬ q = m) := hqm
                        clear hqm
                        go_wp2
                        go_roundg (W - (q + 1))
                        case measure => omega
                        case rel => exact ⟨q + 1, by omega, rfl, by go_num, rfl⟩
                  · obtain rfl : q = W := by omega
                    have hqi : ¬ (q : Int) < (q : Int) := by omega
                    obtain ⟨W7, hW7⟩ : ∃ W7 : World, W7 = wr := ⟨_, rfl⟩
                    subst hW7
                    go_wp2_with fail
                    go_loopg [21] j (fun gk s21 wr => ∃ i : Nat, i ≤ j ∧ gk = j - i ∧ s21 = .int .i64 (i : Int) ∧ ∃ nn, wr = W7.drewN nn)
                    case atStart => exact ⟨0, Nat.zero_le _, rfl, rfl, 0, rfl⟩
                    case round =>
                      obtain ⟨i, hi, rfl, rfl, nn, hwr⟩ := hrel
                      subst hwr
                      by_cases hij : i < j
                      · have hiji : (i : Int) < (j : Int) := by omega
                        have hi0 : (0 : Int) ≤ (i : Int) := by omega
                        have hin : (i : Int) < (n : Int) := by omega
                        obtain ⟨b, off, rfl, hb, hc⟩ := hz.out.head (by omega)
                        have ci : W7.cell? ⟨b, off + i, none⟩ = some (.slice (A i) (L i) (C i)) := by rw [HB2.out.cell hb]; exact hc i hij
                        have hLi : L i ≤ 1024 := HLs.out i hij
                        clear hc
                        by_cases hil : i = l
                        · have hili : ((i : Int) == (l : Int)) = true := by rw [hil]; simp
                          have HIL : Hid (i = l) := hil
                          clear hil
                          go_wp2
                          go_roundg (j - (i + 1))
                          case measure => omega
                          case rel => exact ⟨i + 1, by omega, rfl, by go_num, _, rfl⟩
                        · have hili : ((i : Int) == (l : Int)) = false := by simp only [beq_eq_false_iff_ne, ne_eq]; omega
                          have hin' : i < n := by omega
                          obtain ⟨ai, capi, hRi⟩ := HF.out.2.form hin'
                          rw [upd_other _ _ hil, words_length hij] at hRi
                          have cRi : W7.cell? ⟨W1.heap.size, i, none⟩ = some (.slice ai (L i) capi) := by rw [← hRi]; exact HF.out.2.row.cell hin'
                          have HRi : Hid (R2 i = .slice ai (L i) capi ∧ ¬ i = l) := ⟨hRi, hil⟩
                          clear hRi hil
                          go_wp2_with fail
                          go_quiet (fail)
                          go_wp2_with fail
                          go_loopg [22] (L i) (fun gk s22 wr => ∃ q2 : Nat, q2 ≤ L i ∧ gk = L i - q2 ∧ s22 = .int .i64 (q2 : Int) ∧ ∃ nn, wr = W7.drewN nn)
                          case atStart => exact ⟨0, Nat.zero_le _, rfl, rfl, _, World.drewN_drewN ..⟩
                          case round =>
                            obtain ⟨q2, hq2, rfl, rfl, nn2, hwr⟩ := hrel
                            subst hwr
                            by_cases hqL : q2 < L i
                            · have hqLi : (q2 : Int) < (L i : Int) := by omega
                              have hq20 : (0 : Int) ≤ (q2 : Int) := by omega
                              obtain ⟨b2, off2, hA2, hb2, hc2⟩ := (hz.out.each i hij).below HB2.out (by omega)
                              have cz := (hc2 q2 hqL).1
                              rw [hA2] at ci
                              obtain ⟨gi, rfl⟩ : ∃ g, ai = some ⟨g, 0, none⟩ := by
                                obtain ⟨g, c, e, _⟩ := (HF.out.2.own i hin').form (by rw [upd_other _ _ HRi.out.2, words_length hij]; omega)
                                rw [HRi.out.1] at e
                                injection e with e1
                                exact ⟨g, e1⟩
                              have cgi := (HF.out.2.cell hin' (q := q2) (g := gi) (cap := capi) (by rw [upd_other _ _ HRi.out.2, words_length hij]; exact HRi.out.1) (by rw [upd_other _ _ HRi.out.2, words_length hij]; exact hqL)).1
                              rw [upd_other _ _ HRi.out.2, words_getD hij hqL] at cgi
                              clear hc2 hA2
                              go_wp2_with fail
                              go_quiet (fail)
                              go_wp2
                              go_roundg (L i - (q2 + 1))
                              case measure => omega
                              case rel => exact ⟨q2 + 1, by omega, rfl, by go_num, _, rfl⟩
                            · obtain ⟨Li, hLi2⟩ : ∃ Li, L i = Li := ⟨_, rfl⟩
                              obtain rfl : q2 = L i := by omega
                              have hqLi : ¬ (L i : Int) < (L i : Int) := by omega
                              clear hLi2
                              go_wp2
                              go_roundg (j - (i + 1))
                              case measure => omega
                              case rel => exact ⟨i + 1, by omega, rfl, by go_num, _, rfl⟩
                      · obtain rfl : i = j := by omega
                        have hiji : ¬ (i : Int) < (i : Int) := by omega
                        by_cases hli2 : l = i
                        · subst hli2
                          go_wp2
                          go_ret
                          exact ⟨rfl, below_drewN HB2.out _⟩
                        · have hlii : ((l : Int) == (i : Int)) = false := by simp only [beq_eq_false_iff_ne, ne_eq]; omega
                          have hin' : i < n := by omega
                          obtain ⟨ai, capi, hRi⟩ := HF.out.2.form hin'
                          rw [upd_other _ _ (fun e => hli2 e.symm), show (words L Z i i).length = 0 by simp [words]] at hRi
                          have cRi : W7.cell? ⟨W1.heap.size, i, none⟩ = some (.slice ai 0 capi) := by rw [← hRi]; exact HF.out.2.row.cell hin'
                          have HLI : Hid (¬ l = i) := hli2
                          have hi0 : (0 : Int) ≤ (i : Int) := by omega
                          have hlii2 : ¬ (l : Int) = (i : Int) := by omega
                          clear hRi hli2
                          go_wp2
                          go_ret
                          exact ⟨rfl, below_drewN HB2.out _⟩
end Go.Proofs.Ybulkdgjy
