import Derived.Test.YbulkdgouLawE
namespace Go.Proofs.Ybulkdgou
open Go.RowKit
attribute [local go_sem ↓] Go.wp_at_zero Go.wp_at_succ
namespace SortA

set_option maxHeartbeats 40000000 in
set_option maxRecDepth 100000 in
theorem law_any (n pl mcap pcap ma moff sel pre : Nat) (ap : Option Addr) (M P : Nat → Nat) (w : World) (hn1 : 1 ≤ n) (hn2 : n ≤ 256) (hpl : pl ≤ 1024) (hsel : sel ≤ 255) (hpre : pre ≤ 255) (hma : ma < w.heap.size)
    (HM : Hid (∀ i, i < n → w.cell? ⟨ma, moff + i, none⟩ = some (.int .u8 (M i : Int)) ∧ M i ≤ 255)) (HP : Hid (0 < pl → ∃ pb poff, ap = some ⟨pb, poff, none⟩ ∧ pb < w.heap.size ∧ ∀ i, i < pl → w.cell? ⟨pb, poff + i, none⟩ = some (.int .u8 (P i : Int)) ∧ P i ≤ 255)) :
    Calls Yba.prog 5 #[.slice (some ⟨ma, moff, none⟩) n mcap, .slice ap pl pcap, .int .u8 (sel : Int), .int .u8 (pre : Int)] w fun e w' => e = .returned (.bool true) ∧ Below w.heap.size w w' := by
  have t1 : ((n : Int) == 0) = false := by simp; omega
  have t2 : decide ((256 : Int) < (n : Int)) = false := decide_eq_false (by omega)
  have t3 : decide ((1024 : Int) < (pl : Int)) = false := decide_eq_false (by omega)
  have t2' : ¬ (256 : Int) < (n : Int) := by omega
  have t3' : ¬ (1024 : Int) < (pl : Int) := by omega
  have hmk := run_mk41 n hn2
  have HL0 : Hid (L1 w n M 0 (fun _ => none) (fun _ => 0) (fun _ => 0) (w.alloc (.cells (madeCells #[.slice none 0 0, .string ByteArray.empty, .int .i64 0, .slice none 0 0, .int .i64 0, .string ByteArray.empty] (n * 6)) 41))) := L1.start w n M
  go_enter Yba.func5, Yba.ntmps5
  go_upto_block 0 with (fail)
  go_cut [11] from 72 to 90 (fun _ wc => ∃ zp zl zc, L1 w n M n zp zl zc wc)
  case first =>
    as_aux_lemma =>
      go_wp2_with fail
      go_loopg [11] n (fun gk s11 wr => ∃ (i : Nat) (zp : Nat → Option Addr) (zl zc : Nat → Nat), i ≤ n ∧ gk = n - i ∧ s11 = .int .i64 (i : Int) ∧ L1 w n M i zp zl zc wr)
      case atStart => exact ⟨0, _, _, _, Nat.zero_le _, rfl, rfl, HL0.out⟩
      case round =>
        obtain ⟨i, zp, zl, zc, hi, rfl, rfl, hs⟩ := hrel
        have HS : Hid (L1 w n M i zp zl zc wr) := hs
        by_cases hlt : i < n
        · have hlti : (i : Int) < (n : Int) := by omega
          have c1 : wr.cell? ⟨ma, moff + i, none⟩ = some (.int .u8 (M i : Int)) := (hs.bel.cell (p := ⟨ma, moff + i, none⟩) hma).trans (HM.out i hlt).1
          have hM := (HM.out i hlt).2
          have hbl := hs.row.lt
          have hmaw : ma < wr.heap.size := by omega
          obtain ⟨mi, hmi⟩ : ∃ mi, M i = mi := ⟨_, rfl⟩
          have HMI : Hid (M i = mi) := hmi
          rw [hmi] at c1 hM
          clear hs hmi
          go_wp2_with fail
          go_region_held3 (fun w' => w'.cell? ⟨ma, moff + i, none⟩ = some (.int .u8 (mi : Int))) (first | go_simp | exact s1) (first
            | (go_at_call 9
               refine (zones_any mi _ hM).mono ?_
               rintro e w1 ⟨v, rfl, hzg⟩
               have HZ : Hid (Zg wr w1 v (zlist mi 8)) := ⟨⟨hzg.below.os, hzg.below.tape, hzg.below.output, hzg.below.size, hzg.below.block⟩, hzg.own, hzg.nil⟩
               have s1 : w1.cell? ⟨ma, moff + i, none⟩ = some (.int .u8 (mi : Int)) := (HZ.out.below.cell (p := ⟨ma, moff + i, none⟩) hmaw).trans c1
               have hr1 : w1.rowIs w.heap.size 41 (n * 6) (MR (fun x => .slice (zp x) (zl x) (zc x)) M i) := HS.out.row.of_block (HZ.out.below.block _ hbl)
               have y0 : w1.cell? ⟨w.heap.size, i * 6, none⟩ = some (.slice none 0 0) := mr_zero (r := 0) hr1 hlt (by omega)
               have y1 : w1.cell? ⟨w.heap.size, i * 6 + 1, none⟩ = some (.string ByteArray.empty) := mr_zero (r := 1) hr1 hlt (by omega)
               have y2 : w1.cell? ⟨w.heap.size, i * 6 + 2, none⟩ = some (.int .i64 0) := mr_zero (r := 2) hr1 hlt (by omega)
               have y3 : w1.cell? ⟨w.heap.size, i * 6 + 3, none⟩ = some (.slice none 0 0) := mr_zero (r := 3) hr1 hlt (by omega)
               have y4 : w1.cell? ⟨w.heap.size, i * 6 + 4, none⟩ = some (.int .i64 0) := mr_zero (r := 4) hr1 hlt (by omega)
               have y5 : w1.cell? ⟨w.heap.size, i * 6 + 5, none⟩ = some (.string ByteArray.empty) := mr_zero (r := 5) hr1 hlt (by omega)
               have yf : ∀ o, w1.frozen? ⟨w.heap.size, o, none⟩ = false := fun o => hr1.frozen o
               obtain ⟨vp, vc, hvf⟩ := owns_form hzg.own
               obtain ⟨vl, hvl⟩ : ∃ vl, (zlist mi 8).length = vl := ⟨_, rfl⟩
               rw [hvl] at hvf
               subst hvf
               clear hzg hr1 hvl))
          go_wp2_with fail
          go_roundg (n - (i + 1))
          case measure => omega
          case rel =>
            have hz := HZ.out
            rw [← HMI.out] at hz
            obtain ⟨zp', zl', zc', h⟩ := HS.out.next hlt hz
            rw [HMI.out] at h
            exact ⟨i + 1, zp', zl', zc', by omega, rfl, by go_num, h⟩
        · obtain rfl : i = n := by omega
          have hlti : ¬ (i : Int) < (i : Int) := by omega
          clear hs
          go_wp2_with fail
          go_meet
          case rel => exact ⟨_, _, _, HS.out⟩
  case rest =>
    obtain ⟨zp, zl, zc, hL1⟩ := hcut
    obtain ⟨V, hV⟩ : ∃ V, V = wc := ⟨_, rfl⟩
    subst hV
    have HV : Hid (L1 w n M n zp zl zc V) := hL1
    have hVs := hL1.row.lt
    have hmk2 := run_make_row' (P := Yba.prog) 42 4 (.bool false) 1 Yba.underlying42 info4 rfl .i64 .i64 n (by omega) (by omega)
    have HL2 : Hid (L2 V n P 0 (.slice none 0 0) (V.alloc (.cells (madeCells #[.bool false] n) 4))) := L2.start V n P
    clear hL1 hmk HL0 t1 t2 t3 t2' t3'
    go_upto_block 2 with (fail)
    go_cut [13, 15, 16] from 95 to 115 (fun s13 _ _ wc => L2 V n P pl s13 wc)
    case first =>
      as_aux_lemma =>
        go_wp2_with fail
        by_cases hp0 : pl = 0
        · subst hp0
          go_loopg [13, 95] 0 (fun gk s13 s95 wr => gk = 0 ∧ s13 = .slice none 0 0 ∧ s95 = .int .i64 0 ∧ wr = V.alloc (.cells (madeCells #[.bool false] n) 4))
          case atStart => exact ⟨rfl, rfl, rfl, rfl⟩
          case round =>
            obtain ⟨rfl, rfl, rfl, rfl⟩ := hrel
            go_wp2_with fail
            go_meet
            case rel => exact HL2.out
        · obtain ⟨pb, poff, rfl, hpb, hpc⟩ := HP.out (by omega)
          have HPC : Hid (∀ i, i < pl → w.cell? ⟨pb, poff + i, none⟩ = some (.int .u8 (P i : Int)) ∧ P i ≤ 255) := hpc
          clear hpc
          go_loopg [13, 95] pl (fun gk s13 s95 wr => ∃ i : Nat, i ≤ pl ∧ gk = pl - i ∧ s95 = .int .i64 (i : Int) ∧ L2 V n P i s13 wr)
          case atStart => exact ⟨0, Nat.zero_le _, rfl, rfl, HL2.out⟩
          case round =>
            obtain ⟨i, hi, rfl, rfl, hs⟩ := hrel
            have HS : Hid (L2 V n P i u13 wr) := hs
            by_cases hlt : i < pl
            · have hlti : (i : Int) < (pl : Int) := by omega
              have c1 : wr.cell? ⟨pb, poff + i, none⟩ = some (.int .u8 (P i : Int)) := (hs.bel.cell (p := ⟨pb, poff + i, none⟩) (by show pb < _; omega)).trans ((HV.out.bel.cell (p := ⟨pb, poff + i, none⟩) hpb).trans (HPC.out i hlt).1)
              have hP := (HPC.out i hlt).2
              obtain ⟨m, hm⟩ : ∃ m, P i % n = m := ⟨_, rfl⟩
              have HMM : Hid (P i % n = m) := hm
              have hmn : m < n := by rw [← hm]; exact Nat.mod_lt _ (by omega)
              have hmni : (m : Int) < (n : Int) := by omega
              have hmodi : ((P i : Int)) % (n : Int) = (m : Int) := by rw [← hm]; simp
              have c2 := hs.seen.cell hmn
              have f2 := hs.seen.frozen m
              have hsl := hs.seen.lt
              have HO : Hid (wr.ownsRow (V.heap.size + 1) 3 1 u13 (ord n P i).length ((ord n P i).map fun (z : Nat) => Value.int .i64 (z : Int))) := hs.own
              obtain ⟨pi, hpi⟩ : ∃ pi, P i = pi := ⟨_, rfl⟩
              rw [hpi] at c1 hP hmodi
              obtain ⟨ln, hln⟩ : ∃ ln, (ord n P i).length = ln := ⟨_, rfl⟩
              have hln2 : ln ≤ 256 := by rw [← hln]; exact Nat.le_trans (nodup_len (ord_nodup n P i) (ord_lt n P hn1 i)) hn2
              have HLN : Hid ((ord n P i).length = ln) := hln
              rw [hln] at HO
              clear hs hm hpi hln
              by_cases hin : m ∈ ord n P i
              · have hd : decide (m ∈ ord n P i) = true := decide_eq_true hin
                rw [hd] at c2
                have HIN : Hid (m ∈ ord n P i) := hin
                clear hin hd
                go_wp2_with fail
                go_roundg (pl - (i + 1))
                case measure => omega
                case rel => exact ⟨i + 1, by omega, rfl, by go_num, HS.out.skip (by rw [HMM.out]; exact HIN.out)⟩
              · have hd : decide (m ∈ ord n P i) = false := decide_eq_false hin
                rw [hd] at c2
                have HIN : Hid (¬ m ∈ ord n P i) := hin
                clear hin hd
                obtain ⟨ii, hi0, hz0, hz1, hz2⟩ := info_parts info3
                have HO2 : Hid (((wr.setCell ⟨V.heap.size, m, none⟩ (.bool true)).alloc (.cells #[.int .i64 (m : Int)] 3)).ownsRow (V.heap.size + 1) 3 1 u13 ln ((ord n P i).map fun (z : Nat) => Value.int .i64 (z : Int))) := World.ownsRow.alloc (owns_of_block HO.out (fun g hg => Below.heap_setCell _ _ _ _ (by have := (HO.out.lt g hg).1; show g ≠ V.heap.size; omega))) _
                go_wp2_with (at_builtin
                             refine wpList_append_lies _ rfl _ _ _ rfl (V.heap.size + 1) 3 ii (.int .i64 0) 1 8 Yba.underlying22 hi0 hz0 hz1 hz2 rfl (by omega) u13 ln _ rfl HO2.out ⟨wr.heap.size, 0, none⟩ 1 1 [.int .i64 (m : Int)] rfl rfl (World.news_of_block (cs := #[.int .i64 (m : Int)]) (by have h := Go.Deep.blk_alloc_new (wr.setCell ⟨V.heap.size, m, none⟩ (.bool true)) (.cells #[.int .i64 (m : Int)] 3); rw [World.size_setCell] at h; exact h)) (by simp [Value.oneCell']) (by omega) (by unfold maxLen; omega) (by omega) (by simp; omega) (wr.heap.size + 1) (by simp) ?_
                             intro g7 cap7 w7 hown7 hgrow7 hat7 hlt7
                             have H7 : Hid (L2 V n P (i + 1) (.slice (some ⟨g7, 0, none⟩) (ln + 1) cap7) w7) := by
                               have h := HS.out.take (g := g7) (cap := cap7) HMM.out (by rw [HMM.out]; exact HIN.out) hgrow7
                               rw [HLN.out] at h
                               exact h hown7
                             clear hown7 hgrow7 hat7 hlt7)
                go_roundg (pl - (i + 1))
                case measure => omega
                case rel => exact ⟨i + 1, by omega, rfl, by go_num, H7.out⟩
            · obtain rfl : i = pl := by omega
              have hlti : ¬ (i : Int) < (i : Int) := by omega
              clear hs
              go_wp2_with fail
              go_meet
              case rel => exact HS.out
    case rest =>
      have HL : Hid (L2 V n P pl u13 wc) := hcut
      have c0 := hcut.seen.cell (i := 0) (by omega)
      have f0 := hcut.seen.frozen 0
      have hsl := hcut.seen.lt
      obtain ⟨p13, c13, h13⟩ := owns_form hcut.own
      obtain ⟨ln, hln⟩ : ∃ ln, (ord n P pl).length = ln := ⟨_, rfl⟩
      have HLN : Hid ((ord n P pl).length = ln) := hln
      rw [hln] at h13
      subst h13
      have h0n : (0 : Int) < (n : Int) := by omega
      clear hcut hln hmk2 HL2
      go_upto_if 118 with (fail)
      go_cut [13] from 116 to 121 (fun s13 wc => ∃ O, L3 V n O s13 wc)
      case first =>
        as_aux_lemma =>
          by_cases hl0 : ln = 0
          · have hl0i : ((ln : Int) == 0) = true := by simp [hl0]
            have hz0 : (ord n P pl).length = 0 := by rw [HLN.out]; exact hl0
            have HZ0 : Hid ((ord n P pl).length = 0) := hz0
            clear hl0 hz0
            go_wp2_with fail
            go_meet
            case rel => exact ⟨[0], L3.zero HL.out hn1 HZ0.out⟩
          · have hl0i : ((ln : Int) == 0) = false := by simp; omega
            have hz0 : 0 < (ord n P pl).length := by rw [HLN.out]; omega
            have HZ0 : Hid (0 < (ord n P pl).length) := hz0
            clear hl0 hz0
            go_wp2_with fail
            go_meet
            case rel => exact ⟨_, L3.of HL.out hn1 HZ0.out⟩
      case rest =>
        obtain ⟨O, hL3⟩ := hcut
        obtain ⟨U, hU⟩ : ∃ U, U = wc := ⟨_, rfl⟩
        subst hU
        have HU : Hid (L3 V n O u13 U) := hL3
        obtain ⟨ob, oc, h13, hob1, hob2⟩ := hL3.own.form hL3.pos
        obtain ⟨L, hL⟩ : ∃ L, O.length = L := ⟨_, rfl⟩
        have HLE : Hid (O.length = L) := hL
        have hL1' : 1 ≤ L := by rw [← hL]; exact hL3.pos
        have hL2' : L ≤ 256 := by rw [← hL]; exact Nat.le_trans (nodup_len hL3.nd hL3.lt) hn2
        rw [hL] at h13
        subst h13
        have HOC : Hid (∀ i, i < L → U.cell? ⟨ob, i, none⟩ = some (.int .i64 ((O.getD i 0 : Nat) : Int))) := by
          have h := hL3.own
          rw [hL] at h
          exact fun i hi => (prow_of_owns hL.symm h).1.cell hi
        obtain ⟨id, hid⟩ : ∃ id, sel % 3 = id := ⟨_, rfl⟩
        have hid3 : id < 3 := by rw [← hid]; omega
        have hidi : ((sel : Int)) % 3 = (id : Int) := by rw [← hid]; simp
        have hmk44 := run_mk44 L (by omega)
        have HAR : Hid ((U.alloc (.cells (madeCells #[.int .i64 0, .int .i64 0] (L * 2)) 44)).rowIs U.heap.size 44 (L * 2) (AR id (fun i => O.getD i 0) 0)) := ar_made U L id _
        clear hL3 hL hid HL c0 f0 HLN
        go_upto_block 4 with (fail)
        rw [hidi]
        clear hidi
        go_cut [19, 20] from 130 to 141 (fun _ _ wc => Below U.heap.size U wc ∧ wc.rowIs U.heap.size 44 (L * 2) (AR id (fun i => O.getD i 0) L))
        case first =>
          as_aux_lemma =>
            go_wp2_with fail
            go_loopg [130] L (fun gk s130 wr => ∃ i : Nat, i ≤ L ∧ gk = L - i ∧ s130 = .int .i64 (i : Int) ∧ Below U.heap.size U wr ∧ wr.rowIs U.heap.size 44 (L * 2) (AR id (fun i => O.getD i 0) i))
            case atStart => exact ⟨0, Nat.zero_le _, rfl, rfl, (Below.refl _ _).alloc (Nat.le_refl _) _, HAR.out⟩
            case round =>
              obtain ⟨i, hi, rfl, rfl, hb, hr⟩ := hrel
              have HB : Hid (Below U.heap.size U wr ∧ wr.rowIs U.heap.size 44 (L * 2) (AR id (fun i => O.getD i 0) i)) := ⟨hb, hr⟩
              by_cases hlt : i < L
              · have hlti : (i : Int) < (L : Int) := by omega
                obtain ⟨oi, hoi⟩ : ∃ oi, O.getD i 0 = oi := ⟨_, rfl⟩
                have HOI : Hid (O.getD i 0 = oi) := hoi
                have c1 : wr.cell? ⟨ob, i, none⟩ = some (.int .i64 (oi : Int)) := by rw [← hoi]; exact (hb.cell (p := ⟨ob, i, none⟩) hob2).trans (HOC.out i hlt)
                have y0 : wr.cell? ⟨U.heap.size, i * 2, none⟩ = some (.int .i64 0) := ar_zero (r := 0) hr hlt (by omega)
                have y1 : wr.cell? ⟨U.heap.size, i * 2 + 1, none⟩ = some (.int .i64 0) := ar_zero (r := 1) hr hlt (by omega)
                have yf : ∀ o, wr.frozen? ⟨U.heap.size, o, none⟩ = false := fun o => hr.frozen o
                clear hb hr hoi
                go_wp2_with fail
                go_roundg (L - (i + 1))
                case measure => omega
                case rel =>
                  refine ⟨i + 1, by omega, rfl, by go_num, (HB.out.1.setCell (p := ⟨U.heap.size, i * 2, none⟩) (Nat.le_refl _) _).setCell (p := ⟨U.heap.size, i * 2 + 1, none⟩) (Nat.le_refl _) _, ?_⟩
                  have h := ar_next HB.out.2
                  rw [HOI.out] at h
                  exact h
              · obtain rfl : L = i := by omega
                have hlti : ¬ (L : Int) < (L : Int) := by omega
                clear hb hr
                go_wp2_with fail
                go_meet
                case rel => exact HB.out
        case rest =>
          obtain ⟨hbA, hrA⟩ := hcut
          obtain ⟨A, hA⟩ : ∃ A, A = wc := ⟨_, rfl⟩
          subst hA
          have HA : Hid (Below U.heap.size U A ∧ A.rowIs U.heap.size 44 (L * 2) (AR id (fun i => O.getD i 0) L)) := ⟨hbA, hrA⟩
          have hAs := hrA.lt
          have hmk46 := run_make_row' (P := Yba.prog) 46 22 (.slice none 0 0) 24 Yba.underlying46 info22 rfl .i64 .i64 n (by omega) (by omega)
          have hmk62 := run_mk62
          obtain ⟨g0, hg0⟩ : ∃ g0, pre % 4 = g0 := ⟨_, rfl⟩
          have hg03 : g0 ≤ 3 := by rw [← hg0]; omega
          have hg0i : ((pre : Int)) % 4 = (g0 : Int) := by rw [← hg0]; simp
          clear hbA hrA hmk44 HAR hg0
          go_upto_region 30 with (fail)
          rw [hg0i]
          clear hg0i
          go_cut [22] from 145 to 150 (fun s22 wc => ∃ rp sb tb, s22 = .pointer (some ⟨rp, 0, none⟩) ∧ Rch A n w.heap.size rp sb tb wc)
          case first =>
            go_region
            · go_wp2_with fail
              go_meet
              case rel => exact ⟨_, _, _, rfl, (Rch.one A n w.heap.size).drew⟩
            · go_wp2_with fail
              go_meet
              case rel => exact ⟨_, _, _, rfl, (Rch.two A n w.heap.size).drew⟩
          case rest =>
            obtain ⟨rp, sb, tb, rfl, hR⟩ := hcut
            obtain ⟨B, hB⟩ : ∃ B, B = wc := ⟨_, rfl⟩
            subst hB
            have HR : Hid (Rch A n w.heap.size rp sb tb B) := hR
            have hBs := hR.sz
            have hrpE := hR.hrp
            have hsbE := hR.hsb
            have htbE := hR.htb
            have hsbB : sb < B.heap.size := by omega
            have hrpB : rp < B.heap.size := by omega
            have hrsb : rp ≠ sb := by omega
            have HRR : Hid (B.rowIs rp 55 13 (RF w.heap.size sb tb n)) := hR.rrow
            have HSR : Hid (B.rowIs sb 22 n (fun _ => .slice none 0 0)) := hR.srow
            have HNB : Hid (rp = A.heap.size + 2 ∧ (sb = A.heap.size ∨ sb = A.heap.size + 1) ∧ (tb = A.heap.size ∨ tb = A.heap.size + 1) ∧ B.heap.size = A.heap.size + 3) := ⟨hrpE, hsbE, htbE, hBs⟩
            clear hR hmk46 hmk62 hrpE hsbE htbE hBs
            go_upto_block 6 with (fail)
            go_cut [23] from 151 to 165 (fun _ wc => L6 B n sb n wc)
            case first =>
              as_aux_lemma =>
                go_wp2_with fail
                go_loopg [23] n (fun gk s23 wr => ∃ i : Nat, i ≤ n ∧ gk = n - i ∧ s23 = .int .i64 (i : Int) ∧ L6 B n sb i wr)
                case atStart => exact ⟨0, Nat.zero_le _, rfl, rfl, Fr.refl _ _, rfl, HSR.out.congr fun x _ => by simp, fun x hx => by omega⟩
                case round =>
                  obtain ⟨i, hi, rfl, rfl, hs⟩ := hrel
                  have HS : Hid (L6 B n sb i wr) := hs
                  by_cases hlt : i < n
                  · have hlti : (i : Int) < (n : Int) := by omega
                    have hrr : wr.rowIs rp 55 13 (RF w.heap.size sb tb n) := HRR.out.of_block (hs.fr.block _ hrpB hrsb)
                    have c1 : wr.cell? ⟨rp, 1, none⟩ = some (.slice (some ⟨sb, 0, none⟩) n n) := hrr.cell (i := 1) (by omega)
                    have c2 := hs.row.cell hlt
                    rw [if_neg (by omega)] at c2
                    have f2 := hs.row.frozen i
                    have hsbw : sb < wr.heap.size := by have := hs.sz; omega
                    have hrpw : rp < wr.heap.size := by have := hs.sz; omega
                    obtain ⟨vi, hvi, hvi2⟩ : ∃ vi : Nat, (i : Int) % 3 + 10 = (vi : Int) ∧ i % 3 + 10 = vi := ⟨i % 3 + 10, by omega, rfl⟩
                    have HVI : Hid (i % 3 + 10 = vi) := hvi2
                    have hvi3 : vi ≤ 12 := by omega
                    have hwv : IntKind.i64.wrap (vi : Int) = (vi : Int) := by rw [IntKind.wrap_i64]; omega
                    clear hs hrr hvi2
                    go_wp2_with fail
                    go_roundg (n - (i + 1))
                    case measure => omega
                    case rel => exact ⟨i + 1, by omega, rfl, by go_num, HS.out.next hsbB _ (by rw [HVI.out])⟩
                  · obtain rfl : i = n := by omega
                    have hlti : ¬ (i : Int) < (i : Int) := by omega
                    clear hs
                    go_wp2_with fail
                    go_meet
                    case rel => exact HS.out
            case rest =>
              obtain ⟨C, hC⟩ : ∃ C, C = wc := ⟨_, rfl⟩
              subst hC
              have HC : Hid (L6 B n sb n C) := hcut
              have hCs := hcut.sz
              have hrpC : rp < C.heap.size := by omega
              have HRC : Hid (C.rowIs rp 55 13 (RF w.heap.size sb tb n)) := HRR.out.of_block (hcut.fr.block _ hrpB hrsb)
              have HCS : Hid (C.heap.size = B.heap.size + n) := hCs
              clear hcut hCs
              go_upto_block 8 with (fail)
              go_cut [24] from 166 to 180 (fun _ wc => ∃ gv vs, L8 C rp (RF w.heap.size sb tb n) g0 gv vs wc)
              case first =>
                as_aux_lemma =>
                  go_wp2_with fail
                  go_loopg [24] g0 (fun gk s24 wr => ∃ (i : Nat) (gv : Value) (vs : List Value), i ≤ g0 ∧ gk = g0 - i ∧ s24 = .int .i64 (i : Int) ∧ L8 C rp (RF w.heap.size sb tb n) i gv vs wr)
                  case atStart => exact ⟨0, .slice none 0 0, [], Nat.zero_le _, rfl, rfl, Fr.refl _ _, HRC.out.congr (fun j _ => by by_cases e : j = 11; subst e; rfl; simp [e]), World.ownsRow_nil _ _ _ _, fun _ => rfl, fun g hg => by omega⟩
                  case round =>
                    obtain ⟨i, gv, vs, hi, rfl, rfl, hs⟩ := hrel
                    have HS : Hid (L8 C rp (RF w.heap.size sb tb n) i gv vs wr) := hs
                    by_cases hlt : i < g0
                    · have hlti : (i : Int) < (g0 : Int) := by omega
                      obtain ⟨gp, gc, hgf⟩ := owns_form hs.own
                      subst hgf
                      have c1 : wr.cell? ⟨rp, 11, none⟩ = some (.slice gp i gc) := hs.row.cell (i := 11) (by omega)
                      have f1 : wr.frozen? ⟨rp, 11, none⟩ = false := hs.row.frozen 11
                      have hrpw : rp < wr.heap.size := hs.row.lt
                      have HO : Hid (wr.ownsRow C.heap.size 22 1 (.slice gp i gc) i vs) := hs.own
                      have hCw := hs.fr.size
                      obtain ⟨ii, hi0, hz0, hz1, hz2⟩ := info_parts info22
                      clear hs
                      go_wp2_with (at_builtin
                                   refine wpList_append_lies _ rfl _ _ _ rfl C.heap.size 22 ii (.slice none 0 0) 1 24 Yba.underlying46 hi0 hz0 hz1 hz2 rfl (by omega) (.slice gp i gc) i _ rfl ((HO.out.alloc _).alloc _) ⟨wr.heap.size + 1, 0, none⟩ 1 1 [.slice (some ⟨wr.heap.size, 0, none⟩) 1 1] rfl rfl (World.news_of_block (cs := #[.slice (some ⟨wr.heap.size, 0, none⟩) 1 1]) (by have h := Go.Deep.blk_alloc_new (wr.alloc (.cells #[.int .i64 0] 3)) (.cells #[.slice (some ⟨wr.heap.size, 0, none⟩) 1 1] 22); rw [World.size_alloc] at h; exact h)) (by simp [Value.oneCell']) (by omega) (by unfold maxLen; omega) (by omega) (by simp; omega) (wr.heap.size + 2) (by simp) ?_
                                   intro g7 cap7 w7 hown7 hgrow7 hat7 hlt7
                                   have hne7 : some rp ≠ (Value.slice gp i gc).ownBlock := fun e => by have := (HO.out.lt _ e.symm).1; omega
                                   have hb7 : w7.heap[rp]? = wr.heap[rp]? := by rw [hgrow7.block rp (by simp; omega) hne7, Below.heap_alloc _ _ _ (by simp; omega), Below.heap_alloc _ _ _ hrpw]
                                   have c7 : w7.cell? ⟨rp, 11, none⟩ = some (.slice gp i gc) := (World.cell?_of_block (a := ⟨rp, 11, none⟩) hb7).trans c1
                                   have f7 : w7.frozen? ⟨rp, 11, none⟩ = false := (World.frozen?_of_block (a := ⟨rp, 11, none⟩) hb7).trans f1
                                   have H7 : Hid (L8 C rp (RF w.heap.size sb tb n) (i + 1) (.slice (some ⟨g7, 0, none⟩) (i + 1) cap7) (vs ++ [.slice (some ⟨wr.heap.size, 0, none⟩) 1 1]) (w7.setCell ⟨rp, 11, none⟩ (.slice (some ⟨g7, 0, none⟩) (i + 1) cap7))) := HS.out.next hrpC hgrow7 hat7 hown7
                                   clear hown7 hgrow7 hat7 hlt7 hne7 hb7)
                      go_roundg (g0 - (i + 1))
                      case measure => omega
                      case rel => exact ⟨i + 1, _, _, by omega, rfl, by go_num, H7.out⟩
                    · obtain rfl : g0 = i := by omega
                      have hlti : ¬ (g0 : Int) < (g0 : Int) := by omega
                      clear hs
                      go_wp2_with fail
                      go_meet
                      case rel => exact ⟨_, _, HS.out⟩
              case rest =>
                obtain ⟨gv, vs, hL8⟩ := hcut
                obtain ⟨D, hD⟩ : ∃ D, D = wc := ⟨_, rfl⟩
                subst hD
                have hlaid : Laid w V U A B C D n M O id g0 rp sb tb ob L oc zp zl zc gv vs := ⟨hn1, hn2, fun i hi => (HM.out i hi).2, HV.out, HU.out, HLE.out, hid3, hg03, HA.out, HR.out, HC.out, hL8⟩
                have HLD : Hid (Laid w V U A B C D n M O id g0 rp sb tb ob L oc zp zl zc gv vs) := hlaid
                have HADD : Hid (Calls Yba.prog 10 #[.pointer (some ⟨rp, 0, none⟩), .slice (some ⟨U.heap.size, 0, none⟩) L L] D fun e w' => e = .returned (.tuple #[]) ∧ Post (cfOf w U B n M O id g0 rp sb tb L zp zl zc) D.heap.size (gbOf V gv) vs TF D w') :=
                  addSite_any (cfOf w U B n M O id g0 rp sb tb L zp zl zc) (gbOf V gv) (fun j => if j = 11 then gv else RF w.heap.size sb tb n j) vs gv D hlaid.ok hlaid.gb.1 hlaid.gb.2 hlaid.fix hlaid.so hL8.row rfl TF hlaid.trow hlaid.own hlaid.gbs
                clear hlaid hL8 HRC HRR HSR
                go_upto_region 39 with (fail)
                go_cut [] from 181 to 183 (fun wc => Fin w wc n L id g0 ma moff V.heap.size U.heap.size ob rp sb tb M O)
                case first =>
                  go_wp2_with (first | (go_at_call 10; refine HADD.out.mono ?_; rintro e w1 ⟨rfl, hpost⟩; have HPO : Hid (Post (cfOf w U B n M O id g0 rp sb tb L zp zl zc) D.heap.size (gbOf V gv) vs TF D w1) := hpost; clear hpost))
                  go_meet
                  case rel => exact HLD.out.fin hma (fun i hi => (HM.out i hi).1) HPO.out
                case rest =>
                  obtain ⟨E, hE⟩ : ∃ E, E = wc := ⟨_, rfl⟩
                  subst hE
                  have HE : Hid (Fin w E n L id g0 ma moff V.heap.size U.heap.size ob rp sb tb M O) := hcut
                  have hLn := nodup_len HU.out.nd HU.out.lt
                  have HOL : Hid (O.length = L ∧ (∀ x ∈ O, x < n) ∧ O.Nodup) := ⟨HLE.out, HU.out.lt, HU.out.nd⟩
                  clear hcut HADD HLD HC HR HA HU HV HCS HNB HLE HOC hsbB hrpB hrsb hrpC hAs hob1 hob2 hLn hsl hVs h0n
                  obtain ⟨sv, hsv⟩ : ∃ sv, V.heap.size = sv := ⟨_, rfl⟩
                  obtain ⟨ab, hab⟩ : ∃ ab, U.heap.size = ab := ⟨_, rfl⟩
                  rw [hsv, hab] at HE
                  rw [hsv, hab]
                  clear hsv hab
                  have q1 := HE.out.r1
                  have q2 := HE.out.r2
                  go_upto_block 10 with (fail)
                  go_cut [25, 26] from 184 to 224 (fun _ _ wc => wc = E)
                  case first =>
                    as_aux_lemma =>
                      go_wp2_with fail
                      go_loopg [25] n (fun gk s25 wr => ∃ i : Nat, i ≤ n ∧ gk = n - i ∧ s25 = .int .i64 (i : Int) ∧ wr = E)
                      case atStart => exact ⟨0, Nat.zero_le _, rfl, rfl, rfl⟩
                      case round =>
                        obtain ⟨i, hi, rfl, rfl, rfl⟩ := hrel
                        by_cases hlt : i < n
                        · have hlti : (i : Int) < (n : Int) := by omega
                          obtain ⟨b, cc, s1, s2, s3⟩ := HE.out.site i hlt
                          have s4 := HE.out.seen i hlt
                          obtain ⟨vi, hvi, hvi2⟩ : ∃ vi : Nat, (i : Int) % 3 + 10 = (vi : Int) ∧ i % 3 + 10 = vi := ⟨i % 3 + 10, by omega, rfl⟩
                          have hwv : IntKind.i64.wrap (vi : Int) = (vi : Int) := by rw [IntKind.wrap_i64]; omega
                          rw [hvi2] at s2
                          have hveq : ((vi : Int) == (vi : Int)) = true := by simp
                          have hideq : ((id : Int) == (id : Int)) = true := by simp
                          clear hvi2
                          by_cases hx : i ∈ O
                          · have s5 := s3 hx
                            rw [if_pos hx] at s1
                            rw [decide_eq_true hx] at s4
                            clear s3 hx
                            go_wp2_with fail
                            go_roundg (n - (i + 1))
                            case measure => omega
                            case rel => exact ⟨i + 1, by omega, rfl, by go_num, rfl⟩
                          · rw [if_neg hx] at s1
                            rw [decide_eq_false hx] at s4
                            clear s3 hx
                            go_wp2_with fail
                            go_roundg (n - (i + 1))
                            case measure => omega
                            case rel => exact ⟨i + 1, by omega, rfl, by go_num, rfl⟩
                        · obtain rfl : i = n := by omega
                          have hlti : ¬ (i : Int) < (i : Int) := by omega
                          go_wp2_with fail
                          go_meet
                          case rel => rfl
                  case rest =>
                    replace hcut := hcut.symm
                    subst hcut
                    go_upto_block 12 with (fail)
                    go_cut [27, 28] from 227 to 240 (fun _ _ wc => wc = E)
                    case first =>
                      as_aux_lemma =>
                        go_wp2_with fail
                        go_loopg [227] L (fun gk s227 wr => ∃ i : Nat, i ≤ L ∧ gk = L - i ∧ s227 = .int .i64 (i : Int) ∧ wr = E)
                        case atStart => exact ⟨0, Nat.zero_le _, rfl, rfl, rfl⟩
                        case round =>
                          obtain ⟨i, hi, rfl, rfl, rfl⟩ := hrel
                          by_cases hlt : i < L
                          · have hlti : (i : Int) < (L : Int) := by omega
                            have s1 := HE.out.ord i hlt
                            have s2 := HE.out.at0 i hlt
                            have s3 := HE.out.at1 i hlt
                            obtain ⟨oi, hoi⟩ : ∃ oi, O.getD i 0 = oi := ⟨_, rfl⟩
                            rw [hoi] at s1 s3
                            clear hoi
                            have hq := arr_eq wr id oi
                            have hq2 := arr_eqIn wr id oi
                            go_wp2_with fail
                            go_roundg (L - (i + 1))
                            case measure => omega
                            case rel => exact ⟨i + 1, by omega, rfl, by go_num, rfl⟩
                          · obtain rfl : L = i := by omega
                            have hlti : ¬ (L : Int) < (L : Int) := by omega
                            go_wp2_with fail
                            go_meet
                            case rel => rfl
                    case rest =>
                      replace hcut := hcut.symm
                      subst hcut
                      have HW0 : Hid (W14 E M O 0 (.slice none 0 0) (.slice none 0 0) (fun _ => .slice none 0 0) E) := W14.start E M O
                      obtain ⟨ii, hi0, hz0, hz1, hz2⟩ := info_parts info3
                      obtain ⟨i2, hj0, hy0, hy1, hy2⟩ := info_parts info22
                      go_upto_block 14 with (fail)
                      go_cut [29, 30, 31, 32, 34] from 241 to 273 (fun s29 s30 _ _ _ wc => ∃ val, W14 E M O 256 s29 s30 val wc)
                      case first =>
                        as_aux_lemma =>
                          go_wp2_with fail
                          go_loopg [29, 30, 31] 256 (fun gk s29 s30 s31 wr => ∃ (v : Nat) (val : Nat → Value), v ≤ 256 ∧ gk = 256 - v ∧ s31 = .int .i64 (v : Int) ∧ W14 E M O v s29 s30 val wr)
                          case atStart => exact ⟨0, _, by omega, rfl, rfl, HW0.out⟩
                          case round =>
                            obtain ⟨v, val, hv, rfl, rfl, hs⟩ := hrel
                            obtain ⟨W, hW⟩ : ∃ W : World, W = wr := ⟨_, rfl⟩
                            subst hW
                            have HS : Hid (W14 E M O v u29 u30 val W) := hs
                            have hEW := hs.bel.size
                            by_cases hlt : v < 256
                            · have hlti : (v : Int) < 256 := by omega
                              clear hs
                              go_upto_block 16 with (fail)
                              go_cut [32, 34] from 247 to 262 (fun s32 _ wc => W.grownBy wc none ∧ wc.ownsRow W.heap.size 3 1 s32 (fv M O v).length ((fv M O v).map fun (z : Nat) => Value.int .i64 (z : Int)))
                              case first =>
                                go_wp2_with fail
                                go_loopg [32, 247] L (fun gk s32 s247 wr => ∃ i : Nat, i ≤ L ∧ gk = L - i ∧ s247 = .int .i64 (i : Int) ∧ W.grownBy wr none ∧ wr.ownsRow W.heap.size 3 1 s32 (fv M (O.take i) v).length ((fv M (O.take i) v).map fun (z : Nat) => Value.int .i64 (z : Int)))
                                case atStart => exact ⟨0, Nat.zero_le _, rfl, rfl, grown_drewN W 0 none, World.ownsRow_nil _ _ _ _⟩
                                case round =>
                                  obtain ⟨i, hi, rfl, rfl, hg, ho⟩ := hrel
                                  have HB : Hid (W.grownBy wr none ∧ wr.ownsRow W.heap.size 3 1 u32 (fv M (O.take i) v).length ((fv M (O.take i) v).map fun (z : Nat) => Value.int .i64 (z : Int))) := ⟨hg, ho⟩
                                  by_cases hlt2 : i < L
                                  · have hlti2 : (i : Int) < (L : Int) := by omega
                                    have hb : Below E.heap.size E wr := HS.out.bel.grown hg hEW (fun k hk => by cases hk)
                                    have hiO : i < O.length := by rw [HOL.out.1]; exact hlt2
                                    obtain ⟨oi, hoi⟩ : ∃ oi, O.getD i 0 = oi := ⟨_, rfl⟩
                                    have HOI : Hid (O.getD i 0 = oi) := hoi
                                    have hon : oi < n := by rw [← hoi, getD_at hiO]; exact HOL.out.2.1 _ (List.getElem_mem hiO)
                                    have honi : (oi : Int) < (n : Int) := by omega
                                    have o1 := HE.out.ord i hlt2
                                    have o2 := HE.out.mask oi hon
                                    rw [hoi] at o1
                                    have s1 : wr.cell? ⟨ob, i, none⟩ = some (.int .i64 (oi : Int)) := (hb.cell (p := ⟨ob, i, none⟩) (World.block_lt_of_cell? E _ o1)).trans o1
                                    have s2 : wr.cell? ⟨ma, moff + oi, none⟩ = some (.int .u8 (M oi : Int)) := (hb.cell (p := ⟨ma, moff + oi, none⟩) (World.block_lt_of_cell? E _ o2)).trans o2
                                    have hMo := (HM.out oi hon).2
                                    obtain ⟨mo, hmo⟩ : ∃ mo, M oi = mo := ⟨_, rfl⟩
                                    have HMO : Hid (M oi = mo) := hmo
                                    rw [hmo] at s2 hMo
                                    obtain ⟨ln, hln⟩ : ∃ ln, (fv M (O.take i) v).length = ln := ⟨_, rfl⟩
                                    have HLN : Hid ((fv M (O.take i) v).length = ln) := hln
                                    have hlnb : ln ≤ 256 := by
                                      rw [← hln]
                                      have h1 := List.length_filter_le (fun x => M x == v) (O.take i)
                                      have h2 : (O.take i).length ≤ L := by rw [List.length_take]; omega
                                      unfold fv
                                      omega
                                    have hgs := hg.size
                                    rw [hln] at ho
                                    have HO : Hid (wr.ownsRow W.heap.size 3 1 u32 ln ((fv M (O.take i) v).map fun (z : Nat) => Value.int .i64 (z : Int))) := ho
                                    clear hg ho hb hoi hmo hln o1 o2
                                    by_cases hm : mo = v
                                    · subst hm
                                      have hmi : ((mo : Int) == (mo : Int)) = true := by simp
                                      go_wp2_with (at_builtin
                                                   refine wpList_append_lies _ rfl _ _ _ rfl W.heap.size 3 ii (.int .i64 0) 1 8 Yba.underlying22 hi0 hz0 hz1 hz2 rfl (by omega) u32 ln _ rfl (HO.out.alloc _) ⟨wr.heap.size, 0, none⟩ 1 1 [.int .i64 (oi : Int)] rfl rfl (World.news_of_block (cs := #[.int .i64 (oi : Int)]) (Go.Deep.blk_alloc_new _ _)) (by simp [Value.oneCell']) (by omega) (by unfold maxLen; omega) (by omega) (by simp; omega) (wr.heap.size + 1) (by simp) ?_
                                                   intro g7 cap7 w7 hown7 hgrow7 hat7 hlt7
                                                   have H7 : Hid (W.grownBy w7 none ∧ w7.ownsRow W.heap.size 3 1 (.slice (some ⟨g7, 0, none⟩) (ln + 1) cap7) (ln + 1) (((fv M (O.take i) mo).map fun (z : Nat) => Value.int .i64 (z : Int)) ++ [.int .i64 (oi : Int)])) := ⟨(HB.out.1.andThen (World.grownBy_alloc wr _ none) (fun j hj => by cases hj)).andThen hgrow7 (fun k hk => .inl (HO.out.lt k hk).1), hown7⟩
                                                   clear hown7 hgrow7 hat7 hlt7)
                                      go_roundg (L - (i + 1))
                                      case measure => omega
                                      case rel =>
                                        refine ⟨i + 1, by omega, rfl, by go_num, H7.out.1, ?_⟩
                                        rw [fv_take hiO, HOI.out, if_pos HMO.out, List.length_append, List.map_append, HLN.out]
                                        exact H7.out.2
                                    · have hmi : ((mo : Int) == (v : Int)) = false := by simp; omega
                                      have HMV : Hid (¬ mo = v) := hm
                                      clear hm
                                      go_wp2_with fail
                                      go_roundg (L - (i + 1))
                                      case measure => omega
                                      case rel =>
                                        refine ⟨i + 1, by omega, rfl, by go_num, HB.out.1, ?_⟩
                                        rw [fv_take hiO, HOI.out, HMO.out, if_neg HMV.out]
                                        exact HB.out.2
                                  · obtain rfl : L = i := by omega
                                    have hlti2 : ¬ (L : Int) < (L : Int) := by omega
                                    clear hg ho
                                    go_wp2_with fail
                                    go_meet
                                    case rel =>
                                      have h := HB.out
                                      rw [List.take_of_length_le (by rw [HOL.out.1]; exact Nat.le_refl _)] at h
                                      exact h
                              case rest =>
                                obtain ⟨hgX, hoX⟩ := hcut
                                obtain ⟨X, hX⟩ : ∃ X, X = wc := ⟨_, rfl⟩
                                subst hX
                                have HX : Hid (W.grownBy X none ∧ X.ownsRow W.heap.size 3 1 u32 (fv M O v).length ((fv M O v).map fun (z : Nat) => Value.int .i64 (z : Int))) := ⟨hgX, hoX⟩
                                obtain ⟨p32, c32, h32⟩ := owns_form hoX
                                obtain ⟨ln, hln⟩ : ∃ ln, (fv M O v).length = ln := ⟨_, rfl⟩
                                have HLN : Hid ((fv M O v).length = ln) := hln
                                rw [hln] at h32
                                subst h32
                                obtain ⟨K, hK⟩ : ∃ K, (WMb M O v).length = K := ⟨_, rfl⟩
                                have HK : Hid ((WMb M O v).length = K) := hK
                                have hK2 : K ≤ 256 := by rw [← hK]; exact Nat.le_trans (WMb_le M O v) hv
                                have hXs := hgX.size
                                have H29 : Hid (X.ownsRow E.heap.size 22 1 u29 K ((List.range K).map val)) := by
                                  rw [← hK]
                                  exact owns_of_block HS.out.wt (fun b hb => hgX.block b (HS.out.wt.lt b hb).2 (by simp))
                                have H30 : Hid (X.ownsRow E.heap.size 3 1 u30 K ((WMb M O v).map fun (z : Nat) => Value.int .i64 (z : Int))) := by
                                  rw [← hK]
                                  exact owns_of_block HS.out.wm (fun b hb => hgX.block b (HS.out.wm.lt b hb).2 (by simp))
                                rw [hln] at hoX
                                have HX32 : Hid (X.ownsRow W.heap.size 3 1 (.slice p32 ln c32) ln ((fv M O v).map fun (z : Nat) => Value.int .i64 (z : Int))) := hoX
                                clear hgX hoX hln hK
                                by_cases hl0 : ln = 0
                                · have hl0i : ¬ (0 : Int) < (ln : Int) := by omega
                                  have HZ0 : Hid (fv M O v = []) := List.length_eq_zero_iff.1 (by rw [HLN.out]; exact hl0)
                                  clear hl0
                                  go_wp2_with fail
                                  go_roundg (256 - (v + 1))
                                  case measure => omega
                                  case rel => exact ⟨v + 1, _, by omega, rfl, by go_num, HS.out.skip HX.out.1 HZ0.out⟩
                                · have hl0i : (0 : Int) < (ln : Int) := by omega
                                  have HZ0 : Hid (fv M O v ≠ []) := fun e => hl0 (by rw [← HLN.out, e]; rfl)
                                  clear hl0
                                  go_upto_region 71 with (
                                      (at_builtin
                                       refine wpList_append_lies _ rfl _ _ _ rfl E.heap.size 22 i2 (.slice none 0 0) 1 24 Yba.underlying46 hj0 hy0 hy1 hy2 rfl (by omega) u29 K _ rfl (H29.out.alloc _) ⟨X.heap.size, 0, none⟩ 1 1 [.slice p32 ln c32] rfl rfl (World.news_of_block (cs := #[.slice p32 ln c32]) (Go.Deep.blk_alloc_new _ _)) (by simp [Value.oneCell']) (by omega) (by unfold maxLen; omega) (by omega) (by simp; omega) (X.heap.size + 1) (by simp) ?_
                                       intro g1 c1 X1 own1 grow1 hat1 hlt1
                                       have HX1 : Hid ((X.alloc (.cells #[.slice p32 ln c32] 22)).grownBy X1 u29.ownBlock ∧ X1.ownsRow E.heap.size 22 1 (.slice (some ⟨g1, 0, none⟩) (K + 1) c1) (K + 1) ((List.range K).map val ++ [.slice p32 ln c32])) := ⟨grow1, own1⟩
                                       have hX1s : X.heap.size + 1 ≤ X1.heap.size := by have := grow1.size; simp at this; omega
                                       have H30b : Hid (X1.ownsRow E.heap.size 3 1 u30 K ((WMb M O v).map fun (z : Nat) => Value.int .i64 (z : Int))) := owns_of_block H30.out (fun b hb => by rw [grow1.block b (by have := (H30.out.lt b hb).2; simp; omega) (fun e => owns_apart H29.out H30.out e.symm hb), Below.heap_alloc _ _ _ (H30.out.lt b hb).2])
                                       clear own1 grow1 hat1 hlt1))
                                  go_wp2_with (
                                      (at_builtin
                                       refine wpList_append_lies _ rfl _ _ _ rfl E.heap.size 3 ii (.int .i64 0) 1 8 Yba.underlying22 hi0 hz0 hz1 hz2 rfl (by omega) u30 K _ rfl (H30b.out.alloc _) ⟨X1.heap.size, 0, none⟩ 1 1 [.int .i64 (v : Int)] rfl rfl (World.news_of_block (cs := #[.int .i64 (v : Int)]) (Go.Deep.blk_alloc_new _ _)) (by simp [Value.oneCell']) (by omega) (by unfold maxLen; omega) (by omega) (by simp; omega) (X1.heap.size + 1) (by simp) ?_
                                       intro g2 c2 X2 own2 grow2 hat2 hlt2
                                       have HX2 : Hid (W14 E M O (v + 1) (.slice (some ⟨g1, 0, none⟩) (K + 1) c1) (.slice (some ⟨g2, 0, none⟩) (K + 1) c2) (fun j => if j = K then .slice p32 ln c32 else val j) X2) := by
                                         exact W14.add' HK.out HLN.out HS.out HX.out.1 HZ0.out HX32.out HX1.out.1 HX1.out.2 grow2 hat2 own2
                                       clear own2 grow2 hat2 hlt2))
                                  go_roundg (256 - (v + 1))
                                  case measure => omega
                                  case rel => exact ⟨v + 1, _, by omega, rfl, by go_num, HX2.out⟩
                            · obtain rfl : v = 256 := by omega
                              clear hs
                              go_wp2_with fail
                              go_meet
                              case rel => exact ⟨_, HS.out⟩
                      case rest =>
                        obtain ⟨val, hw14⟩ := hcut
                        have hKpos : 0 < (Gs M O).length := by
                          have hx : O.getD 0 0 ∈ O := by rw [getD_at (by rw [HOL.out.1]; exact hL1')]; exact List.getElem_mem _
                          have := (HM.out _ (HOL.out.2.1 _ hx)).2
                          exact Gs_pos hx (by omega)
                        obtain ⟨wt, c29, wmb, c30, e29, e30, hwant⟩ := hw14.want hKpos
                        obtain ⟨F, hF⟩ : ∃ F, F = wc := ⟨_, rfl⟩
                        subst hF
                        have hfin := HE.out.below hw14.bel
                        have HF : Hid (Fin w F n L id g0 ma moff sv ab ob rp sb tb M O) := hfin
                        obtain ⟨K, hK⟩ : ∃ K, (Gs M O).length = K := ⟨_, rfl⟩
                        have HKE : Hid ((Gs M O).length = K) := hK
                        have hK2 : K ≤ 256 := by rw [← hK]; exact Gs_le M O
                        rw [hK] at e29 e30 hwant hKpos
                        subst e29 e30
                        have HWT : Hid (Want F M O K wt wmb) := hwant
                        obtain ⟨G, gc, r11, hold, hnew⟩ := hfin.grp
                        rw [hK] at r11 hnew
                        have HOLD : Hid (∀ g, g < g0 → ∃ b, F.cell? ⟨G, g, none⟩ = some (.slice (some ⟨b, 0, none⟩) 1 1) ∧ F.cell? ⟨b, 0, none⟩ = some (.int .i64 0)) := hold
                        have HNEW : Hid (∀ j, j < K → ∃ v, F.cell? ⟨G, g0 + j, none⟩ = some v ∧ Sl 0 F v ((Gs M O).getD j [])) := hnew
                        obtain ⟨N, hN⟩ : ∃ N, g0 + K = N := ⟨_, rfl⟩
                        have hNi : (g0 : Int) + (K : Int) = (N : Int) := by omega
                        have hNw : IntKind.i64.wrap (N : Int) = (N : Int) := by rw [IntKind.wrap_i64]; omega
                        have hNe : ((N : Int) == (N : Int)) = true := by simp
                        have HNN : Hid (g0 + K = N) := hN
                        rw [hN] at r11
                        clear hw14 hwant hfin hold hnew hK hN HE q1 q2 HW0 HM HP hn1
                        go_upto_block 18 with (fail)
                        go_cut [36] from 285 to 310 (fun _ wc => wc = F)
                        case first =>
                          as_aux_lemma =>
                            go_wp2_with fail
                            go_loopg [36] g0 (fun gk s36 wr => ∃ i : Nat, i ≤ g0 ∧ gk = g0 - i ∧ s36 = .int .i64 (i : Int) ∧ wr = F)
                            case atStart => exact ⟨0, Nat.zero_le _, rfl, rfl, rfl⟩
                            case round =>
                              obtain ⟨i, hi, rfl, rfl, rfl⟩ := hrel
                              by_cases hlt : i < g0
                              · have hlti : (i : Int) < (g0 : Int) := by omega
                                have hiN : (i : Int) < (N : Int) := by omega
                                obtain ⟨b, s1, s2⟩ := HOLD.out i hlt
                                go_wp2_with fail
                                go_roundg (g0 - (i + 1))
                                case measure => omega
                                case rel => exact ⟨i + 1, by omega, rfl, by go_num, rfl⟩
                              · obtain rfl : g0 = i := by omega
                                have hlti : ¬ (g0 : Int) < (g0 : Int) := by omega
                                go_wp2_with fail
                                go_meet
                                case rel => rfl
                        case rest =>
                          replace hcut := hcut.symm
                          subst hcut
                          go_upto_block 20 with (fail)
                          go_cut [37] from 311 to 330 (fun _ wc => ∃ q, wc = F.drewN q)
                          case first =>
                            as_aux_lemma =>
                              go_wp2_with fail
                              go_loopg [37] K (fun gk s37 wr => ∃ i q : Nat, i ≤ K ∧ gk = K - i ∧ s37 = .int .i64 (i : Int) ∧ wr = F.drewN q)
                              case atStart => exact ⟨0, 0, Nat.zero_le _, rfl, rfl, rfl⟩
                              case round =>
                                obtain ⟨i, q, hi, rfl, rfl, rfl⟩ := hrel
                                by_cases hlt : i < K
                                · have hlti : (i : Int) < (K : Int) := by omega
                                  obtain ⟨v1, s1, hv1⟩ := HNEW.out i hlt
                                  obtain ⟨v2, s2, hv2⟩ := HWT.out.wt i hlt
                                  obtain ⟨p1, k1, e1, hh1⟩ := hv1.holds
                                  obtain ⟨p2, k2, e2, hh2⟩ := hv2.holds
                                  subst e1 e2
                                  obtain ⟨ln, hln⟩ : ∃ ln, ((Gs M O).getD i []).length = ln := ⟨_, rfl⟩
                                  have hlnb : ln ≤ 256 := by
                                    rw [← hln]
                                    have := Gs_elem_le (M := M) (O := O) (j := i) (by rw [HKE.out]; exact hlt)
                                    have := HOL.out.1
                                    omega
                                  rw [hln] at s1 s2
                                  have HC : Hid (∀ q', Calls Yba.prog 11 #[.slice p1 ln k1, .slice p2 ln k2] ((F.drewN q).drewN q') fun e w' => e = .returned (.bool true) ∧ ∃ m, w' = ((F.drewN q).drewN q').drewN m) := fun q' => equal_true p1 p2 ln k1 k2 ((Gs M O).getD i []) _ (by omega) hln.symm hh1 hh2
                                  obtain ⟨W, hW⟩ : ∃ W, W = F.drewN q := ⟨_, rfl⟩
                                  have s0 : W.cell? ⟨rp, 11, none⟩ = some (.slice (some ⟨G, 0, none⟩) N gc) := by rw [hW]; exact r11
                                  have s1' : W.cell? ⟨G, g0 + i, none⟩ = some (.slice p1 ln k1) := by rw [hW]; exact s1
                                  have s2' : W.cell? ⟨wt, i, none⟩ = some (.slice p2 ln k2) := by rw [hW]; exact s2
                                  have HWQ : Hid (W = F.drewN q) := hW
                                  rw [← hW] at HC ⊢
                                  obtain ⟨gi, hgi⟩ : ∃ gi, g0 + i = gi := ⟨_, rfl⟩
                                  have hgii : (g0 : Int) + (i : Int) = (gi : Int) := by omega
                                  have hgiw : IntKind.i64.wrap (gi : Int) = (gi : Int) := by rw [IntKind.wrap_i64]; omega
                                  have hgiN : (gi : Int) < (N : Int) := by have := HNN.out; omega
                                  rw [hgi] at s1'
                                  clear hv1 hv2 hh1 hh2 hln s1 s2 hW hgi r11
                                  go_wp2_with fail
                                  go_quiet ((go_at_call 11; exact Calls.quiet_of (HC.out _)))
                                  go_wp2_with fail
                                  go_roundg (K - (i + 1))
                                  case measure => omega
                                  case rel => exact ⟨i + 1, _, by omega, rfl, by go_num, by rw [HWQ.out, World.drewN_drewN]⟩
                                · obtain rfl : K = i := by omega
                                  have hlti : ¬ (K : Int) < (K : Int) := by omega
                                  go_wp2_with fail
                                  go_meet
                                  case rel => exact ⟨_, rfl⟩
                          case rest =>
                            obtain ⟨q0, hq0⟩ := hcut
                            obtain ⟨X, hX⟩ : ∃ X, X = wc := ⟨_, rfl⟩
                            subst hX
                            have HFX : Hid (Fin w X n L id g0 ma moff sv ab ob rp sb tb M O) := by rw [hq0]; exact HF.out.below (below_drewN _ _ _)
                            have HWX : Hid (Want X M O K wt wmb) := by rw [hq0]; exact HWT.out.below (below_drewN _ _ _)
                            have hq22 : ∀ u : World, (binOp .neq 22 (.slice none 0 0) (.slice none 0 0)).run Yba.prog u = .ok (.bool false) u := fun u => run_neq_slice_nil u 22 3 none 0 0 Yba.underlying22
                            have hq57 : ∀ u : World, (binOp .neq 57 (.slice none 0 0) (.slice none 0 0)).run Yba.prog u = .ok (.bool false) u := fun u => run_neq_slice_nil u 57 _ none 0 0 Yba.underlying57
                            have hq58 : ∀ u : World, (binOp .neq 58 (.map none) (.map none)).run Yba.prog u = .ok (.bool false) u := fun u => run_neq_map_nil u 58 3 22 none Yba.underlying58
                            clear hq0 HF HWT HOLD HNEW r11
                            go_upto_block 22 with (fail)
                            go_cut [38, 39] from 331 to 364 (fun _ _ wc => Below X.heap.size X wc)
                            case first =>
                              as_aux_lemma =>
                                go_wp2_with fail
                                go_loopg [38] 3 (fun gk s38 wr => ∃ s : Nat, s ≤ 3 ∧ gk = 3 - s ∧ s38 = .int .i64 (s : Int) ∧ Below X.heap.size X wr)
                                case atStart => exact ⟨0, by omega, rfl, rfl, Below.refl _ _⟩
                                case round =>
                                  obtain ⟨s, hs, rfl, rfl, hb⟩ := hrel
                                  have HB : Hid (Below X.heap.size X wr) := hb
                                  have hXw := hb.size
                                  by_cases hlt : s < 3
                                  · have hlti : (s : Int) < 3 := by omega
                                    by_cases hsi : s = id
                                    · have hsii : ((s : Int) == (id : Int)) = true := by simp [hsi]
                                      clear hsi hb
                                      go_wp2_with fail
                                      go_roundg (3 - (s + 1))
                                      case measure => omega
                                      case rel => exact ⟨s + 1, by omega, rfl, by go_num, HB.out⟩
                                    · have hsii : ((s : Int) == (id : Int)) = false := by simp; omega
                                      have hfw := HFX.out.below hb
                                      have r2 := hfw.r2
                                      obtain ⟨items, zv, wb, n2, f, h1, _⟩ := hfw.st
                                      have y0 : wr.cell? ⟨tb, s * 4, none⟩ = some (.slice none 0 0) := by
                                        rw [h1.cell (i := s * 4) (by omega), if_neg (by omega), if_neg (by omega), if_neg (by omega), TF, if_neg (by omega)]
                                      have y1 : wr.cell? ⟨tb, s * 4 + 1, none⟩ = some (.slice none 0 0) := by
                                        rw [h1.cell (i := s * 4 + 1) (by omega), if_neg (by omega), if_neg (by omega), if_neg (by omega), TF, if_neg (by omega)]
                                      have y2 : wr.cell? ⟨tb, s * 4 + 2, none⟩ = some (.map none) := by
                                        rw [h1.cell (i := s * 4 + 2) (by omega), if_neg (by omega), if_neg (by omega), if_neg (by omega), TF, if_pos (by omega)]
                                      have y3 : wr.cell? ⟨tb, s * 4 + 3, none⟩ = some (.slice none 0 0) := by
                                        rw [h1.cell (i := s * 4 + 3) (by omega), if_neg (by omega), if_neg (by omega), if_neg (by omega), TF, if_neg (by omega)]
                                      clear hsi hb hfw h1
                                      go_wp2_with fail
                                      go_roundg (3 - (s + 1))
                                      case measure => omega
                                      case rel => exact ⟨s + 1, by omega, rfl, by go_num, HB.out.alloc hXw _⟩
                                  · obtain rfl : s = 3 := by omega
                                    clear hb
                                    go_wp2_with fail
                                    go_meet
                                    case rel => exact HB.out
                            case rest =>
                              have hfw := HFX.out.below hcut
                              have hww := HWX.out.below hcut
                              obtain ⟨Y, hY⟩ : ∃ Y, Y = wc := ⟨_, rfl⟩
                              subst hY
                              have HFY : Hid (Fin w Y n L id g0 ma moff sv ab ob rp sb tb M O) := hfw
                              have HWY : Hid (Want Y M O K wt wmb) := hww
                              have r2 := hfw.r2
                              obtain ⟨items, zv, wb, n2, f, h1, h2, h3, h4, h5, h6⟩ := hfw.st
                              rw [HKE.out] at h2 h4 h5 h6
                              obtain ⟨ip, ic, eit, hit⟩ := h2.holds
                              have hitl : ((List.range K).map fun j => g0 + j).length = K := by simp
                              rw [hitl] at eit
                              subst eit
                              obtain ⟨ib, eib, hib⟩ := hit (by rw [hitl]; exact hKpos)
                              subst eib
                              have HIB : Hid (∀ j, j < K → Y.cell? ⟨ib, j, none⟩ = some (.int .i64 ((g0 + j : Nat) : Int))) := fun j hj => by
                                have h := hib j (by rw [hitl]; exact hj)
                                rw [getD_at (by rw [hitl]; exact hj)] at h
                                simpa using h
                              obtain ⟨zp', zc', ezv, hzv⟩ := h6.holds
                              obtain ⟨zn, hzn⟩ : ∃ zn, ((zlist ((WMb M O 256).getD 0 0) 8).filter fun z => (List.range (K - 1)).all fun i => ((WMb M O 256).getD (i + 1) 0).testBit z).length = zn := ⟨_, rfl⟩
                              rw [hzn] at ezv
                              subst ezv
                              have HZV : Hid (Holds Y zp' (zlist (andTo (fun j => (WMb M O 256).getD j 0) K) 8) ∧ zn = (zlist (andTo (fun j => (WMb M O 256).getD j 0) K) 8).length) := by
                                have hz := zones_all (fun j => (WMb M O 256).getD j 0) K hKpos
                                exact ⟨by rw [← hz]; exact hzv, by rw [← hz]; exact hzn.symm⟩
                              have HMP : Hid (WMp Y wb n2 f) := h3
                              have HF4 : Hid (∀ z, z < 8 → (f z).isSome = decide (K < 2 * cn (fun j => (WMb M O 256).getD j 0) K z)) := h4
                              have HF5 : Hid (∀ z v, z < 8 → f z = some v → Sl 0 Y v (wo (fun j => (WMb M O 256).getD j 0) (fun j => g0 + j) K z)) := h5
                              have y0 : Y.cell? ⟨tb, id * 4, none⟩ = some (.slice none 0 0) := by
                                rw [h1.cell (i := id * 4) (by omega), if_neg (by omega), if_neg (by omega), if_neg (by omega), TF, if_neg (by omega)]
                              have y1 : Y.cell? ⟨tb, id * 4 + 1, none⟩ = some (.slice (some ⟨ib, 0, none⟩) K ic) := by
                                rw [h1.cell (i := id * 4 + 1) (by omega), if_pos rfl]
                              have y2 : Y.cell? ⟨tb, id * 4 + 2, none⟩ = some (.map (some wb)) := by
                                rw [h1.cell (i := id * 4 + 2) (by omega), if_neg (by omega), if_pos rfl]
                              have y3 : Y.cell? ⟨tb, id * 4 + 3, none⟩ = some (.slice zp' zn zc') := by
                                rw [h1.cell (i := id * 4 + 3) (by omega), if_neg (by omega), if_neg (by omega), if_pos rfl]
                              have hidi : (id : Int) < 3 := by omega
                              have hKe : ((K : Int) == (K : Int)) = true := by simp
                              clear hfw hww hcut h1 h2 h3 h4 h5 h6 hit hib hitl hzv hzn HFX HWX
                              go_upto_block 24 with (fail)
                              obtain ⟨Z, hZ⟩ : ∃ Z, Z = Y.alloc (.cells #[.slice none 0 0, .slice (some ⟨ib, 0, none⟩) K ic, .map (some wb), .slice zp' zn zc'] 62) := ⟨_, rfl⟩
                              rw [← hZ]
                              have hzb : Z.heap[Y.heap.size]? = some (.cells #[.slice none 0 0, .slice (some ⟨ib, 0, none⟩) K ic, .map (some wb), .slice zp' zn zc'] 62 (0, 0)) := by rw [hZ]; exact Go.Deep.blk_alloc_new _ _
                              obtain ⟨sp, hsp⟩ : ∃ sp, Y.heap.size = sp := ⟨_, rfl⟩
                              rw [hsp] at hzb
                              have z1 : Z.cell? ⟨sp, 1, none⟩ = some (.slice (some ⟨ib, 0, none⟩) K ic) := by rw [cell_of_row Z sp 1 _ 62 (0, 0) hzb]; rfl
                              have z2 : Z.cell? ⟨sp, 2, none⟩ = some (.map (some wb)) := by rw [cell_of_row Z sp 2 _ 62 (0, 0) hzb]; rfl
                              have z3 : Z.cell? ⟨sp, 3, none⟩ = some (.slice zp' zn zc') := by rw [cell_of_row Z sp 3 _ 62 (0, 0) hzb]; rfl
                              have hbz : Below Y.heap.size Y Z := by rw [hZ]; exact (Below.refl _ _).alloc (Nat.le_refl _) _
                              have HFZ : Hid (Below w.heap.size w Z) := (HFY.out.below hbz).bel
                              have HWZ : Hid (Want Z M O K wt wmb) := HWY.out.below hbz
                              have HIZ : Hid (∀ j, j < K → Z.cell? ⟨ib, j, none⟩ = some (.int .i64 ((g0 + j : Nat) : Int))) := fun j hj => (hbz.cell (World.block_lt_of_cell? Y _ (HIB.out j hj))).trans (HIB.out j hj)
                              have HZZ : Hid (Holds Z zp' (zlist (andTo (fun j => (WMb M O 256).getD j 0) K) 8) ∧ zn = (zlist (andTo (fun j => (WMb M O 256).getD j 0) K) 8).length) := ⟨HZV.out.1.below hbz, HZV.out.2⟩
                              have HMZ : Hid (WMp Z wb n2 f) := HMP.out.of_block (hbz.block _ HMP.out.lt)
                              have HSZ : Hid (∀ z v, z < 8 → f z = some v → Sl 0 Z v (wo (fun j => (WMb M O 256).getD j 0) (fun j => g0 + j) K z)) := fun z v hz hv => (HF5.out z v hz hv).below hbz
                              rw [hsp]
                              clear hZ hzb hsp hbz HFY HWY HIB HZV HMP HF5 y0 y1 y2 y3 r2 hq22 hq57 hq58
                              go_cut [41] from 383 to 397 (fun _ wc => wc = Z)
                              case first =>
                                as_aux_lemma =>
                                  go_wp2_with fail
                                  go_loopg [41] K (fun gk s41 wr => ∃ i : Nat, i ≤ K ∧ gk = K - i ∧ s41 = .int .i64 (i : Int) ∧ wr = Z)
                                  case atStart => exact ⟨0, Nat.zero_le _, rfl, rfl, rfl⟩
                                  case round =>
                                    obtain ⟨i, hi, rfl, rfl, rfl⟩ := hrel
                                    by_cases hlt : i < K
                                    · have hlti : (i : Int) < (K : Int) := by omega
                                      have s1 := HIZ.out i hlt
                                      obtain ⟨gi, hgi⟩ : ∃ gi, g0 + i = gi := ⟨_, rfl⟩
                                      have hgii : (g0 : Int) + (i : Int) = (gi : Int) := by omega
                                      have hgiw : IntKind.i64.wrap (gi : Int) = (gi : Int) := by rw [IntKind.wrap_i64]; omega
                                      have hgie : ((gi : Int) == (gi : Int)) = true := by simp
                                      rw [hgi] at s1
                                      clear hgi
                                      go_wp2_with fail
                                      go_roundg (K - (i + 1))
                                      case measure => omega
                                      case rel => exact ⟨i + 1, by omega, rfl, by go_num, rfl⟩
                                    · obtain rfl : K = i := by omega
                                      have hlti : ¬ (K : Int) < (K : Int) := by omega
                                      go_wp2_with fail
                                      go_meet
                                      case rel => rfl
                              case rest =>
                                replace hcut := hcut.symm
                                subst hcut
                                obtain ⟨mk, hmk⟩ : ∃ mk : Nat → Nat, mk = fun j => (WMb M O 256).getD j 0 := ⟨_, rfl⟩
                                have HMK : Hid (∀ j, mk j ≤ 255) := fun j => by rw [hmk]; exact WM_le M O j
                                have HWK : Hid (∀ j, j < K → Z.cell? ⟨wmb, j, none⟩ = some (.int .i64 (mk j : Int))) := by rw [hmk]; exact HWZ.out.wm
                                rw [← hmk] at HZZ HF4 HSZ
                                clear hmk
                                go_upto_block 26 with (fail)
                                go_cut [42, 44] from 400 to 408 (fun s42 _ wc => s42 = .int .u8 (andTo mk K : Int) ∧ wc = Z)
                                case first =>
                                  as_aux_lemma =>
                                    go_wp2_with fail
                                    go_loopg [42, 400] K (fun gk s42 s400 wr => ∃ i : Nat, i ≤ K ∧ gk = K - i ∧ s400 = .int .i64 (i : Int) ∧ s42 = .int .u8 (andTo mk i : Int) ∧ wr = Z)
                                    case atStart => exact ⟨0, Nat.zero_le _, rfl, rfl, rfl, rfl⟩
                                    case round =>
                                      obtain ⟨i, hi, rfl, rfl, rfl, rfl⟩ := hrel
                                      by_cases hlt : i < K
                                      · have hlti : (i : Int) < (K : Int) := by omega
                                        have s1 := HWK.out i hlt
                                        have hm := HMK.out i
                                        have ha := andTo_le mk i
                                        obtain ⟨mi, hmi⟩ : ∃ mi, mk i = mi := ⟨_, rfl⟩
                                        obtain ⟨ai, hai⟩ : ∃ ai, andTo mk i = ai := ⟨_, rfl⟩
                                        obtain ⟨ci, hci⟩ : ∃ ci, ai &&& mi = ci := ⟨_, rfl⟩
                                        have HCI : Hid (andTo mk (i + 1) = ci) := by rw [← hci, ← hai, ← hmi]; rfl
                                        rw [hmi] at s1 hm
                                        rw [hai] at ha ⊢
                                        have hand : bits .and .u8 (ai : Int) (mi : Int) = (ci : Int) := by rw [u8_and_nat ai mi (by omega) (by omega), hci]
                                        have hmw : IntKind.u8.wrap (mi : Int) = (mi : Int) := by rw [IntKind.wrap_u8]; omega
                                        clear hmi hai hci
                                        go_wp2_with fail
                                        go_roundg (K - (i + 1))
                                        case measure => omega
                                        case rel => exact ⟨i + 1, by omega, rfl, by go_num, by rw [HCI.out], rfl⟩
                                      · obtain rfl : K = i := by omega
                                        have hlti : ¬ (K : Int) < (K : Int) := by omega
                                        go_wp2_with fail
                                        go_meet
                                        case rel => exact ⟨rfl, rfl⟩
                                case rest =>
                                  obtain ⟨rfl, hcut⟩ := hcut
                                  replace hcut := hcut.symm
                                  subst hcut
                                  have hal := andTo_le mk K
                                  obtain ⟨al, hale⟩ : ∃ al, andTo mk K = al := ⟨_, rfl⟩
                                  rw [hale] at HZZ hal ⊢
                                  clear hale
                                  have hspZ := World.block_lt_of_cell? Z _ z3
                                  go_upto_region 106 with (fail)
                                  go_cut [414] from 409 to 414 (fun s414 wc => s414 = .bool false ∧ Below Z.heap.size Z wc)
                                  case first =>
                                    as_aux_lemma =>
                                      go_region_held3 (fun w' => w'.cell? ⟨sp, 3, none⟩ = some (.slice zp' zn zc')) (first | go_simp | exact s1 | exact s2) (first
                                        | (go_at_call 9
                                           refine (zones_any al _ hal).mono ?_
                                           rintro e w1 ⟨v, rfl, hzg⟩
                                           have hbw : Below Z.heap.size Z w1 := ⟨hzg.below.os, hzg.below.tape, hzg.below.output, hzg.below.size, hzg.below.block⟩
                                           have s1 : w1.cell? ⟨sp, 3, none⟩ = some (.slice zp' zn zc') := (hbw.cell (p := ⟨sp, 3, none⟩) hspZ).trans z3
                                           obtain ⟨vp, vc, hvf, hvh⟩ := (Sl.of_owns (lo := 0) rfl hzg.own (Nat.zero_le _)).holds
                                           rw [← HZZ.out.2] at hvf
                                           subst hvf
                                           have HV1 : Hid (Holds w1 vp (zlist al 8)) := hvh
                                           have HV2 : Hid (Holds w1 zp' (zlist al 8)) := HZZ.out.1.below hbw
                                           have HBW : Hid (Below Z.heap.size Z w1) := hbw
                                           clear hzg hvh hbw)
                                        | (go_at_call 11
                                           refine (equal_true zp' vp zn zc' vc (zlist al 8) w1 (by rw [HZZ.out.2]; exact Nat.le_trans (zlist_len al 8) (by omega)) HZZ.out.2 HV2 HV1).mono ?_
                                           rintro e w2 ⟨rfl, q2, hq2⟩
                                           have s2 : w2.cell? ⟨sp, 3, none⟩ = some (.slice zp' zn zc') := by rw [hq2]; exact s1
                                           have HB2 : Hid (Below Z.heap.size Z w2) := by rw [hq2]; exact HBW.out.trans (below_drewN _ _ _)
                                           clear hq2))
                                      go_wp2_with fail
                                      go_meet
                                      case rel => exact ⟨rfl, HB2.out⟩
                                  case rest =>
                                    obtain ⟨rfl, hbA⟩ := hcut
                                    obtain ⟨A2, hA2⟩ : ∃ A2, A2 = wc := ⟨_, rfl⟩
                                    subst hA2
                                    have u1 : A2.cell? ⟨sp, 1, none⟩ = some (.slice (some ⟨ib, 0, none⟩) K ic) := (hbA.cell (p := ⟨sp, 1, none⟩) hspZ).trans z1
                                    have u2 : A2.cell? ⟨sp, 2, none⟩ = some (.map (some wb)) := (hbA.cell (p := ⟨sp, 2, none⟩) hspZ).trans z2
                                    have HBA : Hid (Below w.heap.size w A2) := HFZ.out.trans (hbA.mono HFZ.out.size)
                                    have HWA : Hid (∀ j, j < K → A2.cell? ⟨wmb, j, none⟩ = some (.int .i64 (mk j : Int))) := fun j hj => (hbA.cell (World.block_lt_of_cell? Z _ (HWK.out j hj))).trans (HWK.out j hj)
                                    have HMA : Hid (WMp A2 wb n2 f) := HMZ.out.of_block (hbA.block _ HMZ.out.lt)
                                    have HSA : Hid (∀ z v, z < 8 → f z = some v → Sl 0 A2 v (wo mk (fun j => g0 + j) K z)) := fun z v hz hv => (HSZ.out z v hz hv).below hbA
                                    have hspA : sp < A2.heap.size := World.block_lt_of_cell? A2 _ u2
                                    obtain ⟨ii, hi0, hz0, hz1, hz2⟩ := info_parts info3
                                    clear hbA z1 z2 z3 HWZ HIZ HZZ HMZ HSZ HFZ HWK hspZ
                                    go_upto_block 28 with (fail)
                                    go_cut [45, 46, 47, 49, 50, 51, 52, 53, 54] from 415 to 474 (fun s45 _ _ _ _ _ _ _ _ wc => s45 = .int .i64 ((((List.range 8).filter fun z => decide (K < 2 * cn mk K z)).length : Nat) : Int) ∧ Below A2.heap.size A2 wc)
                                    case first =>
                                      as_aux_lemma =>
                                        go_wp2_with fail
                                        go_loopg [45, 46] 8 (fun gk s45 s46 wr => ∃ z : Nat, z ≤ 8 ∧ gk = 8 - z ∧ s46 = .int .i64 (z : Int) ∧ s45 = .int .i64 ((((List.range z).filter fun z => decide (K < 2 * cn mk K z)).length : Nat) : Int) ∧ Below A2.heap.size A2 wr)
                                        case atStart => exact ⟨0, by omega, rfl, rfl, rfl, Below.refl _ _⟩
                                        case round =>
                                          obtain ⟨z, hz, rfl, rfl, rfl, hb⟩ := hrel
                                          obtain ⟨W, hW⟩ : ∃ W : World, W = wr := ⟨_, rfl⟩
                                          subst hW
                                          have HB : Hid (Below A2.heap.size A2 W) := hb
                                          have hAW := hb.size
                                          obtain ⟨ct, hct⟩ : ∃ ct, ((List.range z).filter fun z => decide (K < 2 * cn mk K z)).length = ct := ⟨_, rfl⟩
                                          have HCT : Hid (((List.range z).filter fun z => decide (K < 2 * cn mk K z)).length = ct) := hct
                                          have hct8 : ct ≤ 8 := by
                                            rw [← hct]
                                            have := List.length_filter_le (fun z => decide (K < 2 * cn mk K z)) (List.range z)
                                            simp only [List.length_range] at this
                                            omega
                                          rw [hct]
                                          by_cases hlt : z < 8
                                          · have hlti : (z : Int) < 8 := by omega
                                            have HWW : Hid (∀ j, j < K → W.cell? ⟨wmb, j, none⟩ = some (.int .i64 (mk j : Int))) := fun j hj => (hb.cell (World.block_lt_of_cell? A2 _ (HWA.out j hj))).trans (HWA.out j hj)
                                            have v1 : W.cell? ⟨sp, 1, none⟩ = some (.slice (some ⟨ib, 0, none⟩) K ic) := (hb.cell (p := ⟨sp, 1, none⟩) hspA).trans u1
                                            have v2 : W.cell? ⟨sp, 2, none⟩ = some (.map (some wb)) := (hb.cell (p := ⟨sp, 2, none⟩) hspA).trans u2
                                            have hlk := (HMA.out.of_block (hb.block _ HMA.out.lt)).look_ok hlt
                                            clear hb hct
                                            go_upto_block 30 with (fail)
                                            go_cut [47, 49] from 421 to 433 (fun s47 _ wc => s47 = .int .i64 (cn mk K z : Int) ∧ wc = W)
                                            case first =>
                                              go_wp2_with fail
                                              go_loopg [47, 421] K (fun gk s47 s421 wr => ∃ j : Nat, j ≤ K ∧ gk = K - j ∧ s421 = .int .i64 (j : Int) ∧ s47 = .int .i64 (cn mk j z : Int) ∧ wr = W)
                                              case atStart => exact ⟨0, Nat.zero_le _, rfl, rfl, rfl, rfl⟩
                                              case round =>
                                                obtain ⟨j, hj, rfl, rfl, rfl, rfl⟩ := hrel
                                                by_cases hlt2 : j < K
                                                · have hlti2 : (j : Int) < (K : Int) := by omega
                                                  have s1 := HWW.out j hlt2
                                                  have hm := HMK.out j
                                                  have hcl := cn_le mk j z
                                                  have hbt := bit_i64 (mk j) z hm
                                                  rw [bit_val] at hbt
                                                  have HCS : Hid (cn mk (j + 1) z = cn mk j z + if (mk j).testBit z then 1 else 0) := cn_succ mk j z
                                                  obtain ⟨mj, hmj⟩ : ∃ mj, mk j = mj := ⟨_, rfl⟩
                                                  obtain ⟨cj', hcj⟩ : ∃ cj', cn mk j z = cj' := ⟨_, rfl⟩
                                                  rw [hcj, hmj] at HCS
                                                  rw [hmj] at s1 hm hbt
                                                  rw [hcj] at hcl ⊢
                                                  clear hmj hcj
                                                  cases hbb : mj.testBit z with
                                                  | true =>
                                                    rw [hbb] at hbt HCS
                                                    have hbt1 : bits .and .i64 ((mj : Int) / 2 ^ z) 1 = 1 := hbt
                                                    clear hbt hbb
                                                    go_wp2_with fail
                                                    go_roundg (K - (j + 1))
                                                    case measure => omega
                                                    case rel => exact ⟨j + 1, by omega, rfl, by go_num, by rw [HCS.out]; go_num, rfl⟩
                                                  | false =>
                                                    rw [hbb] at hbt HCS
                                                    have hbt1 : bits .and .i64 ((mj : Int) / 2 ^ z) 1 = 0 := hbt
                                                    clear hbt hbb
                                                    go_wp2_with fail
                                                    go_roundg (K - (j + 1))
                                                    case measure => omega
                                                    case rel => exact ⟨j + 1, by omega, rfl, by go_num, by rw [HCS.out]; rfl, rfl⟩
                                                · obtain rfl : K = j := by omega
                                                  have hlti2 : ¬ (K : Int) < (K : Int) := by omega
                                                  go_wp2_with fail
                                                  go_meet
                                                  case rel => exact ⟨rfl, rfl⟩
                                            case rest =>
                                              obtain ⟨rfl, hcut⟩ := hcut
                                              replace hcut := hcut.symm
                                              subst hcut
                                              have h4 := HF4.out z hlt
                                              have hcl := cn_le mk K z
                                              have HP : Hid (∀ p : Nat → Bool, ((List.range (z + 1)).filter p).length = ((List.range z).filter p).length + if p z then 1 else 0) := fun p => cnt_succ p z
                                              obtain ⟨cz, hcz⟩ : ∃ cz, cn mk K z = cz := ⟨_, rfl⟩
                                              have HCZ : Hid (cn mk K z = cz) := hcz
                                              rw [hcz] at h4 hcl ⊢
                                              have h2w : IntKind.i64.wrap (2 * (cz : Int)) = 2 * (cz : Int) := by rw [IntKind.wrap_i64]; omega
                                              clear hcz
                                              by_cases hk : K < 2 * cz
                                              · rw [decide_eq_true hk] at h4
                                                obtain ⟨v, hv⟩ := Option.isSome_iff_exists.1 h4
                                                have hsl := (HSA.out z v hlt hv).below HB.out
                                                obtain ⟨vp, vc, evf, hvh⟩ := hsl.holds
                                                obtain ⟨wl, hwl⟩ : ∃ wl, (wo mk (fun j => g0 + j) K z).length = wl := ⟨_, rfl⟩
                                                have HWL : Hid ((wo mk (fun j => g0 + j) K z).length = wl) := hwl
                                                have hwlb : wl ≤ 256 := by rw [← hwl]; exact Nat.le_trans (wo_len mk _ K z) hK2
                                                rw [hwl] at evf
                                                subst evf
                                                rw [hv] at hlk
                                                have hlk2 : (Instr.lookup 58 (.map (some wb)) (.int .i64 (z : Int)) true).run Yba.prog W = .ok (.tuple #[.slice vp wl vc, .bool true]) W := hlk
                                                have HVH : Hid (Holds W vp (wo mk (fun j => g0 + j) K z)) := hvh
                                                have hki : (K : Int) < 2 * (cz : Int) := by omega
                                                have HKZ : Hid (K < 2 * cz) := hk
                                                clear h4 hv hsl hwl hlk hvh hk
                                                go_upto_block 32 with (fail)
                                                go_cut [52, 53, 54] from 450 to 467 (fun s52 _ _ wc => W.grownBy wc none ∧ wc.ownsRow W.heap.size 3 1 s52 wl ((wo mk (fun j => g0 + j) K z).map fun (a : Nat) => Value.int .i64 (a : Int)))
                                                case first =>
                                                  go_wp2_with fail
                                                  go_loopg [52, 450] K (fun gk s52 s450 wr => ∃ j : Nat, j ≤ K ∧ gk = K - j ∧ s450 = .int .i64 (j : Int) ∧ W.grownBy wr none ∧ wr.ownsRow W.heap.size 3 1 s52 (wo mk (fun j => g0 + j) j z).length ((wo mk (fun j => g0 + j) j z).map fun (a : Nat) => Value.int .i64 (a : Int)))
                                                  case atStart => exact ⟨0, Nat.zero_le _, rfl, rfl, grown_drewN W 0 none, World.ownsRow_nil _ _ _ _⟩
                                                  case round =>
                                                    obtain ⟨j, hj, rfl, rfl, hg, ho⟩ := hrel
                                                    have HGO : Hid (W.grownBy wr none ∧ wr.ownsRow W.heap.size 3 1 u52 (wo mk (fun j => g0 + j) j z).length ((wo mk (fun j => g0 + j) j z).map fun (a : Nat) => Value.int .i64 (a : Int))) := ⟨hg, ho⟩
                                                    by_cases hlt2 : j < K
                                                    · have hlti2 : (j : Int) < (K : Int) := by omega
                                                      have s1 := (hg.cell (HWW.out j hlt2) (by simp))
                                                      have hm := HMK.out j
                                                      have hbt := bit_i64 (mk j) z hm
                                                      rw [bit_val] at hbt
                                                      have HWS : Hid (wo mk (fun j => g0 + j) (j + 1) z = if (mk j).testBit z then wo mk (fun j => g0 + j) j z else wo mk (fun j => g0 + j) j z ++ [g0 + j]) := wo_succ mk (fun j => g0 + j) j z
                                                      obtain ⟨mj, hmj⟩ : ∃ mj, mk j = mj := ⟨_, rfl⟩
                                                      rw [hmj] at HWS
                                                      rw [hmj] at s1 hm hbt
                                                      obtain ⟨ln, hln⟩ : ∃ ln, (wo mk (fun j => g0 + j) j z).length = ln := ⟨_, rfl⟩
                                                      have HLN : Hid ((wo mk (fun j => g0 + j) j z).length = ln) := hln
                                                      have hlnb : ln ≤ 256 := by rw [← hln]; have := wo_len mk (fun j => g0 + j) j z; omega
                                                      rw [hln] at ho
                                                      have HO : Hid (wr.ownsRow W.heap.size 3 1 u52 ln ((wo mk (fun j => g0 + j) j z).map fun (a : Nat) => Value.int .i64 (a : Int))) := ho
                                                      obtain ⟨gj, hgj⟩ : ∃ gj, g0 + j = gj := ⟨_, rfl⟩
                                                      have hgji : (g0 : Int) + (j : Int) = (gj : Int) := by omega
                                                      have hgjw : IntKind.i64.wrap (gj : Int) = (gj : Int) := by rw [IntKind.wrap_i64]; omega
                                                      have HGJ : Hid (g0 + j = gj) := hgj
                                                      have hgs := hg.size
                                                      clear hmj hln ho hg hgj
                                                      cases hbb : mj.testBit z with
                                                      | true =>
                                                        rw [hbb] at hbt HWS
                                                        have hbt1 : bits .and .i64 ((mj : Int) / 2 ^ z) 1 = 1 := hbt
                                                        clear hbt hbb
                                                        go_wp2_with fail
                                                        go_roundg (K - (j + 1))
                                                        case measure => omega
                                                        case rel =>
                                                          refine ⟨j + 1, by omega, rfl, by go_num, HGO.out.1, ?_⟩
                                                          rw [HWS.out]
                                                          exact HGO.out.2
                                                      | false =>
                                                        rw [hbb] at hbt HWS
                                                        have hbt1 : bits .and .i64 ((mj : Int) / 2 ^ z) 1 = 0 := hbt
                                                        clear hbt hbb
                                                        go_wp2_with (at_builtin
                                                                     refine wpList_append_lies _ rfl _ _ _ rfl W.heap.size 3 ii (.int .i64 0) 1 8 Yba.underlying22 hi0 hz0 hz1 hz2 rfl (by omega) u52 ln _ rfl (HO.out.alloc _) ⟨wr.heap.size, 0, none⟩ 1 1 [.int .i64 (gj : Int)] rfl rfl (World.news_of_block (cs := #[.int .i64 (gj : Int)]) (Go.Deep.blk_alloc_new _ _)) (by simp [Value.oneCell']) (by omega) (by unfold maxLen; omega) (by omega) (by simp; omega) (wr.heap.size + 1) (by simp) ?_
                                                                     intro g7 cap7 w7 hown7 hgrow7 hat7 hlt7
                                                                     have H7 : Hid (W.grownBy w7 none ∧ w7.ownsRow W.heap.size 3 1 (.slice (some ⟨g7, 0, none⟩) (ln + 1) cap7) (ln + 1) (((wo mk (fun j => g0 + j) j z).map fun (a : Nat) => Value.int .i64 (a : Int)) ++ [.int .i64 (gj : Int)])) := ⟨(HGO.out.1.andThen (World.grownBy_alloc wr _ none) (fun j hj => by cases hj)).andThen hgrow7 (fun k hk => .inl (HO.out.lt k hk).1), hown7⟩
                                                                     clear hown7 hgrow7 hat7 hlt7)
                                                        go_roundg (K - (j + 1))
                                                        case measure => omega
                                                        case rel =>
                                                          refine ⟨j + 1, by omega, rfl, by go_num, H7.out.1, ?_⟩
                                                          rw [HWS.out, HGJ.out]
                                                          simp only [Bool.false_eq_true, if_false]
                                                          rw [List.length_append, List.map_append, HLN.out]
                                                          exact H7.out.2
                                                    · obtain rfl : K = j := by omega
                                                      have hlti2 : ¬ (K : Int) < (K : Int) := by omega
                                                      clear hg ho
                                                      go_wp2_with fail
                                                      go_meet
                                                      case rel =>
                                                        have h := HGO.out
                                                        rw [HWL.out] at h
                                                        exact h
                                                case rest =>
                                                  obtain ⟨hgX, hoX⟩ := hcut
                                                  obtain ⟨Q, hQ⟩ : ∃ Q, Q = wc := ⟨_, rfl⟩
                                                  subst hQ
                                                  obtain ⟨xp, xc, exf, hxh⟩ := (Sl.of_owns (lo := 0) HWL.out.symm hoX (Nat.zero_le _)).holds
                                                  rw [HWL.out] at exf
                                                  subst exf
                                                  have HXH : Hid (Holds Q xp (wo mk (fun j => g0 + j) K z)) := hxh
                                                  have HBQ : Hid (Below A2.heap.size A2 Q) := HB.out.grown hgX hAW (fun k hk => by cases hk)
                                                  have HVQ : Hid (Holds Q vp (wo mk (fun j => g0 + j) K z)) := HVH.out.below ⟨hgX.os, hgX.tape, hgX.output, hgX.size, fun k hk => hgX.block k hk (by simp)⟩
                                                  clear hgX hoX hxh
                                                  go_wp2_with (first
                                                    | (go_at_call 11
                                                       refine (equal_true vp xp wl vc xc (wo mk (fun j => g0 + j) K z) Q (by omega) HWL.out.symm HVQ HXH).mono ?_
                                                       rintro e w9 ⟨rfl, q9, hq9⟩
                                                       have HB9 : Hid (Below A2.heap.size A2 w9) := by rw [hq9]; exact HBQ.out.trans (below_drewN _ _ _)
                                                       clear hq9))
                                                  go_roundg (8 - (z + 1))
                                                  case measure => omega
                                                  case rel =>
                                                    refine ⟨z + 1, by omega, rfl, by go_num, ?_, HB9.out⟩
                                                    rw [HP.out, HCT.out, HCZ.out, decide_eq_true HKZ.out]
                                                    go_num
                                              · rw [decide_eq_false hk] at h4
                                                have hv : f z = none := by simpa using h4
                                                rw [hv] at hlk
                                                have hlk2 : (Instr.lookup 58 (.map (some wb)) (.int .i64 (z : Int)) true).run Yba.prog W = .ok (.tuple #[.slice none 0 0, .bool false]) W := hlk
                                                have hki : ¬ (K : Int) < 2 * (cz : Int) := by omega
                                                have HKZ : Hid (¬ K < 2 * cz) := hk
                                                clear h4 hv hlk hk
                                                go_wp2_with fail
                                                go_roundg (8 - (z + 1))
                                                case measure => omega
                                                case rel =>
                                                  refine ⟨z + 1, by omega, rfl, by go_num, ?_, HB.out⟩
                                                  rw [HP.out, HCT.out, HCZ.out, decide_eq_false HKZ.out]
                                                  rfl
                                          · obtain rfl : z = 8 := by omega
                                            clear hb
                                            go_wp2_with fail
                                            go_meet
                                            case rel => exact ⟨by rw [← HCT.out], HB.out⟩
                                    case rest =>
                                      obtain ⟨rfl, hbE⟩ := hcut
                                      obtain ⟨ct, hct⟩ : ∃ ct, ((List.range 8).filter fun z => decide (K < 2 * cn mk K z)).length = ct := ⟨_, rfl⟩
                                      have t2 : wc.cell? ⟨sp, 2, none⟩ = some (.map (some wb)) := (hbE.cell (p := ⟨sp, 2, none⟩) hspA).trans u2
                                      have hlen : ∀ ty, (Builtin.len_ #[58] ty #[.map (some wb)]).run Yba.prog wc = .ok (.int .i64 (ct : Int)) wc := fun ty => by
                                        have h := (HMA.out.of_block (hbE.block _ HMA.out.lt)).len ty
                                        have e : ((List.range 8).filter fun z => (f z).isSome) = (List.range 8).filter fun z => decide (K < 2 * cn mk K z) := List.filter_congr fun z hz => HF4.out z (List.mem_range.1 hz)
                                        rw [e, hct] at h
                                        exact h
                                      have hce : ((ct : Int) == (ct : Int)) = true := by simp
                                      have HBE : Hid (Below w.heap.size w wc) := HBA.out.trans (hbE.mono HBA.out.size)
                                      rw [hct]
                                      clear hbE hct
                                      go_wp2_with fail
                                      go_ret
                                      exact ⟨rfl, HBE.out⟩
end SortA
end Go.Proofs.Ybulkdgou
