import Derived.Test.YbulkdgjkDoorLawE
import Derived.BigRegion
import Derived.Laws.EntriesVeiled
namespace Go.Proofs.YbulkdgjkDoor
open Go.RowKit
attribute [local go_sem ↓] Go.wp_at_zero Go.wp_at_succ

set_option maxHeartbeats 20000000 in
set_option maxRecDepth 100000 in
theorem law_main (na : Option Addr) (nl nc : Nat) (obj : ByteArray) (conflict prior waited dead nflags : Nat) (ended evicted hist : Bool) (y : Int) (S : Nat → ByteArray) (w : World) (hn : nl ≤ 1024) (hc : conflict ≤ 255) (hnf : nflags ≤ 255)
    (hp : prior < 18446744073709551616) (hwt : waited < 18446744073709551616) (hd : dead < 18446744073709551616) (hS : Hid (IsS w na nl S)) (HT : Hid (Tab w)) (h0 : 0 < w.heap.size) :
    Calls Ybad.prog 3 #[.slice na nl nc, .string obj, .int .u8 (conflict : Int), .int .u64 (prior : Int), .int .u64 (waited : Int), .int .u64 (dead : Int), .bool ended, .bool evicted, .bool hist, .int .u8 (nflags : Int), .int .i64 y] w fun e w' => e = .returned (.bool true) ∧ Below w.heap.size w w' := by
  have h1024 : ¬ (1024 : Int) < (nl : Int) := by omega
  go_enter Ybad.func3, Ybad.ntmps3
  go_upto_if 64 with (fail)
  go_cut [23] from 63 to 64 (fun s23 wc => ∃ N : Nat, N ≤ 64 ∧ N ≤ nl ∧ s23 = .int .i64 (N : Int) ∧ wc = w)
  case first =>
    by_cases h : 64 < nl
    · have hi : (64 : Int) < (nl : Int) := by omega
      go_wp2_with fail
      go_meet
      case rel => exact ⟨64, by omega, by omega, rfl, rfl⟩
    · have hi : ¬ (64 : Int) < (nl : Int) := by omega
      go_wp2_with fail
      go_meet
      case rel => exact ⟨nl, by omega, by omega, rfl, rfl⟩
  case rest =>
    obtain ⟨N, hN, hNl, rfl, rfl⟩ := hcut
    obtain ⟨w, hw⟩ : ∃ w, w = wc := ⟨_, rfl⟩
    subst hw
    have hmk := run_mk9 (N + 1) (by omega)
    rw [show ((N + 1 : Nat) : Int) = (N : Int) + 1 by omega] at hmk
    go_upto_block 0 with (fail)
    go_cut [24, 25] from 68 to 79 (fun s24 _ wc => ∃ g cap : Nat, s24 = .slice (some ⟨g, 0, none⟩) N cap ∧ Names w wc g cap N S)
    case first =>
      go_wp2_with fail
      go_loopg [24, 25] N (fun gk s24 s25 wr => ∃ i g cap : Nat, i ≤ N ∧ gk = N - i ∧ s25 = .int .i64 (i : Int) ∧ s24 = .slice (some ⟨g, 0, none⟩) i cap ∧ Names w wr g cap i S)
      case atStart => exact ⟨0, w.heap.size, N + 1, Nat.zero_le _, rfl, rfl, rfl, Names.made w S (N + 1) (by omega)⟩
      case round =>
        obtain ⟨i, g, cap, hi, rfl, rfl, rfl, hnm⟩ := hrel
        have HN : Hid (Names w wr g cap i S) := hnm
        have hgl := hnm.own.lt g rfl
        clear hnm hmk
        by_cases hlt : i < N
        · have hlti : (i : Int) < (N : Int) := by omega
          obtain ⟨nb, no, rfl, hnb, hnc⟩ := hS.out (by omega)
          have cS : wr.cell? ⟨nb, no + i, none⟩ = some (.string (S i)) := HN.out.off.cell id (hnc i (by omega))
          obtain ⟨ii, hi0, hz0, hz1, hz2⟩ := info_parts info9
          have hown2 : Hid ((wr.alloc (.cells #[.string (S i)] 9)).ownsRow w.heap.size 9 1 (.slice (some ⟨g, 0, none⟩) i cap) i ((List.range i).map fun j => .string (S j))) := HN.out.own.alloc _
          have HNW : Hid (∀ j u, [Value.string (S i)][j]? = some u → (wr.alloc (.cells #[.string (S i)] 9)).cell? ((⟨wr.heap.size, 0, none⟩ : Addr).add j) = some u) := World.news_of_block (cs := #[.string (S i)]) (Go.Deep.blk_alloc_new _ _)
          clear hnc
          go_wp2_with (at_builtin; refine wpList_append_lies _ rfl _ _ _ rfl w.heap.size 9 ii (.string ⟨#[]⟩) 1 16 Ybad.underlying22 hi0 hz0 hz1 hz2 rfl (by omega) (.slice (some ⟨g, 0, none⟩) i cap) i _ rfl hown2.out ⟨wr.heap.size, 0, none⟩ 1 1 [.string (S i)] rfl rfl HNW.out (by simp [Value.oneCell']) (by omega) (by unfold maxLen; omega) (by omega) (by simp; omega) (wr.heap.size + 1) (by simp) ?_; intro g' cap' w3 hown3 hgrow hat hlt3)
          go_roundg (N - (i + 1))
          case measure => omega
          case rel => exact ⟨i + 1, g', cap', by omega, rfl, by go_num, rfl, HN.out.app hown3 hgrow⟩
        · obtain rfl : i = N := by omega
          have hlti : ¬ (i : Int) < (i : Int) := by omega
          go_wp2_with fail
          go_meet
          case rel => exact ⟨g, cap, rfl, HN.out⟩
    case rest =>
      obtain ⟨g, cap, rfl, hnm⟩ := hcut
      have HN : Hid (Names w wc g cap N S) := hnm
      clear hnm hmk
      obtain ⟨V, hV⟩ : ∃ V, V = wc := ⟨_, rfl⟩
      subst hV
      have hgl := HN.out.own.lt g rfl
      go_upto_if 82 with (fail)
      go_cut [24] from 80 to 85 (fun s24 wc => ∃ (n g cap : Nat) (T : Nat → ByteArray), 1 ≤ n ∧ n ≤ 64 ∧ s24 = .slice (some ⟨g, 0, none⟩) n cap ∧ Names w wc g cap n T)
      case first =>
        by_cases h0 : N = 0
        · subst h0
          have hown2 : Hid ((V.alloc (.cells #[.string ⟨#[99, 111, 110, 102, 108, 105, 99, 116]⟩] 9)).ownsRow w.heap.size 9 1 (.slice (some ⟨g, 0, none⟩) 0 cap) 0 []) := HN.out.own.alloc _
          have HNW : Hid (∀ j u, [Value.string ⟨#[99, 111, 110, 102, 108, 105, 99, 116]⟩][j]? = some u → (V.alloc (.cells #[.string ⟨#[99, 111, 110, 102, 108, 105, 99, 116]⟩] 9)).cell? ((⟨V.heap.size, 0, none⟩ : Addr).add j) = some u) := World.news_of_block (cs := #[.string ⟨#[99, 111, 110, 102, 108, 105, 99, 116]⟩]) (Go.Deep.blk_alloc_new _ _)
          obtain ⟨ii, hi0, hz0, hz1, hz2⟩ := info_parts info9
          go_wp2_with (at_builtin; refine wpList_append_lies _ rfl _ _ _ rfl w.heap.size 9 ii (.string ⟨#[]⟩) 1 16 Ybad.underlying22 hi0 hz0 hz1 hz2 rfl (by omega) (.slice (some ⟨g, 0, none⟩) 0 cap) 0 _ rfl hown2.out ⟨V.heap.size, 0, none⟩ 1 1 [.string ⟨#[99, 111, 110, 102, 108, 105, 99, 116]⟩] rfl rfl HNW.out (by simp [Value.oneCell']) (by omega) (by unfold maxLen; omega) (by omega) (by simp; omega) (V.heap.size + 1) (by simp) ?_; intro g' cap' w3 hown3 hgrow hat hlt3)
          go_meet
          case rel => exact ⟨1, g', cap', fun _ => ⟨#[99, 111, 110, 102, 108, 105, 99, 116]⟩, by omega, by omega, rfl, Names.app (S := fun _ => ⟨#[99, 111, 110, 102, 108, 105, 99, 116]⟩) (g := g) (cap := cap) (n := 0) ⟨HN.out.off, HN.out.own⟩ hown3 hgrow⟩
        · have hz : ¬ (N : Int) = 0 := by omega
          go_wp2_with fail
          go_meet
          case rel => exact ⟨N, g, cap, S, by omega, by omega, rfl, HN.out⟩
      case rest =>
        obtain ⟨n, nb, ncap, T, hn1, hn64, rfl, hnm⟩ := hcut
        have HM : Hid (Names w wc nb ncap n T) := hnm
        clear hnm HN hgl hNl hN hS
        obtain ⟨V, hV⟩ : ∃ V, V = wc := ⟨_, rfl⟩
        subst hV
        obtain ⟨ci, hcid, hci⟩ : ∃ ci : Nat, ci = conflict % n ∧ ((conflict : Int) % (n : Int)) = (ci : Int) := ⟨_, rfl, by simp⟩
        have hcin : ci < n := by rw [hcid]; exact Nat.mod_lt _ (by omega)
        clear hcid
        obtain ⟨mk, hmkd⟩ : ∃ mk : Nat, mk = 2 ^ n - 1 := ⟨_, rfl⟩
        have hmask : Hid (∀ u : World, Calls Ybad.prog 4 #[.int .i64 (n : Int)] u fun e w' => e = .returned (.int .u64 (mk : Int)) ∧ w' = u) := fun u => by rw [hmkd]; exact mask_any n u hn1 hn64
        have hmk64 : mk < 18446744073709551616 := by
          rw [hmkd]
          have : 2 ^ n ≤ 2 ^ 64 := Nat.pow_le_pow_right (by omega) hn64
          omega
        obtain ⟨pm, hpmd⟩ : ∃ pm : Nat, pm = prior &&& mk := ⟨_, rfl⟩
        obtain ⟨pw, hpwd⟩ : ∃ pw : Nat, pw = waited &&& mk := ⟨_, rfl⟩
        obtain ⟨pd, hpdd⟩ : ∃ pd : Nat, pd = dead &&& mk := ⟨_, rfl⟩
        have hpm : bits .and .u64 (prior : Int) (mk : Int) = (pm : Int) := by rw [hpmd]; exact u64_and_nat _ _ hp hmk64
        have hpw : bits .and .u64 (waited : Int) (mk : Int) = (pw : Int) := by rw [hpwd]; exact u64_and_nat _ _ hwt hmk64
        have hpd : bits .and .u64 (dead : Int) (mk : Int) = (pd : Int) := by rw [hpdd]; exact u64_and_nat _ _ hd hmk64
        have HPL : Hid (pm < 2 ^ n ∧ pw < 2 ^ n ∧ pd < 2 ^ n) := by
          have hm : mk < 2 ^ n := by rw [hmkd]; have : 0 < 2 ^ n := Nat.two_pow_pos n; omega
          exact ⟨by rw [hpmd]; exact Nat.lt_of_le_of_lt Nat.and_le_right hm, by rw [hpwd]; exact Nat.lt_of_le_of_lt Nat.and_le_right hm, by rw [hpdd]; exact Nat.lt_of_le_of_lt Nat.and_le_right hm⟩
        clear hpmd hpwd hpdd hmkd
        have hn0 : ¬ (n : Int) = 0 := by omega
        go_upto_region 20 with (first | (go_at_call 4; refine (hmask.out _).mono ?_; rintro e w' ⟨rfl, hw'⟩; replace hw' := hw'.symm; subst hw'))
        have hmk8 := run_make_row' (P := Ybad.prog) 46 61 (.int .u8 0) 1 Ybad.underlying46 info61 rfl .i64 .i64 n (by omega) (by omega)
        have hmkf := run_make_row' (P := Ybad.prog) 47 160 (.float .f64 0) 8 Ybad.underlying47 info160 rfl .i64 .i64 n (by omega) (by omega)
        have hw0 : Hid (0 < w.heap.size) := h0
        go_cut [31, 32] from 105 to 111 (fun s31 s32 wc => ∃ eb yb sb : Nat, s31 = .pointer (some ⟨eb, 0, none⟩) ∧ s32 = .pointer (some ⟨yb, 0, none⟩) ∧ Off (fun _ => False) w wc ∧ w.heap.size ≤ nb ∧ EnvY wc nb eb yb sb n ncap T)
        case first =>
          go_region
          · go_wp2_with fail
            go_meet
            case rel => exact ⟨V.heap.size, V.heap.size + 3, V.heap.size + 1, rfl, rfl, ((((HM.out.off.alloc _).alloc _).alloc _).alloc _).drew, (HM.out.own.lt nb rfl).1, envY_one hw0.out HM.out⟩
          · go_wp2_with fail
            go_meet
            case rel => exact ⟨V.heap.size, V.heap.size + 3, V.heap.size + 2, rfl, rfl, ((((HM.out.off.alloc _).alloc _).alloc _).alloc _).drew, (HM.out.own.lt nb rfl).1, envY_two hw0.out HM.out⟩
        case rest =>
          obtain ⟨eb, yb, sb, rfl, rfl, hoff, hlo, henv⟩ := hcut
          have HE : Hid (Off (fun _ => False) w wc ∧ w.heap.size ≤ nb ∧ EnvY wc nb eb yb sb n ncap T) := ⟨hoff, hlo, henv⟩
          clear hoff hlo henv hmk8 hmkf HM
          obtain ⟨V, hV⟩ : ∃ V, V = wc := ⟨_, rfl⟩
          subst hV
          have hmf : ∀ (fn : Fn) (first cap : Array Value) (w : World), (Instr.makeFunc fn first cap).run Ybad.prog w = .ok (.func fn first cap) w := fun _ _ _ _ => rfl
          go_upto_region 26 with (fail)
          go_cut [33, 34, 35, 36, 37] from 112 to 120 (fun s33 s34 s35 s36 s37 wc => ∃ cb gb ib cc ob : Nat, s33 = .pointer (some ⟨cb, 0, none⟩) ∧ s34 = .pointer (some ⟨gb, 0, none⟩) ∧ s35 = .pointer (some ⟨ib, 0, none⟩) ∧ s36 = .pointer (some ⟨cc, 0, none⟩) ∧ s37 = .pointer (some ⟨ob, 0, none⟩) ∧
            Off (fun _ => False) w wc ∧ EnvY wc nb eb yb sb n ncap T ∧ EnvO wc eb yb sb cb gb ib cc ob obj none)
          case first =>
            go_wp2_with fail
            go_meet
            case rel =>
              have hof : Off (fun _ => False) V _ := ((((((Off.refl (fun _ => False) V).alloc (.cells #[.int .i64 0] 3)).alloc (.cells #[.pointer none] 52)).alloc (.cells #[.nilIface] 20)).alloc (.cells #[.bool true] 4)).alloc
                (.cells (oCells eb yb obj (endfn V.heap.size (V.heap.size + 1) (V.heap.size + 1 + 1) (V.heap.size + 1 + 1 + 1)) none) 78))
              have ho := HE.out.2.2.ord
              exact ⟨_, _, _, _, _, rfl, rfl, rfl, rfl, rfl, HE.out.1.trans hof, HE.out.2.2.off hof id id id id, envO_made ho.2.2.2.2.2.1 ho.2.2.2.2.2.2⟩
          case rest =>
            obtain ⟨cb, gb, ib, cc, ob, rfl, rfl, rfl, rfl, rfl, hoff, henvy, henvo⟩ := hcut
            have HO : Hid (Off (fun _ => False) w wc ∧ w.heap.size ≤ nb ∧ EnvY wc nb eb yb sb n ncap T ∧ EnvO wc eb yb sb cb gb ib cc ob obj none) := ⟨hoff, HE.out.2.1, henvy, henvo⟩
            clear hoff henvy henvo HE hmf
            obtain ⟨V, hV⟩ : ∃ V, V = wc := ⟨_, rfl⟩
            subst hV
            go_upto_if 121 with (fail)
            go_cut [38] from 121 to 140 (fun s38 wc => ∃ (hp : Option Addr) (hb ch b1 b2 b3 : Nat), s38 = .pointer hp ∧ hp = (if hist then some ⟨hb, 0, none⟩ else none) ∧ Off (fun _ => False) w wc ∧ EnvY wc nb eb yb sb n ncap T ∧ EnvH wc eb yb sb cb gb ib cc ob hb ch b1 b2 b3 n obj hist)
            case first =>
              cases hist with
              | false =>
                go_wp2_with fail
                go_meet
                case rel => exact ⟨none, 0, 0, 0, 0, 0, rfl, rfl, HO.out.1, HO.out.2.2.1, ⟨HO.out.2.2.2, by simp, by simp⟩⟩
              | true =>
                have hmk := run_make_row' (P := Ybad.prog) 79 3 (.int .i64 0) 8 Ybad.underlying79 info3 rfl .i64 .i64 n (by omega) (by omega)
                go_wp2_with fail
                go_cut [38] from 121 to 130 (fun s38 wc => ∃ hb b1 b2 b3 : Nat, s38 = .pointer (some ⟨hb, 0, none⟩) ∧ HistA V wc hb yb b1 b2 b3 n)
                case first =>
                  go_region
                  all_goals
                    go_wp2_with fail
                    go_meet
                    case rel => exact ⟨_, _, _, _, rfl, hist_made (by simp) (by simp) (by simp) (by omega) (by omega) (by omega)⟩
                case rest =>
                  obtain ⟨hb, b1, b2, b3, rfl, hA⟩ := hcut
                  have HA : Hid (HistA V wc hb yb b1 b2 b3 n) := hA
                  clear hA hmk
                  obtain ⟨W, hW⟩ : ∃ W, W = wc := ⟨_, rfl⟩
                  subst hW
                  have hhb : hb < W.heap.size := HA.out.row.lt
                  have k2 : W.cell? ⟨hb, 2, none⟩ = some (.pointer none) := HA.out.row.cell (by omega)
                  have k2f := HA.out.row.frozen 2
                  have o11 : W.cell? ⟨ob, 11, none⟩ = some (.pointer none) := HA.out.off.cell id HO.out.2.2.2.o11
                  have o11f : W.frozen? ⟨ob, 11, none⟩ = false := HA.out.off.frozen id (World.block_lt_of_cell? _ _ HO.out.2.2.2.o11) HO.out.2.2.2.o11f
                  have hob : ob < W.heap.size := World.block_lt_of_cell? _ _ o11
                  have hne : ¬ hb = ob := by
                    have := HA.out.ord
                    have := World.block_lt_of_cell? _ _ HO.out.2.2.2.o11
                    simp only at this
                    omega
                  have hne' : ¬ ob = hb := fun e => hne e.symm
                  go_wp2_with (first | (
                    go_at_call 6
                    refine (store6 hb 2 W.heap.size (.pointer none) (.bool false) _ ?_ ?_ ?_).mono ?_
                    · go_simp
                    · go_simp
                    · go_simp
                    rintro e w' ⟨rfl, hw'⟩
                    subst hw'))
                  go_meet
                  case rel =>
                    have := envH_link HO.out.2.1 HO.out.1 HO.out.2.2.1 HO.out.2.2.2 HA.out
                    exact ⟨_, _, _, _, _, _, rfl, rfl, this⟩
            case rest =>
              obtain ⟨hp, hb, ch, b1, b2, b3, rfl, hhp, hoff, hy, hh⟩ := hcut
              have HHP : Hid (hp = (if hist then some ⟨hb, 0, none⟩ else none)) := hhp
              have HH : Hid (Off (fun _ => False) w wc ∧ w.heap.size ≤ nb ∧ EnvY wc nb eb yb sb n ncap T ∧ EnvH wc eb yb sb cb gb ib cc ob hb ch b1 b2 b3 n obj hist) := ⟨hoff, HO.out.2.1, hy, hh⟩
              clear hoff hy hh HO hhp
              obtain ⟨V, hV⟩ : ∃ V, V = wc := ⟨_, rfl⟩
              subst hV
              go_upto_if 147 with (fail)
              go_cut [39, 40, 41] from 141 to 158 (fun s39 s40 s41 wc => ∃ (xp : Option Addr) (tb bb xb : Nat), s39 = .pointer (some ⟨tb, 0, none⟩) ∧ s40 = .pointer (some ⟨bb, 0, none⟩) ∧ s41 = .pointer xp ∧ xp = (if evicted then some ⟨xb, 0, none⟩ else none) ∧ Off (fun _ => False) w wc ∧
                EnvY wc nb eb yb sb n ncap T ∧ EnvH wc eb yb sb cb gb ib cc ob hb ch b1 b2 b3 n obj hist ∧ EnvT wc eb tb bb xb evicted ∧ ob < tb ∧ (hist = true → ch < tb))
              case first =>
                have HL : Hid (ob < V.heap.size ∧ (hist = true → ch < V.heap.size)) := ⟨World.block_lt_of_cell? _ _ HH.out.2.2.2.o.o2, fun e => (HH.out.2.2.2.h e).ch.lt⟩
                cases evicted with
                | false =>
                  go_wp2_with fail
                  go_meet
                  case rel =>
                    have hof : Off (fun _ => False) V ((V.alloc (.cells (txCells eb none) 118)).alloc (.cells (txCells eb none) 118)) := ((Off.refl _ _).alloc _).alloc _
                    exact ⟨none, V.heap.size, V.heap.size + 1, 0, rfl, rfl, rfl, rfl, HH.out.1.trans hof, HH.out.2.2.1.off hof id id id id, HH.out.2.2.2.off hof id id id id id id id (fun _ => ⟨id, id, id, id, id⟩), envT_no V eb, HL.out.1, HL.out.2⟩
                | true =>
                  go_wp2_with (first | (
                    go_at_call 7
                    refine (store7 V.heap.size 10 (V.heap.size + 1 + 1 + 1) (.pointer none) (.pointer (some ⟨V.heap.size + 1 + 1, 0, none⟩)) _ ?_ ?_ ?_).mono ?_
                    · go_simp
                    · go_simp
                    · go_simp
                    rintro e w' ⟨rfl, hw'⟩
                    subst hw'))
                  go_meet
                  case rel =>
                    have hof : Off (fun _ => False) V ((((V.alloc (.cells (txCells eb (some ⟨V.heap.size + 1 + 1 + 1, 0, none⟩)) 118)).alloc (.cells (txCells eb none) 118)).alloc (.cells #[.string ⟨#[101, 97, 114, 108, 105, 101, 114]⟩, .string ⟨#[]⟩] 121)).alloc (.cells #[.pointer (some ⟨V.heap.size + 1 + 1, 0, none⟩), .pointer none, .pointer (some ⟨ob, 0, none⟩), .int .u64 0, .int .u64 0] 125)) := ((((Off.refl _ _).alloc _).alloc _).alloc _).alloc _
                    exact ⟨some ⟨V.heap.size + 1 + 1 + 1, 0, none⟩, V.heap.size, V.heap.size + 1, V.heap.size + 1 + 1 + 1, rfl, rfl, rfl, by simp, HH.out.1.trans hof, HH.out.2.2.1.off hof id id id id, HH.out.2.2.2.off hof id id id id id id id (fun _ => ⟨id, id, id, id, id⟩), envT_yes V eb ob _ _, HL.out.1, HL.out.2⟩
              case rest =>
                obtain ⟨xp, tb, bb, xb, rfl, rfl, rfl, hxp, hoff, hy, hh, ht, hot⟩ := hcut
                have HXP : Hid (xp = (if evicted then some ⟨xb, 0, none⟩ else none)) := hxp
                have HTT : Hid (Off (fun _ => False) w wc ∧ w.heap.size ≤ nb ∧ EnvY wc nb eb yb sb n ncap T ∧ EnvH wc eb yb sb cb gb ib cc ob hb ch b1 b2 b3 n obj hist ∧ EnvT wc eb tb bb xb evicted ∧ ob < tb ∧ (hist = true → ch < tb)) := ⟨hoff, HH.out.2.1, hy, hh, ht, hot⟩
                clear hoff hy hh ht hot HH hxp
                obtain ⟨V, hV⟩ : ∃ V, V = wc := ⟨_, rfl⟩
                subst hV
                obtain ⟨k, hk7, hkd⟩ : ∃ k : Nat, k ≤ 7 ∧ ((nflags : Int) % 8) = (k : Int) := ⟨nflags % 8, by omega, by simp⟩
                have hmk := run_mk72 k hk7
                go_upto_region 40 with (fail)
                go_cut [42, 43, 44] from 159 to 173 (fun s42 s43 s44 wc => ∃ mb rb : Nat, s42 = .pointer (some ⟨mb, 0, none⟩) ∧ s43 = .int .i64 (k : Int) ∧ s44 = .slice (some ⟨rb, 0, none⟩) k k ∧ Off (fun _ => False) V wc ∧ V.heap.size ≤ mb ∧
                  L2 wc wc mb rb ob tb pm pw pd k 0 ended y (.slice none 0 0) (.slice none 0 0))
                case first =>
                  go_wp2_with fail
                  go_meet
                  case rel =>
                    refine ⟨V.heap.size, V.heap.size + 1, rfl, by rw [hkd], rfl, ((Off.refl _ _).alloc _).alloc _, Nat.le_refl _, ⟨Off.refl _ _, rsl_made _ _ _ _ _ (by simp), (mf_made V tb ob pm pw pd ended _).alloc _, World.ownsRow_nil _ _ _ _, World.ownsRow_nil _ _ _ _, by simp [Value.ownBlock], by simp⟩⟩
                case rest =>
                  obtain ⟨mb, rb, rfl, rfl, rfl, hoff, hlo, hl2⟩ := hcut
                  have HL2 : Hid (Off (fun _ => False) V wc ∧ V.heap.size ≤ mb ∧ L2 wc wc mb rb ob tb pm pw pd k 0 ended y (.slice none 0 0) (.slice none 0 0)) := ⟨hoff, hlo, hl2⟩
                  clear hoff hlo hl2 hmk hkd
                  obtain ⟨U, hU⟩ : ∃ U, U = wc := ⟨_, rfl⟩
                  subst hU
                  go_upto_block 2 with (fail)
                  go_cut [45] from 174 to 230 (fun _ wc => ∃ fl pr, L2 U wc mb rb ob tb pm pw pd k k ended y fl pr)
                  case first =>
                    go_wp2_with fail
                    go_loopg [45] k (fun gk s45 wr => ∃ (i : Nat) (fl pr : Value), i ≤ k ∧ gk = k - i ∧ s45 = .int .i64 (i : Int) ∧ L2 U wr mb rb ob tb pm pw pd k i ended y fl pr)
                    case atStart => exact ⟨0, _, _, Nat.zero_le _, rfl, rfl, HL2.out.2.2⟩
                    case round =>
                      obtain ⟨i, fl, pr, hi, rfl, rfl, hl2⟩ := hrel
                      have HI : Hid (L2 U wr mb rb ob tb pm pw pd k i ended y fl pr) := hl2
                      clear hl2
                      by_cases hlt : i < k
                      · have hlti : (i : Int) < (k : Int) := by omega
                        have hi0 : (0 : Int) ≤ (i : Int) := by omega
                        have z4 : wr.cell? ⟨rb, i * 5 + 4, none⟩ = some (.pointer none) := rsl_zero (r := 4) HI.out.rs hlt (by omega)
                        have z3 : wr.cell? ⟨rb, i * 5 + 3, none⟩ = some (.pointer none) := rsl_zero (r := 3) HI.out.rs hlt (by omega)
                        have z2 : wr.cell? ⟨rb, i * 5 + 2, none⟩ = some (.slice none 0 0) := rsl_zero (r := 2) HI.out.rs hlt (by omega)
                        have f4 := HI.out.rs.frozen (i * 5 + 4)
                        have f3 := HI.out.rs.frozen (i * 5 + 3)
                        have f2 := HI.out.rs.frozen (i * 5 + 2)
                        have m5 : wr.cell? ⟨mb, 5, none⟩ = some fl := HI.out.mem.cell (by omega)
                        have m6 : wr.cell? ⟨mb, 6, none⟩ = some pr := HI.out.mem.cell (by omega)
                        have fm5 := HI.out.mem.frozen 5
                        have fm6 := HI.out.mem.frozen 6
                        have hmr : ¬ mb = rb := by have := HI.out.lt; omega
                        have hrm : ¬ rb = mb := fun e => hmr e.symm
                        have hml : mb < wr.heap.size := HI.out.mem.lt
                        by_cases hpar : i % 2 = 0
                        · have hpi : ((i : Int) % 2) = 0 := by omega
                          have HPAR : Hid (i % 2 = 0) := hpar
                          clear hpar
                          obtain ⟨ii, hi0, hz0, hz1, hz2⟩ := info_parts5 info133
                          have HOWN : Hid (∀ o : Obj, ((rs3 wr rb mb ob i).alloc o).drew.ownsRow U.heap.size 133 2 fl ((i + 1) / 2) (heldL rb (fun j => 2 * j) ((i + 1) / 2))) := fun o => owns_keep HI.out.ofl (fun g hg => by
                            have hq := HI.out.ofl.lt g hg
                            exact (Go.Deep.blk_alloc_lt _ _ _ (by have := (rs3_off wr rb mb ob i).size; omega)).trans ((rs3_off wr rb mb ob i).block g hq.2 (by have := HI.out.lt; omega)))
                          have hus : U.heap.size ≤ wr.heap.size := HI.out.off.size
                          go_wp2_with fail
                          refine wp_region_noPanic ?_
                          go_region_law
                            (
                              refine step_append_lies _ (by rfl) _ _ _ (by rfl) U.heap.size 133 ii (.agg #[.pointer none, .int .u8 0]) 2 16 Ybad.underlying127 hi0 hz0 hz1 hz2 (by rfl) (by omega) fl ((i + 1) / 2) (heldL rb (fun j => 2 * j) ((i + 1) / 2)) (by rfl) (HOWN.out (.cells #[.pointer (some ⟨rb, i * 5, none⟩), .int .u8 0] 133)) ⟨wr.heap.size, 0, none⟩ 1 1 [.pointer (some ⟨rb, i * 5, none⟩), .int .u8 0] (by rfl) (by rfl) (World.news_of_block (cs := #[.pointer (some ⟨rb, i * 5, none⟩), .int .u8 0]) (blk_new_at (by simp))) (by simp [Value.oneCell']) (by omega) (by unfold maxLen; omega) (by omega) (by simp; omega) (wr.heap.size + 1) (by simp) ?_
                              intro g cap w3 hown3 hgrow hat hlt3
                              have e5 : w3.cell? ⟨mb, 5, none⟩ = some fl := (by
                                have hr := (rs3_off wr rb mb ob i).row (b := mb) (by omega) HI.out.mem
                                have hm : w3.rowIs mb 129 12 _ := hr.of_block ((hgrow.block mb (by simp; omega) (fun e => by have := (HI.out.ofl.lt mb e.symm).1; have := HI.out.lt; omega)).trans (Go.Deep.blk_alloc_lt _ _ _ (by simp; omega)))
                                exact hm.cell (i := 5) (by omega))
                              have g5 : w3.frozen? ⟨mb, 5, none⟩ = false := (by
                                have hr := (rs3_off wr rb mb ob i).row (b := mb) (by omega) HI.out.mem
                                have hm : w3.rowIs mb 129 12 _ := hr.of_block ((hgrow.block mb (by simp; omega) (fun e => by have := (HI.out.ofl.lt mb e.symm).1; have := HI.out.lt; omega)).trans (Go.Deep.blk_alloc_lt _ _ _ (by simp; omega)))
                                exact hm.frozen 5))
                          all_goals
                            refine NoPanic.normal ?_
                            go_wp2_with fail
                            go_roundg (k - (i + 1))
                            case measure => omega
                            case rel =>
                              have hgrow' : ((rs3 wr rb mb ob i).alloc (.cells #[.pointer (some ⟨rb, i * 5, none⟩), .int .u8 0] 133)).drew.grownBy w3 fl.ownBlock := hgrow
                              have hstep := HI.out.even HPAR.out (((Off.refl (fun _ => False) (rs3 wr rb mb ob i)).alloc (.cells #[.pointer (some ⟨rb, i * 5, none⟩), .int .u8 0] 133)).drew) hgrow' hown3 hat (by simp [rs3])
                              exact ⟨i + 1, _, _, by omega, rfl, by go_num, hstep⟩
                        · have hpi : ((i : Int) % 2) = 1 := by omega
                          have HPAR : Hid (i % 2 = 1) := by show i % 2 = 1; omega
                          clear hpar
                          obtain ⟨ii, hi0, hz0, hz1, hz2⟩ := info_parts5 info133
                          have HOWN : Hid (∀ o : Obj, ((rs3 wr rb mb ob i).alloc o).drew.ownsRow U.heap.size 133 2 pr (i / 2) (heldL rb (fun j => 2 * j + 1) (i / 2))) := fun o => owns_keep HI.out.opr (fun g hg => by
                            have hq := HI.out.opr.lt g hg
                            exact (Go.Deep.blk_alloc_lt _ _ _ (by have := (rs3_off wr rb mb ob i).size; omega)).trans ((rs3_off wr rb mb ob i).block g hq.2 (by have := HI.out.lt; omega)))
                          have hus : U.heap.size ≤ wr.heap.size := HI.out.off.size
                          go_wp2_with fail
                          refine wp_region_noPanic ?_
                          go_region_law
                            (
                              refine step_append_lies _ (by rfl) _ _ _ (by rfl) U.heap.size 133 ii (.agg #[.pointer none, .int .u8 0]) 2 16 Ybad.underlying127 hi0 hz0 hz1 hz2 (by rfl) (by omega) pr (i / 2) (heldL rb (fun j => 2 * j + 1) (i / 2)) (by rfl) (HOWN.out (.cells #[.pointer (some ⟨rb, i * 5, none⟩), .int .u8 0] 133)) ⟨wr.heap.size, 0, none⟩ 1 1 [.pointer (some ⟨rb, i * 5, none⟩), .int .u8 0] (by rfl) (by rfl) (World.news_of_block (cs := #[.pointer (some ⟨rb, i * 5, none⟩), .int .u8 0]) (blk_new_at (by simp))) (by simp [Value.oneCell']) (by omega) (by unfold maxLen; omega) (by omega) (by simp; omega) (wr.heap.size + 1) (by simp) ?_
                              intro g cap w3 hown3 hgrow hat hlt3
                              have e5 : w3.cell? ⟨mb, 6, none⟩ = some pr := (by
                                have hr := (rs3_off wr rb mb ob i).row (b := mb) (by omega) HI.out.mem
                                have hm : w3.rowIs mb 129 12 _ := hr.of_block ((hgrow.block mb (by simp; omega) (fun e => by have := (HI.out.opr.lt mb e.symm).1; have := HI.out.lt; omega)).trans (Go.Deep.blk_alloc_lt _ _ _ (by simp; omega)))
                                exact hm.cell (i := 6) (by omega))
                              have g5 : w3.frozen? ⟨mb, 6, none⟩ = false := (by
                                have hr := (rs3_off wr rb mb ob i).row (b := mb) (by omega) HI.out.mem
                                have hm : w3.rowIs mb 129 12 _ := hr.of_block ((hgrow.block mb (by simp; omega) (fun e => by have := (HI.out.opr.lt mb e.symm).1; have := HI.out.lt; omega)).trans (Go.Deep.blk_alloc_lt _ _ _ (by simp; omega)))
                                exact hm.frozen 6))
                          all_goals
                            refine NoPanic.normal ?_
                            go_wp2_with fail
                            go_roundg (k - (i + 1))
                            case measure => omega
                            case rel =>
                              have hgrow' : ((rs3 wr rb mb ob i).alloc (.cells #[.pointer (some ⟨rb, i * 5, none⟩), .int .u8 0] 133)).drew.grownBy w3 pr.ownBlock := hgrow
                              have hstep := HI.out.odd HPAR.out (((Off.refl (fun _ => False) (rs3 wr rb mb ob i)).alloc (.cells #[.pointer (some ⟨rb, i * 5, none⟩), .int .u8 0] 133)).drew) hgrow' hown3 hat (by simp [rs3])
                              exact ⟨i + 1, _, _, by omega, rfl, by go_num, hstep⟩
                      · obtain rfl : i = k := by omega
                        have hlti : ¬ (i : Int) < (i : Int) := by omega
                        go_wp2_with fail
                        go_meet
                        case rel => exact ⟨_, _, HI.out⟩
                  case rest =>
                    obtain ⟨fl, pr, hl2⟩ := hcut
                    obtain ⟨fp, fb, cf, rfl, hfp, hfb, hFL⟩ := slice_form hl2.ofl
                    obtain ⟨pp, pb, cp, rfl, hpp, hpb, hPL⟩ := slice_form hl2.opr
                    obtain ⟨nf, hnfd⟩ : ∃ nf, nf = (k + 1) / 2 := ⟨_, rfl⟩
                    obtain ⟨np, hnpd⟩ : ∃ np, np = k / 2 := ⟨_, rfl⟩
                    rw [← hnfd] at hfp hFL hl2
                    rw [← hnpd] at hpp hPL hl2
                    have HL3 : Hid (L2 U wc mb rb ob tb pm pw pd k k ended y (.slice fp nf cf) (.slice pp np cp) ∧ (fp = none ∧ nf = 0 ∧ cf = 0 ∨ fp = some ⟨fb, 0, none⟩ ∧ nf ≤ cf) ∧ (pp = none ∧ np = 0 ∧ cp = 0 ∨ pp = some ⟨pb, 0, none⟩ ∧ np ≤ cp) ∧ U.heap.size ≤ fb ∧ U.heap.size ≤ pb ∧ Held wc fb nf rb (fun i => 2 * i) ∧ Held wc pb np rb (fun i => 2 * i + 1) ∧ nf = (k + 1) / 2 ∧ np = k / 2) := ⟨hl2, hfp, hpp, hfb, hpb, hFL, hPL, hnfd, hnpd⟩
                    have m5 : wc.cell? ⟨mb, 5, none⟩ = some (.slice fp nf cf) := hl2.mem.cell (by omega)
                    have m6 : wc.cell? ⟨mb, 6, none⟩ = some (.slice pp np cp) := hl2.mem.cell (by omega)
                    clear hl2 hfp hpp hfb hpb hFL hPL hnfd hnpd
                    obtain ⟨D0, hD0⟩ : ∃ D0, D0 = wc := ⟨_, rfl⟩
                    subst hD0
                    obtain ⟨wn, hwn⟩ : ∃ wn : Nat, wn = pw &&& (18446744073709551615 - pd) := ⟨_, rfl⟩
                    obtain ⟨bit, hbit⟩ : ∃ bit : Nat, bit = 2 ^ ci := ⟨_, rfl⟩
                    go_upto_region 50 with (fail)
                    go_cut [46, 47] from 231 to 240 (fun s46 s47 wd => s46 = .int .i64 (nf : Int) ∧ s47 = .int .i64 (np : Int) ∧ Off (fun _ => False) D0 wd)
                    case first =>
                      go_quiet (fail)
                      go_wp2_with fail
                      go_meet
                      case rel => exact ⟨rfl, rfl, (Off.refl _ _).drewN _⟩
                    case rest =>
                      obtain ⟨rfl, rfl, hoffd⟩ := hcut
                      obtain ⟨D, hD⟩ : ∃ D, D = wc := ⟨_, rfl⟩
                      subst hD
                      obtain ⟨l2, hfp, hpp, hfb, hpb, hFL, hPL, hnfd, hnpd⟩ := HL3.out
                      obtain ⟨t1, t2, tY, tH, tT, tO, tC⟩ := HTT.out
                      obtain ⟨u1, u2, u3⟩ := HL2.out
                      have oV : Off (fun b => b = rb ∨ b = mb) V D := (u1.mono (fun _ _ h => h.elim)).trans (l2.off.trans (hoffd.mono (fun _ _ h => h.elim)))
                      have ltb : tb < V.heap.size := World.block_lt_of_cell? _ _ tT.t0
                      have lbb : bb < V.heap.size := World.block_lt_of_cell? _ _ tT.b0
                      have oy := tY.ord
                      have oo := tH.o.ord
                      have l3 := l2.lt
                      have hev := evict_at D eb nb bb yb sb cb gb ib cc ob tb mb rb fb pb hb ch b1 b2 b3 xb k nf np cf cp n ncap pm pw pd wn ci bit hist ended evicted fp pp y obj T
                        (tY.off oV (by omega) (by omega) (by omega) (by omega)) (tH.off oV (by omega) (by omega) (by omega) (by omega) (by omega) (by omega) (by omega) (fun e => by have := tH.ord e; have := tC e; omega)) (tT.off oV (by omega) (by omega) (fun e => by have := (tT.xs e).2.1; omega))
                        (hoffd.row id l2.mem) (hoffd.row id (rsl_all l2.rs)) (hFL.off hoffd id) (hPL.off hoffd id) hfp hpp ⟨hnfd, hnpd⟩ hk7 (by omega) (fun e => by have := (tT.xs e).2.1; omega) tC
                        (fun i hi => oV.cell (by omega) (t1.cell id (HT.out i hi))) hn64 HPL.out.1 HPL.out.2.1 HPL.out.2.2 hcin hbit hwn
                      have oD : Off (fun _ => False) w D := t1.fresh oV (by rintro b (h | h) <;> omega)
                      have HEV : Hid (Calls Ybad.prog 8 #[.agg #[.pointer (some ⟨ob, 0, none⟩), .pointer (some ⟨mb, 0, none⟩), .int .i64 (ci : Int)], .pointer (some ⟨bb, 0, none⟩)] D fun e w' => e = .returned (.tuple #[]) ∧
                        Aft D w' nb yb cb gb ib cc ob tb bb mb rb hb ch b1 b2 b3 xb sb k nf np cf cp n pm pw pd wn ci bit hist ended evicted fp pp y obj (T ci)) := hev
                      have HOD : Hid (Off (fun _ => False) w D ∧ w.heap.size ≤ nb) := ⟨oD, t2⟩
                      clear hev oD oV l2 hfp hpp hfb hpb hFL hPL hnfd hnpd t1 t2 tY tH tT tO tC u1 u2 u3 HL3 HTT HL2 ltb lbb oy oo l3 hoffd m5 m6 HT hw0 hmask
                      go_upto_region 51 with (fail)
                      go_cut [] from 241 to 246 (fun wd => Off (fun _ => False) w wd ∧ Aft D wd nb yb cb gb ib cc ob tb bb mb rb hb ch b1 b2 b3 xb sb k nf np cf cp n pm pw pd wn ci bit hist ended evicted fp pp y obj (T ci))
                      case first =>
                        go_wp2_with (first | (go_at_call 8; refine HEV.out.mono ?_; rintro e w' ⟨rfl, haft⟩))
                        go_meet
                        case rel => exact ⟨haft.off w HOD.out.1 HOD.out.2, haft⟩
                      case rest =>
                        have HF : Hid (Off (fun _ => False) w wc ∧ Aft D wc nb yb cb gb ib cc ob tb bb mb rb hb ch b1 b2 b3 xb sb k nf np cf cp n pm pw pd wn ci bit hist ended evicted fp pp y obj (T ci)) := hcut
                        clear hcut HEV HOD
                        obtain ⟨F, hF⟩ : ∃ F, F = wc := ⟨_, rfl⟩
                        subst hF
                        obtain ⟨xv, hxv⟩ := HF.out.2.ev
                        obtain ⟨want, hwant⟩ : ∃ want : Nat, want = pm ||| bit := ⟨_, rfl⟩
                        have HW : Hid (want = pm ||| bit ∧ wn = pw &&& (18446744073709551615 - pd) ∧ bit = 2 ^ ci) := ⟨hwant, hwn, hbit⟩
                        have HX : Hid (Ev F tb bb ob bit xb xv evicted obj (T ci)) := hxv
                        have m7 : F.cell? ⟨mb, 7, none⟩ = some (.int .u64 (want : Int)) := by rw [hwant]; exact HF.out.2.m7
                        have m10 := HF.out.2.m10
                        have m11 := HF.out.2.m11
                        have t10 := hxv.c
                        have h64 : bit < 18446744073709551616 := by rw [hbit]; exact pow_lt64 (by omega)
                        have hwrap := wrap_pow hbit.symm h64
                        have hpml : pm < 18446744073709551616 := Nat.lt_of_lt_of_le HPL.out.1 (show 2 ^ n ≤ 2 ^ 64 from Nat.pow_le_pow_right (by omega) hn64)
                        have hor : bits .or .u64 (pm : Int) (bit : Int) = (want : Int) := by rw [hwant]; exact u64_or_nat _ _ hpml h64
                        have tsh : Hid (F.shape? xv = some (125, 5)) := hxv.s
                        clear hxv hwant hwn hbit
                        go_upto_if 279 with (first | (go_at_call 9; refine (load9 tb 10 xv F t10 tsh.out).mono ?_; rintro e w' ⟨rfl, hw'⟩; replace hw' := hw'.symm; subst hw'))
                        go_cut [] from 279 to 348 (fun wd => Off (fun _ => False) F wd)
                        case first =>
                          as_aux_lemma =>
                            cases evicted with
                            | true =>
                              have hx1 := HX.out.t rfl
                              have hx2 : xp = some ⟨xv, 0, none⟩ := by rw [hx1]; exact HXP.out
                              subst hx2
                              have hneq := neq95 ⟨xv, 0, none⟩
                              clear hx1
                              go_wp2_with fail
                              go_meet
                              case rel => exact Off.refl _ _
                            | false =>
                              obtain ⟨A, a0, a1, a2, a3, a4, a5, a6⟩ := HX.out.f rfl
                              have hneq := neq52 ⟨bb, 0, none⟩
                              have hneq2 := neq53 ⟨ob, 0, none⟩
                              have hnm := HF.out.2.nm
                              have hcii : (ci : Int) < (n : Int) := by omega
                              have hci0 : (0 : Int) ≤ (ci : Int) := by omega
                              go_wp2_with fail
                              go_quiet (fail)
                              go_wp2_with fail
                              go_meet
                              case rel => exact (Off.refl _ _).drewN _
                        case rest =>
                          obtain ⟨G, hG⟩ : ∃ G, G = wc := ⟨_, rfl⟩
                          subst hG
                          have HG : Hid (Off (fun _ => False) F G) := hcut
                          clear hcut t10 tsh HX
                          have HGW : Hid (Below w.heap.size w G) := (HF.out.1.trans HG.out).below
                          cases ended with
                          | true =>
                            as_aux_lemma =>
                              obtain ⟨q5, q6, qr, qc, qh⟩ := HF.out.2.en1 rfl
                              have m5 := HG.out.cell id q5
                              have m6 := HG.out.cell id q6
                              have c0 := HG.out.cell id qc
                              have HR : Hid (G.rowIs rb 72 (5 * k) (RSF rb mb ob (fun _ => false)) ∧ (hist = true → G.cell? ⟨hb, 5, none⟩ = some (.slice none 0 0) ∧ G.cell? ⟨hb, 6, none⟩ = some (.int .i64 0))) := ⟨HG.out.row id qr, fun e => ⟨HG.out.cell id (qh e).1, HG.out.cell id (qh e).2⟩⟩
                              clear q5 q6 qr qc qh
                              go_upto_block 4 with (fail)
                              go_cut [51] from 370 to 392 (fun _ wd => wd = G)
                              case first =>
                                go_wp2_with fail
                                go_loopg [51] k (fun gk s51 wr => ∃ i : Nat, i ≤ k ∧ gk = k - i ∧ s51 = .int .i64 (i : Int) ∧ wr = G)
                                case atStart => exact ⟨0, Nat.zero_le _, rfl, rfl, rfl⟩
                                case round =>
                                  obtain ⟨i, hi, rfl, rfl, rfl⟩ := hrel
                                  by_cases hlt : i < k
                                  · have hlti : (i : Int) < (k : Int) := by omega
                                    have hi0 : (0 : Int) ≤ (i : Int) := by omega
                                    have r2 : wr.cell? ⟨rb, i * 5 + 2, none⟩ = some (.slice (some ⟨rb, i * 5 + 3, none⟩) 1 1) := by rw [Nat.mul_comm]; exact rsf_cell (r := 2) HR.out.1 hlt (by omega)
                                    have r3 : wr.cell? ⟨rb, i * 5 + 3, none⟩ = some (.pointer (some ⟨mb, 0, none⟩)) := by rw [Nat.mul_comm]; exact rsf_cell (r := 3) HR.out.1 hlt (by omega)
                                    have hneq := neq68 ⟨mb, 0, none⟩
                                    go_wp2_with fail
                                    go_roundg (k - (i + 1))
                                    case measure => omega
                                    case rel => exact ⟨i + 1, by omega, rfl, by go_num, rfl⟩
                                  · obtain rfl : i = k := by omega
                                    have hlti : ¬ (i : Int) < (i : Int) := by omega
                                    go_wp2_with fail
                                    go_meet
                                    case rel => rfl
                              case rest =>
                                subst hcut
                                cases hist with
                                | false =>
                                  have hx2 : hp = none := HHP.out
                                  subst hx2
                                  go_wp2
                                  go_ret
                                  exact ⟨rfl, HGW.out⟩
                                | true =>
                                  have hx2 : hp = some ⟨hb, 0, none⟩ := HHP.out
                                  subst hx2
                                  have q5 := (HR.out.2 rfl).1
                                  have q6 := (HR.out.2 rfl).2
                                  go_wp2
                                  go_ret
                                  exact ⟨rfl, HGW.out⟩
                          | false =>
                            as_aux_lemma =>
                              obtain ⟨q2, q5, q6, qr, qg, qh⟩ := HF.out.2.en0 rfl
                              have m2 := HG.out.cell id q2
                              have m5 := HG.out.cell id q5
                              have m6 := HG.out.cell id q6
                              have hgot := qg.off HG.out id id id id
                              have c0 : G.cell? ⟨cb, 0, none⟩ = some (.int .i64 1) := hgot.r1.cell (by omega)
                              have c1 : G.cell? ⟨gb, 0, none⟩ = some (.pointer (some ⟨tb, 0, none⟩)) := hgot.r2.cell (by omega)
                              have c2 : G.cell? ⟨ib, 0, none⟩ = some (.iface 3 (.int .i64 y)) := hgot.r3.cell (by omega)
                              have c3 : G.cell? ⟨cc, 0, none⟩ = some (.bool false) := hgot.r4.cell (by omega)
                              have HR : Hid (G.rowIs rb 72 (5 * k) (RSF rb mb ob (fun _ => true)) ∧ (hist = true → HistOut G D.heap.size hb yb b1 b2 b3 n want wn pd)) := ⟨HG.out.row id qr, fun e => by rw [HW.out.1]; exact (qh e).off HG.out id id id id (fun _ _ => id)⟩
                              have hneq := neq52 ⟨tb, 0, none⟩
                              have hta := assert3 y
                              clear q2 q5 q6 qr qg qh hgot
                              go_upto_block 6 with (fail)
                              go_cut [54] from 453 to 474 (fun _ wd => wd = G)
                              case first =>
                                go_wp2_with fail
                                go_loopg [54] k (fun gk s54 wr => ∃ i : Nat, i ≤ k ∧ gk = k - i ∧ s54 = .int .i64 (i : Int) ∧ wr = G)
                                case atStart => exact ⟨0, Nat.zero_le _, rfl, rfl, rfl⟩
                                case round =>
                                  obtain ⟨i, hi, rfl, rfl, rfl⟩ := hrel
                                  by_cases hlt : i < k
                                  · have hlti : (i : Int) < (k : Int) := by omega
                                    have hi0 : (0 : Int) ≤ (i : Int) := by omega
                                    have r2 : wr.cell? ⟨rb, i * 5 + 2, none⟩ = some (.slice (some ⟨rb, i * 5 + 3, none⟩) 0 1) := by rw [Nat.mul_comm]; exact rsf_cell (r := 2) HR.out.1 hlt (by omega)
                                    have r3 : wr.cell? ⟨rb, i * 5 + 3, none⟩ = some (.pointer none) := by rw [Nat.mul_comm]; exact rsf_cell (r := 3) HR.out.1 hlt (by omega)
                                    go_wp2_with fail
                                    go_roundg (k - (i + 1))
                                    case measure => omega
                                    case rel => exact ⟨i + 1, by omega, rfl, by go_num, rfl⟩
                                  · obtain rfl : i = k := by omega
                                    have hlti : ¬ (i : Int) < (i : Int) := by omega
                                    go_wp2_with fail
                                    go_meet
                                    case rel => rfl
                              case rest =>
                                subst hcut
                                cases hist with
                                | false =>
                                  have hx2 : hp = none := HHP.out
                                  subst hx2
                                  go_wp2
                                  go_ret
                                  exact ⟨rfl, HGW.out⟩
                                | true =>
                                  have hx2 : hp = some ⟨hb, 0, none⟩ := HHP.out
                                  subst hx2
                                  obtain ⟨⟨ch', g, cap, ag, ar, x0, x1, x2, acap⟩, r1, r2, r3⟩ := HR.out.2 rfl
                                  have HRR : Hid (wc.rowIs b1 3 n (cnt want 0) ∧ wc.rowIs b2 3 n (cnt wn 0) ∧ wc.rowIs b3 3 n (cnt pd 0)) := ⟨r1, r2, r3⟩
                                  have d5 : wc.cell? ⟨hb, 5, none⟩ = some (.slice (some ⟨g, 0, none⟩) 1 cap) := ar.cell (by omega)
                                  have d6 : wc.cell? ⟨hb, 6, none⟩ = some (.int .i64 1) := ar.cell (by omega)
                                  have d7 : wc.cell? ⟨hb, 7, none⟩ = some (.slice (some ⟨b1, 0, none⟩) n n) := ar.cell (by omega)
                                  have d8 : wc.cell? ⟨hb, 8, none⟩ = some (.slice (some ⟨b2, 0, none⟩) n n) := ar.cell (by omega)
                                  have d9 : wc.cell? ⟨hb, 9, none⟩ = some (.slice (some ⟨b3, 0, none⟩) n n) := ar.cell (by omega)
                                  have lb1 := r1.lt
                                  have lb2 := r2.lt
                                  have lb3 := r3.lt
                                  have lhb := ar.lt
                                  have hbn : bits .andNot .u64 (pw : Int) (pd : Int) = (wn : Int) := by
                                    rw [HW.out.2.1]
                                    have e64 : 2 ^ n ≤ 2 ^ 64 := Nat.pow_le_pow_right (by omega) hn64
                                    exact u64_andNot_nat _ _ (Nat.lt_of_lt_of_le HPL.out.2.1 e64) (Nat.lt_of_lt_of_le HPL.out.2.2 e64)
                                  clear r1 r2 r3 ar ag
                                  go_upto_block 8 with (fail)
                                  go_wp2_with fail
                                  go_loopg [57] n (fun gk s57 wr => ∃ c : Nat, c ≤ n ∧ gk = n - c ∧ s57 = .int .i64 (c : Int) ∧ Off (fun _ => False) wc wr)
                                  case atStart => exact ⟨0, Nat.zero_le _, rfl, rfl, (Off.refl _ _).alloc _⟩
                                  case round =>
                                    obtain ⟨c, hc, rfl, rfl, hof⟩ := hrel
                                    have HOF : Hid (Off (fun _ => False) wc wr) := hof
                                    have e7 := hof.cell id d7
                                    have e8 := hof.cell id d8
                                    have e9 := hof.cell id d9
                                    clear hof
                                    by_cases hlt : c < n
                                    · have hlti : (c : Int) < (n : Int) := by omega
                                      have hc0 : (0 : Int) ≤ (c : Int) := by omega
                                      have e64 : 2 ^ n ≤ 2 ^ 64 := Nat.pow_le_pow_right (by omega) hn64
                                      obtain ⟨z1, hz1, y1⟩ := bit_at want c (by rw [HW.out.1]; exact Nat.or_lt_two_pow (n := 64) hpml h64)
                                      obtain ⟨z2, hz2, y2⟩ := bit_at wn c (by rw [HW.out.2.1]; exact Nat.lt_of_le_of_lt Nat.and_le_left (Nat.lt_of_lt_of_le HPL.out.2.1 e64))
                                      obtain ⟨z3, hz3, y3⟩ := bit_at pd c (Nat.lt_of_lt_of_le HPL.out.2.2 e64)
                                      clear e64
                                      have k1 : wr.cell? ⟨b1, c, none⟩ = some (.int .i64 z1) := by rw [← hz1]; exact HOF.out.cell id (HRR.out.1.cell hlt)
                                      have k2 : wr.cell? ⟨b2, c, none⟩ = some (.int .i64 z2) := by rw [← hz2]; exact HOF.out.cell id (HRR.out.2.1.cell hlt)
                                      have k3 : wr.cell? ⟨b3, c, none⟩ = some (.int .i64 z3) := by rw [← hz3]; exact HOF.out.cell id (HRR.out.2.2.cell hlt)
                                      clear hz1 hz2 hz3
                                      go_wp2_with fail
                                      go_roundg (n - (c + 1))
                                      case measure => omega
                                      case rel => exact ⟨c + 1, by omega, rfl, by go_num, HOF.out⟩
                                    · obtain rfl : c = n := by omega
                                      have hlti : ¬ (c : Int) < (c : Int) := by omega
                                      go_wp2
                                      go_ret
                                      exact ⟨rfl, (Off.trans (Off.trans HF.out.1 HG.out) HOF.out).below⟩
end Go.Proofs.YbulkdgjkDoor
