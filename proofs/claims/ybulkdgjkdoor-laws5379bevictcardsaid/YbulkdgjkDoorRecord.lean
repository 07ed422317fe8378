import Derived.Test.YbulkdgjkDoorRec
import Derived.BigRegion
import Derived.Deep.RegionLaw
namespace Go.Proofs.YbulkdgjkDoor
open Go.RowKit
attribute [local go_sem ↓] Go.wp_at_zero Go.wp_at_succ

theorem owns_cap {w : World} {base e size g n cap : Nat} {xs : List Value} (h : w.ownsRow base e size (.slice (some ⟨g, 0, none⟩) n cap) n xs) : n ≤ cap := by
  obtain ⟨_, ⟨h1, _⟩ | ⟨g', cap', cur, h1, _, _, h2, _⟩⟩ := h
  · simp at h1
  · simp at h1; omega

set_option maxHeartbeats 2000000 in
set_option maxRecDepth 100000 in
theorem record_any (hb yb ch b1 b2 b3 sb n met wai dea : Nat) (w : World) (hn : n ≤ 64) (hne1 : b1 ≠ hb) (hne2 : b2 ≠ hb) (hne3 : b3 ≠ hb) (h12 : b1 ≠ b2) (h13 : b1 ≠ b3) (h23 : b2 ≠ b3) (hb00 : hb ≠ 0) (hb10 : b1 ≠ 0) (hb20 : b2 ≠ 0) (hb30 : b3 ≠ 0)
    (hmet : met < 2 ^ n) (hwai : wai < 2 ^ n) (hdea : dea < 2 ^ n) (HT : Hid (Tab w))
    (row : Hid (w.rowIs hb 86 10 (HF yb ch b1 b2 b3 n 0 (.slice none 0 0) 0))) (R1 : Hid (w.rowIs b1 3 n (fun _ => .int .i64 0))) (R2 : Hid (w.rowIs b2 3 n (fun _ => .int .i64 0))) (R3 : Hid (w.rowIs b3 3 n (fun _ => .int .i64 0))) (hyb : yb < w.heap.size) (hsb : sb < w.heap.size) (hyn : yb ≠ hb ∧ yb ≠ b1 ∧ yb ≠ b2 ∧ yb ≠ b3) (hsn : sb ≠ hb ∧ sb ≠ b1 ∧ sb ≠ b2 ∧ sb ≠ b3)
    (y6 : w.cell? ⟨yb, 6, none⟩ = some (.slice (some ⟨sb, 0, none⟩) n n)) (S0 : Hid (∀ i, i < n → w.cell? ⟨sb, i, none⟩ = some (.int .u8 0)))
    (hch : ch ≠ hb ∧ ch ≠ b1 ∧ ch ≠ b2 ∧ ch ≠ b3) (CH : Hid (w.rowIs ch 90 4 (NF 0))) :
    Calls Ybad.prog 18 #[.pointer (some ⟨hb, 0, none⟩), .agg #[.int .u64 (met : Int), .int .u64 (wai : Int), .int .u64 (dea : Int)]] w fun e w' => e = .returned (.tuple #[]) ∧ RecPost w w' hb yb b1 b2 b3 n met wai dea := by
  have hb0 : hb < w.heap.size := row.out.lt
  have c1 : w.cell? ⟨hb, 1, none⟩ = some (.int .i64 1) := row.out.cell (by omega)
  have c3 : w.cell? ⟨hb, 3, none⟩ = some (.int .i32 0) := row.out.cell (by omega)
  have c5 : w.cell? ⟨hb, 5, none⟩ = some (.slice none 0 0) := row.out.cell (by omega)
  have c6 : w.cell? ⟨hb, 6, none⟩ = some (.int .i64 0) := row.out.cell (by omega)
  have f3 := row.out.frozen 3
  have f5 := row.out.frozen 5
  go_enter_defers Ybad.func18, Ybad.ntmps18
  go_wp2_with (first | (go_at_call 21; refine (lock21 hb 3 _ (by rw [World.cell?_alloc_lt _ _ _ hb0]; exact c3) (by rw [World.frozen?_alloc_past _ _ _ hb0]; exact f3)).mono ?_; rintro e w' ⟨rfl, hw'⟩; subst hw'))
  go_quiet (fail)
  go_upto_if 62 with (fail)
  go_cut [] from 63 to 104 (fun wc => ∃ g cap, 1 ≤ cap ∧ Rec w wc hb yb ch b1 b2 b3 n met wai dea g cap 0 (fun _ => .int .i64 0) (fun _ => .int .i64 0) (fun _ => .int .i64 0))
  case first =>
    obtain ⟨ii, hi0, hz0, hz1, hz2⟩ := info141_parts
    go_wp2_with fail
    refine wp_region_noPanic ?_
    go_region_law
      (
        refine step_append_lies _ (by rfl) _ _ _ (by rfl) w.heap.size 141 ii (.agg #[.int .u64 0, .int .u64 0, .int .u64 0]) 3 24 Ybad.underlying84 hi0 hz0 hz1 hz2 (by rfl) (by omega) (.slice none 0 0) 0 [] (by rfl) (World.ownsRow_nil _ _ _ _) ⟨w.heap.size + 1, 0, none⟩ 1 1 [.int .u64 (met : Int), .int .u64 (wai : Int), .int .u64 (dea : Int)] (by rfl) (by rfl) (World.news_of_block (cs := #[.int .u64 (met : Int), .int .u64 (wai : Int), .int .u64 (dea : Int)]) (blk_new_at (by simp))) (by simp [Value.oneCell']) (by omega) (by unfold maxLen; omega) (by omega) (by simp; omega) (w.heap.size + 2) (by simp) ?_
        intro g cap w3 hown3 hgrow hat hlt3
        have e5 : w3.cell? ⟨hb, 5, none⟩ = some (.slice none 0 0) := (by rw [hgrow.cell_far _ (by simp; omega) (by simp [Value.ownBlock])]; go_simp)
        have x0 : w3.cell? ⟨w.heap.size, 0, none⟩ = some (.int .u64 (met : Int)) := (by rw [hgrow.cell_far _ (by simp; omega) (by simp [Value.ownBlock])]; go_simp)
        have x1 : w3.cell? ⟨w.heap.size, 1, none⟩ = some (.int .u64 (wai : Int)) := (by rw [hgrow.cell_far _ (by simp; omega) (by simp [Value.ownBlock])]; go_simp)
        have x2 : w3.cell? ⟨w.heap.size, 2, none⟩ = some (.int .u64 (dea : Int)) := (by rw [hgrow.cell_far _ (by simp; omega) (by simp [Value.ownBlock])]; go_simp)
        have g5 : w3.frozen? ⟨hb, 5, none⟩ = false := (by rw [hgrow.frozen_far _ (by simp; omega) (by simp [Value.ownBlock])]; go_simp))
    all_goals
      refine NoPanic.normal ?_
      go_wp2_with fail
      go_meet
      case rel => exact ⟨g, cap, owns_cap hown3, rec_mk hne1 hne2 hne3 row.out R1.out R2.out R3.out hgrow hown3 (hat.resolve_left (by simp [Value.ownBlock])) x0 x1 x2⟩
  case rest =>
    obtain ⟨g, cap, hcap1, hrec⟩ := hcut
    have HRW2 : Hid (1 ≤ cap) := hcap1
    clear hcap1
    have HR : Hid (Rec w wc hb yb ch b1 b2 b3 n met wai dea g cap 0 (fun _ => .int .i64 0) (fun _ => .int .i64 0) (fun _ => .int .i64 0)) := hrec
    have c6 : wc.cell? ⟨hb, 6, none⟩ = some (.int .i64 0) := hrec.hist.cell (by omega)
    have f6 := hrec.hist.frozen 6
    clear hrec
    have HP : Hid (met < 2 ^ n ∧ wai < 2 ^ n ∧ dea < 2 ^ n) := ⟨hmet, hwai, hdea⟩
    have l1 : b1 < w.heap.size := R1.out.lt
    have l2 : b2 < w.heap.size := R2.out.lt
    have l3 : b3 < w.heap.size := R3.out.lt
    go_upto_region 13 with (fail)
    obtain ⟨V, hV⟩ : ∃ V, V = wc.setCell ⟨hb, 6, none⟩ (.int .i64 1) := ⟨_, rfl⟩
    rw [← hV]
    have HR1 : Hid (Rec w V hb yb ch b1 b2 b3 n met wai dea g cap 1 (fun _ => .int .i64 0) (fun _ => .int .i64 0) (fun _ => .int .i64 0)) := by rw [hV]; exact HR.out.total1 hb0 hne1 hne2 hne3
    clear hV
    go_cut [] from 112 to 118 (fun wd => Rec w wd hb yb ch b1 b2 b3 n met wai dea g cap 1 (cnt met 0) (fun _ => .int .i64 0) (fun _ => .int .i64 0))
    case first =>
      have d7 : V.cell? ⟨hb, 7, none⟩ = some (.slice (some ⟨b1, 0, none⟩) n n) := HR1.out.hist.cell (by omega)
      have x0 := HR1.out.box.1
      have hT : Hid (Tab V) := fun i hi => by
        rw [World.cell?_of_block (w := w) (HR1.out.four.block 0 (by omega) (by omega) (by omega) (by omega) (by omega))]; exact HT.out i hi
      have hR : Hid (V.rowIs b1 3 n (cnt met met)) := HR1.out.r1.congr fun i hi => (cnt_self met i).symm
      go_region_held3 (fun w' => w'.cell? ⟨hb, 7, none⟩ = some (.slice (some ⟨b1, 0, none⟩) n n) ∧ w'.cell? ⟨w.heap.size, 0, none⟩ = some (.int .u64 (met : Int))) (first | go_simp | exact ⟨y7, y0⟩)
        ((
          go_at_call 27
          refine (count_any b1 n n met V.drew hn HP.out.1 hb10 hT hR).mono ?_
          rintro e w2 ⟨rfl, hbut, hrow⟩
          have y7 : w2.cell? ⟨hb, 7, none⟩ = some (.slice (some ⟨b1, 0, none⟩) n n) := (by rw [hbut.cell (p := ⟨hb, 7, none⟩) (fun e => hne1 e.symm)]; exact d7)
          have y0 : w2.cell? ⟨w.heap.size, 0, none⟩ = some (.int .u64 (met : Int)) := (by rw [hbut.cell (p := ⟨w.heap.size, 0, none⟩) (by simp; omega)]; exact x0)))
      all_goals
        go_wp2_with fail
        go_meet
        case rel => exact HR1.out.count (m := 1) (.inl rfl) l1 (fun e => hne1 e.symm) hbut hrow (rowIs_but (m := 1) hbut (fun e => h12 e.symm) HR1.out.r2) (rowIs_but (m := 1) hbut (fun e => h13 e.symm) HR1.out.r3)
    case rest =>
      obtain ⟨V, hV⟩ : ∃ V, V = wc := ⟨_, rfl⟩
      subst hV
      have HR1 : Hid (Rec w V hb yb ch b1 b2 b3 n met wai dea g cap 1 (cnt met 0) (fun _ => .int .i64 0) (fun _ => .int .i64 0)) := hcut
      clear hcut
      go_upto_region 14 with (fail)
      go_cut [] from 119 to 125 (fun wd => Rec w wd hb yb ch b1 b2 b3 n met wai dea g cap 1 (cnt met 0) (cnt wai 0) (fun _ => .int .i64 0))
      case first =>
        have d7 : V.cell? ⟨hb, 8, none⟩ = some (.slice (some ⟨b2, 0, none⟩) n n) := HR1.out.hist.cell (by omega)
        have x0 := HR1.out.box.2.1
        have hT : Hid (Tab V) := fun i hi => by
          rw [World.cell?_of_block (w := w) (HR1.out.four.block 0 (by omega) (by omega) (by omega) (by omega) (by omega))]; exact HT.out i hi
        have hR : Hid (V.rowIs b2 3 n (cnt wai wai)) := HR1.out.r2.congr fun i hi => (cnt_self wai i).symm
        go_region_held3 (fun w' => w'.cell? ⟨hb, 8, none⟩ = some (.slice (some ⟨b2, 0, none⟩) n n) ∧ w'.cell? ⟨w.heap.size, 1, none⟩ = some (.int .u64 (wai : Int))) (first | go_simp | exact ⟨y7, y0⟩)
          ((
            go_at_call 27
            refine (count_any b2 n n wai V.drew hn HP.out.2.1 hb20 hT hR).mono ?_
            rintro e w2 ⟨rfl, hbut, hrow⟩
            have y7 : w2.cell? ⟨hb, 8, none⟩ = some (.slice (some ⟨b2, 0, none⟩) n n) := (by rw [hbut.cell (p := ⟨hb, 8, none⟩) (fun e => hne2 e.symm)]; exact d7)
            have y0 : w2.cell? ⟨w.heap.size, 1, none⟩ = some (.int .u64 (wai : Int)) := (by rw [hbut.cell (p := ⟨w.heap.size, 1, none⟩) (by simp; omega)]; exact x0)))
        all_goals
          go_wp2_with fail
          go_meet
          case rel => exact HR1.out.count (m := 1) (.inr (.inl rfl)) l2 (fun e => hne2 e.symm) hbut (rowIs_but (m := 1) hbut h12 HR1.out.r1) hrow (rowIs_but (m := 1) hbut (fun e => h23 e.symm) HR1.out.r3)
      case rest =>
        obtain ⟨V, hV⟩ : ∃ V, V = wc := ⟨_, rfl⟩
        subst hV
        have HR1 : Hid (Rec w V hb yb ch b1 b2 b3 n met wai dea g cap 1 (cnt met 0) (cnt wai 0) (fun _ => .int .i64 0)) := hcut
        clear hcut
        go_upto_region 15 with (fail)
        go_cut [] from 126 to 132 (fun wd => Rec w wd hb yb ch b1 b2 b3 n met wai dea g cap 1 (cnt met 0) (cnt wai 0) (cnt dea 0))
        case first =>
          have d7 : V.cell? ⟨hb, 9, none⟩ = some (.slice (some ⟨b3, 0, none⟩) n n) := HR1.out.hist.cell (by omega)
          have x0 := HR1.out.box.2.2
          have hT : Hid (Tab V) := fun i hi => by
            rw [World.cell?_of_block (w := w) (HR1.out.four.block 0 (by omega) (by omega) (by omega) (by omega) (by omega))]; exact HT.out i hi
          have hR : Hid (V.rowIs b3 3 n (cnt dea dea)) := HR1.out.r3.congr fun i hi => (cnt_self dea i).symm
          go_region_held3 (fun w' => w'.cell? ⟨hb, 9, none⟩ = some (.slice (some ⟨b3, 0, none⟩) n n) ∧ w'.cell? ⟨w.heap.size, 2, none⟩ = some (.int .u64 (dea : Int))) (first | go_simp | exact ⟨y7, y0⟩)
            ((
              go_at_call 27
              refine (count_any b3 n n dea V.drew hn HP.out.2.2 hb30 hT hR).mono ?_
              rintro e w2 ⟨rfl, hbut, hrow⟩
              have y7 : w2.cell? ⟨hb, 9, none⟩ = some (.slice (some ⟨b3, 0, none⟩) n n) := (by rw [hbut.cell (p := ⟨hb, 9, none⟩) (fun e => hne3 e.symm)]; exact d7)
              have y0 : w2.cell? ⟨w.heap.size, 2, none⟩ = some (.int .u64 (dea : Int)) := (by rw [hbut.cell (p := ⟨w.heap.size, 2, none⟩) (by simp; omega)]; exact x0)))
          all_goals
            go_wp2_with fail
            go_meet
            case rel => exact HR1.out.count (m := 1) (.inr (.inr rfl)) l3 (fun e => hne3 e.symm) hbut (rowIs_but (m := 1) hbut h13 HR1.out.r1) (rowIs_but (m := 1) hbut h23 HR1.out.r2) hrow
        case rest =>
          obtain ⟨V, hV⟩ : ∃ V, V = wc := ⟨_, rfl⟩
          subst hV
          have HR1 : Hid (Rec w V hb yb ch b1 b2 b3 n met wai dea g cap 1 (cnt met 0) (cnt wai 0) (cnt dea 0)) := hcut
          clear hcut
          have c1 : V.cell? ⟨hb, 1, none⟩ = some (.int .i64 1) := HR1.out.hist.cell (by omega)
          have c6 : V.cell? ⟨hb, 6, none⟩ = some (.int .i64 1) := HR1.out.hist.cell (by omega)
          have c7 : V.cell? ⟨hb, 7, none⟩ = some (.slice (some ⟨b1, 0, none⟩) n n) := HR1.out.hist.cell (by omega)
          have hbV : hb < V.heap.size := HR1.out.hist.lt
          have y6V : V.cell? ⟨yb, 6, none⟩ = some (.slice (some ⟨sb, 0, none⟩) n n) := by
            rw [World.cell?_of_block (w := w) (HR1.out.four.block yb hyb hyn.1 hyn.2.1 hyn.2.2.1 hyn.2.2.2)]; exact y6
          have S0V : Hid (∀ i, i < n → V.cell? ⟨sb, i, none⟩ = some (.int .u8 0)) := fun i hi => by
            rw [World.cell?_of_block (w := w) (HR1.out.four.block sb hsb hsn.1 hsn.2.1 hsn.2.2.1 hsn.2.2.2)]; exact S0.out i hi
          have hsz := HR1.out.four.size
          go_wp2_with fail
          go_quiet (fail)
          go_wp2_with fail
          go_loopg [148] n (fun gk s148 wr => ∃ c bar : Nat, c ≤ n ∧ gk = n - c ∧ s148 = .int .i64 (c : Int) ∧ bar < 18446744073709551616 ∧ Below V.heap.size V wr ∧ wr.rowIs V.heap.size 90 4 (NF bar))
          case atStart => exact ⟨0, 0, Nat.zero_le _, rfl, rfl, by decide, below_drewN ((Below.refl _ _).alloc (Nat.le_refl _) _) _, nf_made V _⟩
          case round =>
            obtain ⟨c, bar, hc, rfl, rfl, hbar, hbel, hnf⟩ := hrel
            have HN : Hid (Below V.heap.size V wr ∧ wr.rowIs V.heap.size 90 4 (NF bar)) := ⟨hbel, hnf⟩
            by_cases hcn : c < n
            · have hcni : (c : Int) < (n : Int) := by omega
              have hc0 : (0 : Int) ≤ (c : Int) := by omega
              have k0 : wr.cell? ⟨hb, 0, none⟩ = some (.pointer (some ⟨yb, 0, none⟩)) := by rw [hbel.cell (p := ⟨hb, 0, none⟩) hbV]; exact HR1.out.hist.cell (by omega)
              have k8 : wr.cell? ⟨hb, 8, none⟩ = some (.slice (some ⟨b2, 0, none⟩) n n) := by rw [hbel.cell (p := ⟨hb, 8, none⟩) hbV]; exact HR1.out.hist.cell (by omega)
              have k9 : wr.cell? ⟨hb, 9, none⟩ = some (.slice (some ⟨b3, 0, none⟩) n n) := by rw [hbel.cell (p := ⟨hb, 9, none⟩) hbV]; exact HR1.out.hist.cell (by omega)
              have k6 : wr.cell? ⟨yb, 6, none⟩ = some (.slice (some ⟨sb, 0, none⟩) n n) := by rw [hbel.cell (p := ⟨yb, 6, none⟩) (by simp; omega)]; exact y6V
              have ks : wr.cell? ⟨sb, c, none⟩ = some (.int .u8 0) := by rw [hbel.cell (p := ⟨sb, c, none⟩) (by simp; omega)]; exact S0V.out c hcn
              obtain ⟨x1, hx1⟩ : ∃ x1, cnt met 0 c = .int .i64 x1 := ⟨_, rfl⟩
              obtain ⟨x2, hx2, hx2l⟩ : ∃ x2 : Int, cnt wai 0 c = .int .i64 x2 ∧ x2 ≤ 1 := ⟨_, rfl, by split <;> omega⟩
              have m1 : wr.cell? ⟨b1, c, none⟩ = some (.int .i64 x1) := by rw [hbel.cell (p := ⟨b1, c, none⟩) (by simp; omega), ← hx1]; exact HR1.out.r1.cell hcn
              have m2 : wr.cell? ⟨b2, c, none⟩ = some (.int .i64 x2) := by rw [hbel.cell (p := ⟨b2, c, none⟩) (by simp; omega), ← hx2]; exact HR1.out.r2.cell hcn
              have n3 : wr.cell? ⟨V.heap.size, 3, none⟩ = some (.int .u64 (bar : Int)) := hnf.cell (by omega)
              have f3n := hnf.frozen 3
              clear hbel hnf hx1 hx2
              cases hd : dea.testBit c with
              | true =>
                have m3 : wr.cell? ⟨b3, c, none⟩ = some (.int .i64 1) := by
                  rw [HN.out.1.cell (p := ⟨b3, c, none⟩) (by simp; omega), HR1.out.r3.cell hcn, cnt, hd]; simp
                have hle : x2 ≤ 10 := by omega
                go_wp2_with (first | (go_at_call 11; refine (with_any bar c wr hbar (by omega)).mono ?_; rintro e w' ⟨rfl, hw'⟩; replace hw' := hw'.symm; subst hw'))
                go_roundg (n - (c + 1))
                case measure => omega
                case rel =>
                  refine ⟨c + 1, bar ||| 2 ^ c, by omega, rfl, by go_num, Nat.or_lt_two_pow (n := 64) hbar (pow_lt64 (by omega)), HN.out.1.setCell (by simp) _, (HN.out.2.set 3 _).congr fun i hi => ?_⟩
                  have : i = 0 ∨ i = 1 ∨ i = 2 ∨ i = 3 := by omega
                  rcases this with rfl | rfl | rfl | rfl <;> rfl
              | false =>
                have m3 : wr.cell? ⟨b3, c, none⟩ = some (.int .i64 0) := by
                  rw [HN.out.1.cell (p := ⟨b3, c, none⟩) (by simp; omega), HR1.out.r3.cell hcn, cnt, hd]; simp
                go_wp2_with fail
                go_roundg (n - (c + 1))
                case measure => omega
                case rel => exact ⟨c + 1, bar, by omega, rfl, by go_num, hbar, HN.out.1, HN.out.2⟩
            · obtain rfl : c = n := by omega
              have hcni : ¬ (c : Int) < (c : Int) := by omega
              have lch : ch < w.heap.size := CH.out.lt
              have CHr : Hid (wr.rowIs ch 90 4 (NF 0)) := by
                have h1 : V.rowIs ch 90 4 (NF 0) := CH.out.of_block (HR1.out.four.block ch lch hch.1 hch.2.1 hch.2.2.1 hch.2.2.2)
                exact h1.of_block (HN.out.1.block ch (by omega))
              have k2 : wr.cell? ⟨hb, 2, none⟩ = some (.pointer (some ⟨ch, 0, none⟩)) := by rw [HN.out.1.cell (p := ⟨hb, 2, none⟩) hbV]; exact HR1.out.hist.cell (by omega)
              have q0 : wr.cell? ⟨ch, 0, none⟩ = some (.bool false) := CHr.out.cell (by omega)
              have q1 : wr.cell? ⟨ch, 1, none⟩ = some (.bool false) := CHr.out.cell (by omega)
              have q2 : wr.cell? ⟨ch, 2, none⟩ = some (.bool false) := CHr.out.cell (by omega)
              have q3 : wr.cell? ⟨ch, 3, none⟩ = some (.int .u64 0) := CHr.out.cell (by omega)
              have p0 : wr.cell? ⟨V.heap.size, 0, none⟩ = some (.bool false) := HN.out.2.cell (by omega)
              have p1 : wr.cell? ⟨V.heap.size, 1, none⟩ = some (.bool false) := HN.out.2.cell (by omega)
              have p2 : wr.cell? ⟨V.heap.size, 2, none⟩ = some (.bool false) := HN.out.2.cell (by omega)
              have p3 : wr.cell? ⟨V.heap.size, 3, none⟩ = some (.int .u64 (bar : Int)) := HN.out.2.cell (by omega)
              have hsh : Hid (wr.shape? ch = some (90, 4)) := by
                obtain ⟨cs, h1, h2, _⟩ := CHr.out
                show wr.shape? ch = _
                simp [World.shape?, h1, h2]
              clear hbel hnf
              have hz2 := (HR1.out.hist.frozen 2)
              have hz2 : wr.frozen? ⟨hb, 2, none⟩ = false := by
                have := HR1.out.hist.of_block (HN.out.1.block hb hbV)
                exact this.frozen 2
              have HRW : Hid (wr.rowIs hb 86 10 (HF yb ch b1 b2 b3 c 1 (.slice (some ⟨g, 0, none⟩) 1 cap) 1)) := HR1.out.hist.of_block (HN.out.1.block hb hbV)
              by_cases hbz : bar = 0
              · subst hbz
                have p3 : wr.cell? ⟨V.heap.size, 3, none⟩ = some (.int .u64 0) := p3
                have hneq : ∀ u : World, (binOp .neq 90 (.agg #[.bool false, .bool false, .bool false, .int .u64 0]) (.agg #[.bool false, .bool false, .bool false, .int .u64 0])).run Ybad.prog u = .ok (.bool false) u := fun u => neq90 _ u
                go_wp2_with fail
                go_quiet ((go_at_call 28; exact Calls.quiet_of_same (load28 _ _ _ _ k2 hsh.out)))
                go_wp2_with fail
                refine leaves_cons (f := 22) (args := #[.pointer (some ⟨hb, 3, none⟩)]) (by simp) (by simp [go_sem]) ?_
                refine (unlock_deferred hb 3 .returning _ ?_ ?_).mono ?_
                · exact HRW.out.cell (by omega)
                · exact HRW.out.frozen 3
                rintro e u' w'' ⟨rfl, rfl, rfl⟩
                refine ⟨_, results_none rfl _ _ _, rfl, ?_⟩
                exact HR1.out.close HRW2.out hb0 hne1 hne2 hne3 ((Four.of_below HN.out.1).trans (Four.drewN _ _)) (fun k hk _ => HN.out.1.block k hk) HRW.out
              · have hneq : ∀ u : World, (binOp .neq 90 (.agg #[.bool false, .bool false, .bool false, .int .u64 ((bar : Nat) : Int)]) (.agg #[.bool false, .bool false, .bool false, .int .u64 0])).run Ybad.prog u = .ok (.bool true) u := fun u => by
                  rw [neq90, show ((bar : Int) == 0) = false by simpa using hbz]; rfl
                go_wp2_with fail
                go_quiet ((go_at_call 28; exact Calls.quiet_of_same (load28 _ _ _ _ k2 hsh.out)))
                go_wp2_with (first | (go_at_call 6; refine (store6 hb 2 V.heap.size _ _ (wr.drewN nq) k2 hz2 p0).mono ?_; rintro e w' ⟨rfl, hw'⟩; subst hw'))
                refine leaves_cons (f := 22) (args := #[.pointer (some ⟨hb, 3, none⟩)]) (by simp) (by simp [go_sem]) ?_
                refine (unlock_deferred hb 3 .returning _ ?_ ?_).mono ?_
                · exact (HF_choice V.heap.size HRW.out).cell (by omega)
                · exact (HF_choice V.heap.size HRW.out).frozen 3
                rintro e u' w'' ⟨rfl, rfl, rfl⟩
                refine ⟨_, results_none rfl _ _ _, rfl, ?_⟩
                refine HR1.out.close HRW2.out hb0 hne1 hne2 hne3 (((Four.of_below HN.out.1).trans (Four.drewN _ _)).trans (Four.set _ 2 _)) (fun k hk hkb => ?_) (HF_choice V.heap.size HRW.out)
                rw [Go.heap_setCell_other _ ⟨hb, 2, none⟩ k _ hkb]
                exact HN.out.1.block k hk
end Go.Proofs.YbulkdgjkDoor
