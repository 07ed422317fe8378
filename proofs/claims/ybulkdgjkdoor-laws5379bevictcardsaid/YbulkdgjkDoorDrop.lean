import Derived.Test.YbulkdgjkDoorOff
import Derived.BigRegion
namespace Go.Proofs.YbulkdgjkDoor
open Go.RowKit
attribute [local go_sem ↓] Go.wp_at_zero Go.wp_at_succ

/-- The list of flags: cell 2 i names the resource s i. -/
def Held (w : World) (fb n : Nat) (rb : Nat) (s : Nat → Nat) : Prop := ∀ i, i < n → w.cell? ⟨fb, i * 2, none⟩ = some (.pointer (some ⟨rb, 5 * s i, none⟩)) ∧ w.cell? ⟨fb, i * 2 + 1, none⟩ = some (.int .u8 0)

set_option maxHeartbeats 2000000 in
set_option maxRecDepth 100000 in
theorem drop_any (ob mb tb rb fb pb k nf np cf cp met wai dea : Nat) (fp pp : Option Addr) (inten : Value) (w : World) (hk : k ≤ 7) (hmb : mb ≠ rb) (hfr : fb ≠ rb ∧ fb ≠ mb) (hpr : pb ≠ rb ∧ pb ≠ mb)
    (HK : Hid (nf = (k + 1) / 2 ∧ np = k / 2))
    (hfp : fp = none ∧ nf = 0 ∧ cf = 0 ∨ fp = some ⟨fb, 0, none⟩ ∧ nf ≤ cf) (hpp : pp = none ∧ np = 0 ∧ cp = 0 ∨ pp = some ⟨pb, 0, none⟩ ∧ np ≤ cp)
    (M : Hid (w.rowIs mb 129 12 (MF tb ob true (.slice fp nf cf) (.slice pp np cp) met inten wai dea))) (R : Hid (w.rowIs rb 72 (5 * k) (RSF rb mb ob (fun _ => false))))
    (FL : Hid (Held w fb nf rb (fun i => 2 * i))) (PL : Hid (Held w pb np rb (fun i => 2 * i + 1))) :
    Calls Ybad.prog 17 #[.pointer (some ⟨ob, 0, none⟩), .pointer (some ⟨mb, 0, none⟩), .int .i64 0, .int .i64 0] w fun e w' => e = .returned (.tuple #[]) ∧ Off (fun b => b = rb ∨ b = mb) w w' ∧ w'.rowIs rb 72 (5 * k) (RSF rb mb ob (fun _ => true)) ∧
      w'.rowIs mb 129 12 (MF tb ob true (.slice fp 0 cf) (.slice pp 0 cp) met inten wai dea) := by
  have m5 : w.cell? ⟨mb, 5, none⟩ = some (.slice fp nf cf) := M.out.cell (by omega)
  have hnf4 : nf ≤ 4 := by have := HK.out; omega
  have hnp4 : np ≤ 4 := by have := HK.out; omega
  go_enter Ybad.func17, Ybad.ntmps17
  go_upto_block 0 with (fail)
  go_cut [] (fun wc => Off (fun b => b = rb) w wc ∧ wc.rowIs rb 72 (5 * k) (RSF rb mb ob (fun q => decide (q % 2 = 0))))
  case first =>
    go_wp2_with fail
    go_loopg [19] nf (fun gk s19 wr => ∃ i, i ≤ nf ∧ gk = nf - i ∧ s19 = .int .i64 (i : Int) ∧ Off (fun b => b = rb) w wr ∧ wr.rowIs rb 72 (5 * k) (RSF rb mb ob (fun q => decide (q % 2 = 0) && decide (q < 2 * i))))
    case atStart => exact ⟨0, Nat.zero_le _, rfl, rfl, Off.refl _ _, rsf_congr R.out fun q _ => by simp⟩
    case round =>
      obtain ⟨i, hi, rfl, rfl, hoff, hrs⟩ := hrel
      have HO : Hid (Off (fun b => b = rb) w wr) := hoff
      have HS : Hid (wr.rowIs rb 72 (5 * k) (RSF rb mb ob (fun q => decide (q % 2 = 0) && decide (q < 2 * i)))) := hrs
      clear hoff hrs
      by_cases hin : i < nf
      · rcases hfp with ⟨_, h0, _⟩ | ⟨rfl, hcf⟩
        · omega
        have hii : (i : Int) < (nf : Int) := by omega
        have hi0 : (0 : Int) ≤ (i : Int) := by omega
        have h2k : Hid (2 * i < k) := by have := HK.out; exact (by omega : 2 * i < k)
        have a0 : wr.cell? ⟨fb, i * 2, none⟩ = some (.pointer (some ⟨rb, 5 * (2 * i), none⟩)) := HO.out.cell hfr.1 (FL.out i hin).1
        have a1 : wr.cell? ⟨fb, i * 2 + 1, none⟩ = some (.int .u8 0) := HO.out.cell hfr.1 (FL.out i hin).2
        have hlt := HS.out.lt
        have hd0 : Hid ((decide ((2 * i) % 2 = 0) && decide (2 * i < 2 * i)) = false) := by simp [Hid]
        go_wp2_with (first | (
          go_at_call 25
          refine (dropSole_any rb (5 * (2 * i)) ob 1 (.pointer (some ⟨mb, 0, none⟩)) _ ?_ (by omega) ?_ ?_ ?_ ?_).mono ?_
          · rw [World.cell?_alloc_lt _ _ _ hlt, rsf_cell (q := 2 * i) (r := 2) HS.out h2k.out (by omega), hd0.out]; rfl
          · rw [World.cell?_alloc_lt _ _ _ hlt, rsf_cell (q := 2 * i) (r := 3) HS.out h2k.out (by omega), hd0.out]; rfl
          · rw [World.cell?_alloc_lt _ _ _ hlt, rsf_cell (q := 2 * i) (r := 4) HS.out h2k.out (by omega), hd0.out]; rfl
          · rw [World.frozen?_alloc_past _ _ _ hlt]; exact HS.out.frozen _
          · rw [World.frozen?_alloc_past _ _ _ hlt]; exact HS.out.frozen _
          rintro e w' ⟨rfl, m, hw'⟩
          have HW : Hid (w' = _) := hw'
          clear hw'))
        go_roundg (nf - (i + 1))
        case measure => omega
        case rel =>
          refine ⟨i + 1, by omega, rfl, by go_num, ?_, ?_⟩
          · rw [HW.out]
            exact (((HO.out.alloc _).drewN m).setCell _ _ (.inl rfl)).setCell _ _ (.inl rfl)
          · rw [HW.out]
            refine rsf_congr (rsf_drop (q := 2 * i) (HS.out.alloc _)) ?_
            intro q hq
            rw [Bool.eq_iff_iff]; simp; omega
      · have hii : ¬ (i : Int) < (nf : Int) := by omega
        go_wp2_with fail
        go_meet
        case rel => 
          refine ⟨HO.out, rsf_congr HS.out fun q hq => ?_⟩
          have := HK.out.1
          rw [Bool.eq_iff_iff]; simp; omega
  case rest =>
    have HO : Hid (Off (fun b => b = rb) w wc) := hcut.1
    have HS : Hid (wc.rowIs rb 72 (5 * k) (RSF rb mb ob (fun q => decide (q % 2 = 0)))) := hcut.2
    clear hcut
    obtain ⟨V, hV⟩ : ∃ V, V = wc := ⟨_, rfl⟩
    subst hV
    have m6 : V.cell? ⟨mb, 6, none⟩ = some (.slice pp np cp) := HO.out.cell hmb (M.out.cell (by omega))
    go_upto_block 2 with (fail)
    go_cut [] (fun wc => Off (fun b => b = rb) w wc ∧ wc.rowIs rb 72 (5 * k) (RSF rb mb ob (fun _ => true)))
    case first =>
      go_wp2_with fail
      go_loopg [40] np (fun gk s40 wr => ∃ i, i ≤ np ∧ gk = np - i ∧ s40 = .int .i64 (i : Int) ∧ Off (fun b => b = rb) w wr ∧ wr.rowIs rb 72 (5 * k) (RSF rb mb ob (fun q => decide (q % 2 = 0) || decide (q < 2 * i))))
      case atStart => exact ⟨0, Nat.zero_le _, rfl, rfl, HO.out, rsf_congr HS.out fun q _ => by simp⟩
      case round =>
        obtain ⟨i, hi, rfl, rfl, hoff, hrs⟩ := hrel
        have HO : Hid (Off (fun b => b = rb) w wr) := hoff
        have HS : Hid (wr.rowIs rb 72 (5 * k) (RSF rb mb ob (fun q => decide (q % 2 = 0) || decide (q < 2 * i)))) := hrs
        clear hoff hrs
        by_cases hin : i < np
        · rcases hpp with ⟨_, h0, _⟩ | ⟨rfl, hcf⟩
          · omega
          have hii : (i : Int) < (np : Int) := by omega
          have hi0 : (0 : Int) ≤ (i : Int) := by omega
          have h2k : Hid (2 * i + 1 < k) := by have := HK.out; exact (by omega : 2 * i + 1 < k)
          have a0 : wr.cell? ⟨pb, i * 2, none⟩ = some (.pointer (some ⟨rb, 5 * (2 * i + 1), none⟩)) := HO.out.cell hpr.1 (PL.out i hin).1
          have a1 : wr.cell? ⟨pb, i * 2 + 1, none⟩ = some (.int .u8 0) := HO.out.cell hpr.1 (PL.out i hin).2
          have hlt := HS.out.lt
          have hd0 : Hid ((decide ((2 * i + 1) % 2 = 0) || decide (2 * i + 1 < 2 * i)) = false) := by
            show (_ || _) = false
            simp
          go_wp2_with (first | (
            go_at_call 25
            refine (dropSole_any rb (5 * (2 * i + 1)) ob 1 (.pointer (some ⟨mb, 0, none⟩)) _ ?_ (by omega) ?_ ?_ ?_ ?_).mono ?_
            · rw [World.cell?_alloc_lt _ _ _ hlt, rsf_cell (q := 2 * i + 1) (r := 2) HS.out h2k.out (by omega), hd0.out]; rfl
            · rw [World.cell?_alloc_lt _ _ _ hlt, rsf_cell (q := 2 * i + 1) (r := 3) HS.out h2k.out (by omega), hd0.out]; rfl
            · rw [World.cell?_alloc_lt _ _ _ hlt, rsf_cell (q := 2 * i + 1) (r := 4) HS.out h2k.out (by omega), hd0.out]; rfl
            · rw [World.frozen?_alloc_past _ _ _ hlt]; exact HS.out.frozen _
            · rw [World.frozen?_alloc_past _ _ _ hlt]; exact HS.out.frozen _
            rintro e w' ⟨rfl, m, hw'⟩
            have HW : Hid (w' = _) := hw'
            clear hw'))
          go_roundg (np - (i + 1))
          case measure => omega
          case rel =>
            refine ⟨i + 1, by omega, rfl, by go_num, ?_, ?_⟩
            · rw [HW.out]
              exact (((HO.out.alloc _).drewN m).setCell _ _ (.inl rfl)).setCell _ _ (.inl rfl)
            · rw [HW.out]
              refine rsf_congr (rsf_drop (q := 2 * i + 1) (HS.out.alloc _)) ?_
              intro q hq
              rw [Bool.eq_iff_iff]; simp; omega
        · have hii : ¬ (i : Int) < (np : Int) := by omega
          go_wp2_with fail
          go_meet
          case rel => 
            refine ⟨HO.out, rsf_congr HS.out fun q hq => ?_⟩
            have := HK.out.2
            rw [Bool.eq_iff_iff]; simp; omega
    case rest =>
      have HO : Hid (Off (fun b => b = rb) w wc) := hcut.1
      have HS : Hid (wc.rowIs rb 72 (5 * k) (RSF rb mb ob (fun _ => true))) := hcut.2
      clear hcut
      obtain ⟨U, hU⟩ : ∃ U, U = wc := ⟨_, rfl⟩
      subst hU
      have HM : Hid (U.rowIs mb 129 12 (MF tb ob true (.slice fp nf cf) (.slice pp np cp) met inten wai dea)) := HO.out.row hmb M.out
      have m5 : U.cell? ⟨mb, 5, none⟩ = some (.slice fp nf cf) := HM.out.cell (by omega)
      have m6 : U.cell? ⟨mb, 6, none⟩ = some (.slice pp np cp) := HM.out.cell (by omega)
      have f5 := HM.out.frozen 5
      have f6 := HM.out.frozen 6
      go_wp2_with fail
      go_region
      go_end0
      refine ⟨rfl, ?_, ?_, ?_⟩
      · exact (((HO.out.mono (fun _ _ h => .inl h)).setCell _ _ (.inl (.inr rfl))).setCell _ _ (.inl (.inr rfl))).drew
      · exact ((HS.out.setOther (a := ⟨mb, 5, none⟩) (fun e => hmb e.symm) _).setOther (a := ⟨mb, 6, none⟩) (fun e => hmb e.symm) _).drew
      · exact (mf_private (mf_flags HM.out _) _).drew
end Go.Proofs.YbulkdgjkDoor
