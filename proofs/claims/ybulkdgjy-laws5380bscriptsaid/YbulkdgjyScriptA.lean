import Derived.Test.YbulkdgjyPlain
namespace Go.Proofs.Ybulkdgjy
open Go.RowKit
attribute [local go_sem ↓] Go.wp_at_zero Go.wp_at_succ

/-- What the walk is told of the script. -/
def IsOps (w : World) (a : Option Addr) (len : Nat) (P Q : Nat → Nat) : Prop :=
  0 < len → ∃ b off, a = some ⟨b, off, none⟩ ∧ b < w.heap.size ∧ ∀ i, i < len → w.cell? ⟨b, off + i * 2, none⟩ = some (.int .u8 (P i : Int)) ∧ w.cell? ⟨b, off + i * 2 + 1, none⟩ = some (.int .u16 (Q i : Int)) ∧ P i ≤ 255 ∧ Q i ≤ 65535

/-- Where the script's loop stands. -/
structure State (w wr : World) (n T : Nat) (R : Nat → Value) (X : Nat → List Nat) (M : Nat → Bool) : Prop where
  bel : Below w.heap.size w wr
  lines : Lines wr w.heap.size n (w.heap.size + 2) R X
  model : wr.rowIs (w.heap.size + 1) 4 T (fun k => .bool (M k))
  plain : Plain n X M

set_option maxHeartbeats 400000 in
set_option maxRecDepth 100000 in
theorem script_big (nl : Int) (a : Option Addr) (len cap : Nat) (w : World) (hl : 1024 < len) :
    Calls Yba.prog 3 #[.int .u8 nl, .slice a len cap] w fun e w' => e = .returned (.bool true) ∧ Below w.heap.size w w' := by
  have hl' : (1024 : Int) < (len : Int) := by omega
  go_enter Yba.func3, Yba.ntmps3
  go_wp2
  go_ret
  exact ⟨rfl, Below.refl _ _⟩

set_option maxHeartbeats 2000000 in
set_option maxRecDepth 100000 in
theorem script (nl : Int) (a : Option Addr) (len cap : Nat) (P Q : Nat → Nat) (w : World) (h0 : 0 ≤ nl) (h1 : nl ≤ 255) (hl : len ≤ 1024) (hz : Hid (IsOps w a len P Q)) :
    Calls Yba.prog 3 #[.int .u8 nl, .slice a len cap] w fun e w' => e = .returned (.bool true) ∧ Below w.heap.size w w' := by
  have hl' : ¬ (1024 : Int) < (len : Int) := by omega
  obtain ⟨n, hn, hn1, hn4⟩ : ∃ n : Nat, nl % 4 + 1 = (n : Int) ∧ 1 ≤ n ∧ n ≤ 4 := ⟨(nl % 4 + 1).toNat, by omega, by omega, by omega⟩
  obtain ⟨T, hT, hT2⟩ : ∃ T : Nat, (n : Int) * 4096 = (T : Int) ∧ n * 4096 = T := ⟨n * 4096, by simp, rfl⟩
  have hmk := run_make_row' (P := Yba.prog) 24 30 (.slice none 0 0) 24 Yba.underlying24 info30 rfl .i64 .i64 n (by omega) (by omega)
  have hmk2 := run_make_row' (P := Yba.prog) 25 4 (.bool false) 1 Yba.underlying25 info4 rfl .i64 .i64 T (by omega) (by omega)
  have HT2 : Hid (n * 4096 = T) := hT2
  clear hT2
  go_enter Yba.func3, Yba.ntmps3
  go_wp2
  clear hmk hmk2
  go_loopg [8] len (fun gk s8 wr => ∃ i R X M, i ≤ len ∧ gk = len - i ∧ s8 = .int .i64 (i : Int) ∧ State w wr n T R X M)
  case atStart =>
    refine ⟨0, fun _ => .slice none 0 0, fun _ => [], fun _ => false, Nat.zero_le _, rfl, rfl, ((Below.refl _ _).alloc (Nat.le_refl _) _).alloc (by simp) _, ⟨by omega, by simp, (World.rowIs_made w (.slice none 0 0) n 30).alloc _, fun j hj => World.ownsRow_nil _ _ _ _, fun i j _ _ _ => .inl rfl⟩, ?_, Plain.start n⟩
    have := World.rowIs_made (w.alloc (.cells (madeCells #[.slice none 0 0] n) 30)) (.bool false) T 4
    simpa using this
  case round =>
    obtain ⟨i, R, X, M, hi, rfl, rfl, hst⟩ := hrel
    by_cases hil : i < len
    · have hili : (i : Int) < (len : Int) := by omega
      have hi0 : (0 : Int) ≤ (i : Int) := by omega
      obtain ⟨b, off, rfl, hb, hc⟩ := hz.out (by omega)
      obtain ⟨c1, c2, hP, hQ⟩ := hc i hil
      have d1 : wr.cell? ⟨b, off + i * 2, none⟩ = some (.int .u8 (P i : Int)) := by rw [hst.bel.cell hb]; exact c1
      have d2 : wr.cell? ⟨b, off + i * 2 + 1, none⟩ = some (.int .u16 (Q i : Int)) := by rw [hst.bel.cell hb]; exact c2
      obtain ⟨l, hlP, hln⟩ : ∃ l : Nat, (P i : Int) % (n : Int) = (l : Int) ∧ l < n := ⟨P i % n, by simp, Nat.mod_lt _ (by omega)⟩
      obtain ⟨ln, hlQ, hln4⟩ : ∃ ln : Nat, (Q i : Int) % 4096 = (ln : Int) ∧ ln < 4096 := ⟨Q i % 4096, by omega, Nat.mod_lt _ (by omega)⟩
      obtain ⟨k, hk, hk2⟩ : ∃ k : Nat, (l : Int) * 4096 + (ln : Int) = (k : Int) ∧ l * 4096 + ln = k := ⟨_, by omega, rfl⟩
      have hkT : (k : Int) < (T : Int) := by have := HT2.out; omega
      have hk0 : (0 : Int) ≤ (k : Int) := by omega
      have hPi : (P i : Int) ≤ 255 := by omega
      have hQi : (Q i : Int) ≤ 65535 := by omega
      have hn0 : (0 : Int) < (n : Int) := by omega
      have HL : Hid (Lines wr w.heap.size n (w.heap.size + 2) R X) := hst.lines
      have HS : Hid (State w wr n T R X M) := hst
      have hX : (X l).length ≤ 1024 := by have := hst.plain.len l hln; omega
      have HX : Hid (∀ x ∈ X l, x < 18446744073709551616) := hst.plain.word l hln
      have hhas : has (X l) ln = M k := by rw [has_bit, ← hk2]; exact (hst.plain.bit l hln ln hln4).symm
      have HH : Hid (has (X l) ln = M k ∧ l * 4096 + ln = k) := ⟨hhas, hk2⟩
      have hNs : w.heap.size + 2 ≤ wr.heap.size := hst.lines.bsz
      clear hc c1 c2 hst hk2 hhas hP hQ
      cases hM : M k with
      | true =>
        have HM : Hid (M k = true) := hM
        clear hM
        go_wp2_with (first | (
          go_at_call 5
          refine (add_any wr w.heap.size n (w.heap.size + 2) l ln R X hln (by omega) (by omega) hX HX.out HL).mono ?_
          rintro e w2 ⟨he, hk2, R2, hL2⟩
          have he2 : e = .returned (.bool false) := (by rw [he, HH.out.1, HM.out]; rfl)
          subst he2
          have m2 : w2.rowIs (w.heap.size + 1) 4 T (fun k => .bool (M k)) := (HS.out.model.of_block (hk2.block (w.heap.size + 1) (by omega) (by omega)))
          have mc : w2.cell? ⟨w.heap.size + 1, k, none⟩ = some (.bool true) := (by rw [m2.cell (i := k) (by omega), HM.out])
          have mf : w2.frozen? ⟨w.heap.size + 1, k, none⟩ = false := m2.frozen k
          have HF : Hid (Kept (w.heap.size + 2) w.heap.size wr w2 ∧ Lines w2 w.heap.size n (w.heap.size + 2) R2 (upd X l (added (X l) ln)) ∧ w2.rowIs (w.heap.size + 1) 4 T (fun k => .bool (M k))) := ⟨hk2, hL2, m2⟩
          clear he hk2 hL2 m2))
        go_roundg (len - (i + 1))
        case measure => omega
        case rel =>
          obtain ⟨q1, q2, q3⟩ := HF.out
          refine ⟨i + 1, R2, upd X l (added (X l) ln), upd M k true, by omega, rfl, by go_num, ?_, q2.setOther (by omega) (by omega), ?_, ?_⟩
          · exact (HS.out.bel.trans (q1.below (by omega) (by omega))).setCell (by simp) _
          · refine (q3.set k _).congr fun j hj => ?_
            unfold upd; split <;> rfl
          · rw [← HH.out.2]; exact HS.out.plain.step hln hln4
      | false =>
        have HM : Hid (M k = false) := hM
        clear hM
        go_wp2_with (first | (
          go_at_call 5
          refine (add_any wr w.heap.size n (w.heap.size + 2) l ln R X hln (by omega) (by omega) hX HX.out HL).mono ?_
          rintro e w2 ⟨he, hk2, R2, hL2⟩
          have he2 : e = .returned (.bool true) := (by rw [he, HH.out.1, HM.out]; rfl)
          subst he2
          have m2 : w2.rowIs (w.heap.size + 1) 4 T (fun k => .bool (M k)) := (HS.out.model.of_block (hk2.block (w.heap.size + 1) (by omega) (by omega)))
          have mc : w2.cell? ⟨w.heap.size + 1, k, none⟩ = some (.bool false) := (by rw [m2.cell (i := k) (by omega), HM.out])
          have mf : w2.frozen? ⟨w.heap.size + 1, k, none⟩ = false := m2.frozen k
          have HF : Hid (Kept (w.heap.size + 2) w.heap.size wr w2 ∧ Lines w2 w.heap.size n (w.heap.size + 2) R2 (upd X l (added (X l) ln)) ∧ w2.rowIs (w.heap.size + 1) 4 T (fun k => .bool (M k))) := ⟨hk2, hL2, m2⟩
          clear he hk2 hL2 m2))
        go_roundg (len - (i + 1))
        case measure => omega
        case rel =>
          obtain ⟨q1, q2, q3⟩ := HF.out
          refine ⟨i + 1, R2, upd X l (added (X l) ln), upd M k true, by omega, rfl, by go_num, ?_, q2.setOther (by omega) (by omega), ?_, ?_⟩
          · exact (HS.out.bel.trans (q1.below (by omega) (by omega))).setCell (by simp) _
          · refine (q3.set k _).congr fun j hj => ?_
            unfold upd; split <;> rfl
          · rw [← HH.out.2]; exact HS.out.plain.step hln hln4
    · obtain rfl : i = len := by omega
      have hili : ¬ (i : Int) < (i : Int) := by omega
      obtain ⟨W2, hW2⟩ : ∃ W2 : World, W2 = wr := ⟨_, rfl⟩
      subst hW2
      have HS : Hid (State w W2 n T R X M) := hst
      clear hst
      go_wp2_with fail
      go_loopg [13] n (fun gk s13 wr => ∃ l : Nat, l ≤ n ∧ gk = n - l ∧ s13 = .int .i64 (l : Int) ∧ wr = W2)
      case atStart => exact ⟨0, Nat.zero_le _, rfl, rfl, rfl⟩
      case round =>
        obtain ⟨l, hl, rfl, rfl, hwr⟩ := hrel
        subst hwr
        by_cases hln : l < n
        · have hlni : (l : Int) < (n : Int) := by omega
          have hl0 : (0 : Int) ≤ (l : Int) := by omega
          obtain ⟨W3, hW3⟩ : ∃ W3 : World, W3 = wr := ⟨_, rfl⟩
          subst hW3
          go_wp2_with fail
          go_loopg [15, 14] 4096 (fun gk s15 s14 wr => ∃ q : Nat, q ≤ 4096 ∧ gk = 4096 - q ∧ s15 = .int .i64 (q : Int) ∧ s14 = .int .i64 ((need M l q : Nat) : Int) ∧ wr = W3)
          case atStart => exact ⟨0, Nat.zero_le _, rfl, rfl, rfl, rfl⟩
          case round =>
            obtain ⟨q, hq, rfl, rfl, rfl, hwr⟩ := hrel
            subst hwr
            by_cases hq4 : q < 4096
            · have hqi : (q : Int) < 4096 := by omega
              obtain ⟨k, hk, hk2⟩ : ∃ k : Nat, (l : Int) * 4096 + (q : Int) = (k : Int) ∧ l * 4096 + q = k := ⟨_, by omega, rfl⟩
              have hkT : (k : Int) < (T : Int) := by have := HT2.out; omega
              have hk0 : (0 : Int) ≤ (k : Int) := by omega
              have mc : wr.cell? ⟨w.heap.size + 1, k, none⟩ = some (.bool (M k)) := HS.out.model.cell (i := k) (by omega)
              have HK : Hid (l * 4096 + q = k) := hk2
              clear hk2
              have hnd := need_le M l q
              cases hM : M k with
              | true =>
                rw [hM] at mc
                have HM : Hid (M k = true) := hM
                clear hM
                go_wp2
                go_roundg (4096 - (q + 1))
                case measure => omega
                case rel =>
                  refine ⟨q + 1, by omega, rfl, by go_num, ?_, rfl⟩
                  simp only [need, HK.out, HM.out, if_true]
                  go_num
              | false =>
                rw [hM] at mc
                have HM : Hid (M k = false) := hM
                clear hM
                go_wp2
                go_roundg (4096 - (q + 1))
                case measure => omega
                case rel =>
                  refine ⟨q + 1, by omega, rfl, by go_num, ?_, rfl⟩
                  simp only [need, HK.out, HM.out, if_false, Bool.false_eq_true]
            · obtain rfl : q = 4096 := by omega
              obtain ⟨L, hL⟩ : ∃ L, (X l).length = L := ⟨_, rfl⟩
              have hnd : need M l 4096 = L := by rw [HS.out.plain.need hln, hL]
              rw [hnd]
              clear hnd
              have hL64 : L ≤ 64 := by rw [← hL]; exact HS.out.plain.len l hln
              obtain ⟨ra, rc, hR⟩ := HS.out.lines.form hln
              have cS : wr.cell? ⟨w.heap.size, l, none⟩ = some (.slice ra L rc) := by rw [← hL, ← hR]; exact HS.out.lines.row.cell hln
              have HR : Hid (R l = .slice ra (X l).length rc ∧ (X l).length = L) := ⟨hR, hL⟩
              clear hR hL
              obtain ⟨W4, hW4⟩ : ∃ W4 : World, W4 = wr := ⟨_, rfl⟩
              subst hW4
              go_wp2_with fail
              go_loopg [16] (L * 64) (fun gk s16 wr => ∃ q : Nat, q ≤ L * 64 ∧ gk = L * 64 - q ∧ s16 = .int .i64 (q : Int) ∧ wr = W4)
              case atStart => exact ⟨0, Nat.zero_le _, rfl, rfl, rfl⟩
              case round =>
                obtain ⟨q, hq, rfl, rfl, hwr⟩ := hrel
                subst hwr
                by_cases hqL : q < L * 64
                · have hqi : (q : Int) < (L : Int) * 64 := by omega
                  have hq0 : (0 : Int) ≤ (q : Int) := by omega
                  obtain ⟨k, hk, hk2⟩ : ∃ k : Nat, (l : Int) * 4096 + (q : Int) = (k : Int) ∧ l * 4096 + q = k := ⟨_, by omega, rfl⟩
                  have hkT : (k : Int) < (T : Int) := by have := HT2.out; omega
                  have hk0 : (0 : Int) ≤ (k : Int) := by omega
                  have mc : wr.cell? ⟨w.heap.size + 1, k, none⟩ = some (.bool (M k)) := HS.out.model.cell (i := k) (by omega)
                  have HK : Hid (l * 4096 + q = k) := hk2
                  obtain ⟨m, hm, hmd⟩ : ∃ m : Nat, (q : Int) / 64 = (m : Int) ∧ q / 64 = m := ⟨q / 64, by omega, rfl⟩
                  obtain ⟨r, hr, hrd, hr64⟩ : ∃ r : Nat, (q : Int) % 64 = (r : Int) ∧ q % 64 = r ∧ r < 64 := ⟨q % 64, by omega, rfl, by omega⟩
                  have hmL : (m : Int) < (L : Int) := by omega
                  have hm0 : (0 : Int) ≤ (m : Int) := by omega
                  obtain ⟨g, hg⟩ : ∃ g, ra = some ⟨g, 0, none⟩ := by
                    obtain ⟨g, c, e, _⟩ := (HS.out.lines.own l hln).form (by rw [HR.out.2]; omega)
                    rw [HR.out.1] at e
                    injection e with e1
                    exact ⟨g, e1⟩
                  subst hg
                  obtain ⟨cg, _⟩ := HS.out.lines.cell hln HR.out.1 (q := m) (by rw [HR.out.2]; omega)
                  obtain ⟨x, hx⟩ : ∃ x, (X l).getD m 0 = x := ⟨_, rfl⟩
                  rw [hx] at cg
                  have hbit : M k = decide (x / 2 ^ r % 2 = 1) := by
                    rw [← hk2, HS.out.plain.bit l hln q (by omega), bitOf, hmd, hrd, hx, Nat.testBit_eq_decide_div_mod_eq]
                  have hx64 : x < 18446744073709551616 := by
                    rw [← hx, List.getD_eq_getElem?_getD, List.getElem?_eq_getElem (by rw [HR.out.2]; omega)]
                    exact HS.out.plain.word l hln _ (List.getElem_mem _)
                  obtain ⟨y, hy, hyd⟩ : ∃ y : Nat, (x : Int) / (2 : Int) ^ r = (y : Int) ∧ x / 2 ^ r = y := ⟨x / 2 ^ r, by simp, rfl⟩
                  have hy64 : y < 18446744073709551616 := by rw [← hyd]; exact Nat.lt_of_le_of_lt (Nat.div_le_self _ _) hx64
                  have hand := u64_and_nat y 1 hy64 (by decide)
                  rw [nat_mask1] at hand
                  rw [hyd] at hbit
                  have HB : Hid (M k = decide (y % 2 = 1)) := hbit
                  clear hk2 hbit hx hyd hmd hrd
                  by_cases h1 : y % 2 = 1
                  · have h1i : (((y % 2 : Nat) : Int) == 1) = true := by rw [h1]; rfl
                    have hMk : M k = true := by rw [HB.out]; simp [h1]
                    rw [hMk] at mc
                    rw [h1] at hand
                    have hand2 : bits .and .u64 (y : Int) 1 = 1 := hand
                    clear hMk h1 hand h1i
                    go_wp2
                    go_roundg (L * 64 - (q + 1))
                    case measure => omega
                    case rel => exact ⟨q + 1, by omega, rfl, by go_num, rfl⟩
                  · obtain h1 : y % 2 = 0 := by omega
                    have hMk : M k = false := by rw [HB.out]; simp [h1]
                    rw [hMk] at mc
                    rw [h1] at hand
                    have hand2 : bits .and .u64 (y : Int) 1 = 0 := hand
                    clear hMk h1 hand
                    go_wp2
                    go_roundg (L * 64 - (q + 1))
                    case measure => omega
                    case rel => exact ⟨q + 1, by omega, rfl, by go_num, rfl⟩
                · obtain rfl : q = L * 64 := by omega
                  have hqi : ¬ (L : Int) * 64 < (L : Int) * 64 := by omega
                  go_wp2
                  go_roundg (n - (l + 1))
                  case measure => omega
                  case rel => exact ⟨l + 1, by omega, rfl, by go_num, rfl⟩
        · obtain rfl : l = n := by omega
          have hlni : ¬ (l : Int) < (l : Int) := by omega
          go_wp2
          go_ret
          exact ⟨rfl, HS.out.bel⟩
end Go.Proofs.Ybulkdgjy
