import Derived.Test.YbulkdghgForgetA
namespace Go.Proofs.Ybulkdghg
open Go.RowKit
attribute [local go_sem ↓] Go.wp_at_zero Go.wp_at_succ

theorem inv1_stepA {P : Nat → Int} {C : Nat → ByteArray} {gp : Int} {len : Nat} {w wr : World} {k : Nat} {bs : Nat → Nat} (x y : Obj) (hk : k < len)
    (bel : Below w.heap.size w wr)
    (gone : wr.heap[w.heap.size + 2]? = some (.cells #[.int .u64 0, .int .u64 0, .pointer none, .int .u16 gp] 35))
    (row : wr.rowIs (w.heap.size + 3) 45 (len * 7) (rowF P C bs k)) (hbs : ∀ j, j < k → w.heap.size + 3 < bs j ∧ wr.heap[bs j]? = some (.cells #[.float .f64 (floatOfInt .f64 j)] 38)) :
    Inv1 P C gp len w ((((set7 wr (w.heap.size + 1 + 1 + 1) (k * 7) (.int .u64 0) (.int .u64 0) (.pointer none) (.int .u16 (P k)) (.slice (some ⟨wr.heap.size + 1 + 1, 0, none⟩) 1 1) (.slice none 0 0) (.string (C k))).alloc x).alloc y).alloc (.cells #[.float .f64 (floatOfInt .f64 k)] 38)).drew (k + 1) := by
  refine inv1_step (wr.heap.size + 1 + 1) hk bel gone row hbs ?_ (by omega) ?_
  · exact ((((Below.refl _ _).alloc (by rw [set7_size]; omega) _).alloc (by rw [Go.Deep.nblk_alloc, set7_size]; omega) _).alloc (by rw [Go.Deep.nblk_alloc, Go.Deep.nblk_alloc, set7_size]; omega) _).drew
  · generalize hS : set7 wr (w.heap.size + 1 + 1 + 1) (k * 7) (.int .u64 0) (.int .u64 0) (.pointer none) (.int .u16 (P k)) (.slice (some ⟨wr.heap.size + 1 + 1, 0, none⟩) 1 1) (.slice none 0 0) (.string (C k)) = S
    have hz : S.heap.size = wr.heap.size := by rw [← hS, set7_size]
    have := Go.Deep.blk_alloc_new ((S.alloc x).alloc y) (.cells #[.float .f64 (floatOfInt .f64 k)] 38)
    rw [Go.Deep.nblk_alloc, Go.Deep.nblk_alloc, hz] at this
    exact this

theorem inv1_stepB {P : Nat → Int} {C : Nat → ByteArray} {gp : Int} {len : Nat} {w wr : World} {k : Nat} {bs : Nat → Nat} (x y : Obj) (hk : k < len)
    (bel : Below w.heap.size w wr)
    (gone : wr.heap[w.heap.size + 2]? = some (.cells #[.int .u64 0, .int .u64 0, .pointer none, .int .u16 gp] 35))
    (row : wr.rowIs (w.heap.size + 3) 45 (len * 7) (rowF P C bs k)) (hbs : ∀ j, j < k → w.heap.size + 3 < bs j ∧ wr.heap[bs j]? = some (.cells #[.float .f64 (floatOfInt .f64 j)] 38)) :
    Inv1 P C gp len w ((((set7 wr (w.heap.size + 1 + 1 + 1) (k * 7) (.int .u64 0) (.int .u64 0) (.pointer none) (.int .u16 (P k)) (.slice (some ⟨wr.heap.size, 0, none⟩) 1 1) (.slice none 0 0) (.string (C k))).alloc (.cells #[.float .f64 (floatOfInt .f64 k)] 38)).alloc x).alloc y).drew (k + 1) := by
  refine inv1_step wr.heap.size hk bel gone row hbs ?_ (by omega) ?_
  · exact ((((Below.refl _ _).alloc (by rw [set7_size]; omega) _).alloc (by rw [Go.Deep.nblk_alloc, set7_size]; omega) _).alloc (by rw [Go.Deep.nblk_alloc, Go.Deep.nblk_alloc, set7_size]; omega) _).drew
  · generalize hS : set7 wr (w.heap.size + 1 + 1 + 1) (k * 7) (.int .u64 0) (.int .u64 0) (.pointer none) (.int .u16 (P k)) (.slice (some ⟨wr.heap.size, 0, none⟩) 1 1) (.slice none 0 0) (.string (C k)) = S
    have hz : S.heap.size = wr.heap.size := by rw [← hS, set7_size]
    have := Go.Deep.blk_alloc_new S (.cells #[.float .f64 (floatOfInt .f64 k)] 38)
    rw [hz] at this
    show (((S.alloc _).alloc x).alloc y).heap[wr.heap.size]? = _
    rw [Go.Deep.blk_alloc_lt _ _ _ (by rw [Go.Deep.nblk_alloc, Go.Deep.nblk_alloc, hz]; omega), Go.Deep.blk_alloc_lt _ _ _ (by rw [Go.Deep.nblk_alloc, hz]; omega)]
    exact this

theorem fl_ok_all : (List.range 1024).all (fun k => FloatKind.f64.format.order (floatOfInt .f64 k) (floatOfInt .f64 k) == some .eq) = true := by kernel_rfl
theorem fl_ok (k : Nat) (h : k < 1024) : FloatKind.f64.format.order (floatOfInt .f64 k) (floatOfInt .f64 k) = some .eq := by
  have := List.all_eq_true.1 fl_ok_all k (by simpa using h)
  simpa using this

set_option maxRecDepth 100000 in
set_option maxHeartbeats 4000000 in
theorem walk1 (b off : Nat) (len cap : Nat) (sel raw : Int) (w : World) (hl : len ≤ 1024) (h0 : 0 < len)
   (hs0 : 0 ≤ sel) (hs1 : sel < 65536) 
   (P : Nat → Int) (C : Nat → ByteArray) 
   (hb : b < w.heap.size) (ha : Hid (∀ i, i < len → w.cell? ⟨b, off + i * 2, none⟩ = some (.int .u16 (P i)) ∧ w.cell? ⟨b, off + i * 2 + 1, none⟩ = some (.string (C i)))) :
    Calls Yba.prog 3 #[.slice (some ⟨b, off, none⟩) len cap, .int .u16 sel, .int .u16 raw] w fun e w' => e = .returned (.bool true) ∧ Below w.heap.size w w' := by
  have hle : ¬ ((1024 : Int) < (len : Int)) := by omega
  go_enter Yba.func3, Yba.ntmps3
  go_upto_if 25 with (fail)
  go_cut [7] (fun s7 wc => ∃ gp : Int, s7 = .int .u16 gp ∧ wc = w)
  case first =>
    by_cases hsel : (sel % 2 == 0) = true
    · obtain ⟨k, hk, hk'⟩ := port_idx sel len hs0 hs1 h0
      have hc := (ha.out k hk).1
      have hki : (k : Int) < (len : Int) := by omega
      go_wp2
      go_meet
      case rel => exact ⟨_, rfl, rfl⟩
    · have hsel' : (sel % 2 == 0) = false := by simpa using hsel
      clear hsel
      go_wp2
      go_meet
      case rel => exact ⟨_, rfl, rfl⟩
  case rest =>
    obtain ⟨gp, rfl, rfl⟩ := hcut
    have hmk := run_mk len hl
    go_wp2_with (go_at_call 5; refine (apf _ _).mono ?_; rintro e w' ⟨rfl, rfl⟩)
    clear hmk
    go_loopg [44] len (fun n i wr => ∃ k : Nat, k ≤ len ∧ n = len - k ∧ i = .int .i64 k ∧ Inv1 P C gp len wc wr k)
    case atStart => exact ⟨0, Nat.zero_le _, rfl, rfl, inv1_start P C gp len wc _ _⟩
    case round =>
      obtain ⟨k, hk, rfl, rfl, hinv⟩ := hrel
      by_cases hlt : k < len
      · have hlti : (k : Int) < (len : Int) := by omega
        have hk0 : (0 : Int) ≤ (k : Int) := by omega
        obtain ⟨bel, gone, bs, row, hbs⟩ := hinv
        have hc1 : wr.cell? ⟨b, off + k * 2, none⟩ = some (.int .u16 (P k)) := by rw [bel.cell hb]; exact (ha.out k hlt).1
        have hc2 : wr.cell? ⟨b, off + k * 2 + 1, none⟩ = some (.string (C k)) := by rw [bel.cell hb]; exact (ha.out k hlt).2
        have HB : Hid (Below wc.heap.size wc wr ∧ wr.heap[wc.heap.size + 2]? = some (.cells #[.int .u64 0, .int .u64 0, .pointer none, .int .u16 gp] 35) ∧ wr.rowIs (wc.heap.size + 3) 45 (len * 7) (rowF P C bs k) ∧ ∀ j, j < k → wc.heap.size + 3 < bs j ∧ wr.heap[bs j]? = some (.cells #[.float .f64 (floatOfInt .f64 j)] 38)) := ⟨bel, gone, row, hbs⟩
        have r0 : wr.cell? ⟨wc.heap.size + 1 + 1 + 1, k * 7, none⟩ = some (rowF P C bs k (k * 7)) := row.cell (by omega)
        have r1 : wr.cell? ⟨wc.heap.size + 1 + 1 + 1, k * 7 + 1, none⟩ = some (rowF P C bs k (k * 7 + 1)) := row.cell (by omega)
        have r2 : wr.cell? ⟨wc.heap.size + 1 + 1 + 1, k * 7 + 2, none⟩ = some (rowF P C bs k (k * 7 + 2)) := row.cell (by omega)
        have r3 : wr.cell? ⟨wc.heap.size + 1 + 1 + 1, k * 7 + 3, none⟩ = some (rowF P C bs k (k * 7 + 3)) := row.cell (by omega)
        have r4 : wr.cell? ⟨wc.heap.size + 1 + 1 + 1, k * 7 + 4, none⟩ = some (rowF P C bs k (k * 7 + 4)) := row.cell (by omega)
        have r5 : wr.cell? ⟨wc.heap.size + 1 + 1 + 1, k * 7 + 5, none⟩ = some (rowF P C bs k (k * 7 + 5)) := row.cell (by omega)
        have r6 : wr.cell? ⟨wc.heap.size + 1 + 1 + 1, k * 7 + 6, none⟩ = some (rowF P C bs k (k * 7 + 6)) := row.cell (by omega)
        have fz : ∀ i, wr.frozen? ⟨wc.heap.size + 1 + 1 + 1, i, none⟩ = false := fun i => row.frozen i
        have hlt4 : wc.heap.size + 1 + 1 + 1 < wr.heap.size := row.lt
        have hbw : b < wr.heap.size := by have := bel.size; omega
        have hbw1 : b < wr.heap.size + 1 := by omega
        have hbw2 : b < wr.heap.size + 2 := by omega
        have hbw3 : b < wr.heap.size + 1 + 1 := by omega
        have hlt5 : wc.heap.size + 1 + 1 + 1 < wr.heap.size + 1 := by omega
        have hlt6 : wc.heap.size + 1 + 1 + 1 < wr.heap.size + 2 := by omega
        have hlt7 : wc.heap.size + 1 + 1 + 1 < wr.heap.size + 1 + 1 := by omega
        clear bel gone row hbs
        go_wp2
        go_region_held3 (fun w' => w'.cell? ⟨b, off + k * 2, none⟩ = some (.int .u16 (P k)) ∧ w'.cell? ⟨b, off + k * 2 + 1, none⟩ = some (.string (C k))) (go_simp) (first | (go_at_call 5; refine (apf _ _).mono ?_; rintro e w' ⟨rfl, rfl⟩))
        · go_wp2
          go_roundg (len - (k + 1))
          case measure => omega
          case rel =>
            obtain ⟨bel, gone, row, hbs⟩ := HB.out
            exact ⟨k + 1, by omega, rfl, by go_num, inv1_stepA _ _ hlt bel gone row hbs⟩
        · go_wp2
          go_roundg (len - (k + 1))
          case measure => omega
          case rel =>
            obtain ⟨bel, gone, row, hbs⟩ := HB.out
            exact ⟨k + 1, by omega, rfl, by go_num, inv1_stepB _ _ hlt bel gone row hbs⟩
      · obtain rfl : k = len := by omega
        obtain ⟨W1, hW1⟩ : ∃ W1 : World, W1 = wr := ⟨_, rfl⟩
        subst hW1
        have hlti : ¬ (k : Int) < (k : Int) := by omega
        obtain ⟨bel, gone, bs, row, hbs⟩ := hinv
        have hlt3 : wc.heap.size + 3 < W1.heap.size := row.lt
        have g0 : W1.cell? ⟨wc.heap.size + 1 + 1, 0, none⟩ = some (.int .u64 0) := by simp [World.cell?, gone]
        have g1 : W1.cell? ⟨wc.heap.size + 1 + 1, 1, none⟩ = some (.int .u64 0) := by simp [World.cell?, gone]
        have g2 : W1.cell? ⟨wc.heap.size + 1 + 1, 2, none⟩ = some (.pointer none) := by simp [World.cell?, gone]
        have g3 : W1.cell? ⟨wc.heap.size + 1 + 1, 3, none⟩ = some (.int .u16 gp) := by simp [World.cell?, gone]
        have hg : wc.heap.size + 1 + 1 < W1.heap.size := by omega
        have HB : Hid (Below wc.heap.size wc W1 ∧ W1.rowIs (wc.heap.size + 3) 45 (k * 7) (rowF P C bs k) ∧ ∀ j, j < k → wc.heap.size + 3 < bs j ∧ W1.heap[bs j]? = some (.cells #[.float .f64 (floatOfInt .f64 j)] 38)) := ⟨bel, row, hbs⟩
        clear bel gone row hbs hlt3
        go_wp2_with (first | (refine wpList_node rfl rfl _ _ rfl ?_; intro cs hcs; refine wpList_box99 rfl _ rfl cs rfl ?_))
        obtain ⟨bel, row, hbs⟩ := HB.out
        have hlt3 : wc.heap.size + 3 < W1.heap.size := row.lt
        refine (forget P C bs gp k W1.heap.size (wc.heap.size + 1 + 1 + 1) (W1.alloc (.cells cs 99)) hl (by omega) (by simp) (by rw [World.cell?_alloc_new]; exact hcs) (row.alloc _)).mono ?_
        rintro e w2 ⟨rfl, hbut, hrow2⟩
        have n1 : w2.cell? ⟨W1.heap.size, 110, none⟩ = some (.slice (some ⟨wc.heap.size + 1 + 1 + 1, 0, none⟩) k k) := by
          rw [hbut.cell (by simp) (by simp; omega), World.cell?_alloc_new]; exact hcs
        have hbel2 : Below wc.heap.size wc w2 := (bel.trans ((Below.refl _ _).alloc (by omega) _)).trans (hbut.below (by omega) (by simp; omega))
        have hbs2 : ∀ j, j < k → wc.heap.size + 3 < bs j ∧ w2.heap[bs j]? = some (.cells #[.float .f64 (floatOfInt .f64 j)] 38) := by
          intro j hj
          obtain ⟨h1, h2⟩ := hbs j hj
          have hbl : bs j < W1.heap.size := (Array.getElem?_eq_some_iff.1 h2).1
          exact ⟨h1, by rw [hbut.block _ (by simp; omega) (by omega), Below.heap_alloc _ _ _ hbl]; exact h2⟩
        have hs2 := hbut.size
        have hn2 : W1.heap.size < w2.heap.size := by simp at hs2; omega
        have HB2 : Hid (Below wc.heap.size wc w2 ∧ w2.rowIs (wc.heap.size + 3) 45 (k * 7) (rowG P C bs gp k k) ∧ ∀ j, j < k → wc.heap.size + 3 < bs j ∧ w2.heap[bs j]? = some (.cells #[.float .f64 (floatOfInt .f64 j)] 38)) := ⟨hbel2, hrow2, hbs2⟩
        clear hbut hrow2 hbel2 hbs2 bel row hbs HB hlt3 hs2 g0 g1 g2 g3 hg
        go_wp2_with fail
        go_loopg [84] k (fun n i w3 => ∃ j : Nat, j ≤ k ∧ n = k - j ∧ i = .int .i64 j ∧ Below w2.heap.size w2 w3)
        case atStart => exact ⟨0, Nat.zero_le _, rfl, rfl, Below.refl _ _⟩
        case round =>
          obtain ⟨j, hj, rfl, rfl, hb3⟩ := hrel
          by_cases hjk : j < k
          · have hjki : (j : Int) < (k : Int) := by omega
            obtain ⟨bel, row, hbs⟩ := HB2.out
            have hs3 := hb3.size
            have hsw := bel.size
            have m1 : wr.cell? ⟨W1.heap.size, 110, none⟩ = some (.slice (some ⟨wc.heap.size + 1 + 1 + 1, 0, none⟩) k k) := by rw [hb3.cell hn2]; exact n1
            have hc1 : wr.cell? ⟨b, off + j * 2, none⟩ = some (.int .u16 (P j)) := by rw [hb3.cell (by simp; omega), bel.cell hb]; exact (ha.out j hjk).1
            have hc2 : wr.cell? ⟨b, off + j * 2 + 1, none⟩ = some (.string (C j)) := by rw [hb3.cell (by simp; omega), bel.cell hb]; exact (ha.out j hjk).2
            have rowr : wr.rowIs (wc.heap.size + 3) 45 (k * 7) (rowG P C bs gp k k) := row.of_block (hb3.block _ row.lt)
            obtain ⟨hbj, hbj2⟩ := hbs j hjk
            have hbl : bs j < w2.heap.size := (Array.getElem?_eq_some_iff.1 hbj2).1
            have hf : wr.cell? ⟨bs j, 0, none⟩ = some (.float .f64 (floatOfInt .f64 j)) := by rw [hb3.cell hbl]; simp [World.cell?, hbj2]
            have hfl := fl_ok j (by omega)
            have hB3 : wc.heap.size + 1 + 1 + 1 < wr.heap.size := rowr.lt
            have hbb : b < wr.heap.size := by omega
            have hbsb : bs j < wr.heap.size := by omega
            have hnb : W1.heap.size < wr.heap.size := by omega
            have e29 := eq29
            by_cases hp : P j = gp
            · have r : ∀ m, m < 7 → wr.cell? ⟨wc.heap.size + 1 + 1 + 1, j * 7 + m, none⟩ = some (zv m) := by
                intro m hm
                rw [rowr.cell (by omega)]
                unfold rowG
                rw [if_pos ⟨by omega, by rw [show (j * 7 + m) / 7 = j by omega]; exact hp⟩, show (j * 7 + m) % 7 = m by omega]
              have r0 : wr.cell? ⟨wc.heap.size + 1 + 1 + 1, j * 7, none⟩ = some (.int .u64 0) := r 0 (by omega)
              have r1 : wr.cell? ⟨wc.heap.size + 1 + 1 + 1, j * 7 + 1, none⟩ = some (.int .u64 0) := r 1 (by omega)
              have r2 : wr.cell? ⟨wc.heap.size + 1 + 1 + 1, j * 7 + 2, none⟩ = some (.pointer none) := r 2 (by omega)
              have r3 : wr.cell? ⟨wc.heap.size + 1 + 1 + 1, j * 7 + 3, none⟩ = some (.int .u16 0) := r 3 (by omega)
              have r4 : wr.cell? ⟨wc.heap.size + 1 + 1 + 1, j * 7 + 4, none⟩ = some (.slice none 0 0) := r 4 (by omega)
              have r5 : wr.cell? ⟨wc.heap.size + 1 + 1 + 1, j * 7 + 5, none⟩ = some (.slice none 0 0) := r 5 (by omega)
              have r6 : wr.cell? ⟨wc.heap.size + 1 + 1 + 1, j * 7 + 6, none⟩ = some (.string ⟨#[]⟩) := r 6 (by omega)
              have HB3 : Hid (Below w2.heap.size w2 wr) := hb3
              have hs3' : w2.heap.size ≤ wr.heap.size := hs3
              have hp' : (P j == gp) = true := by simpa using hp
              have HP : Hid (P j = gp) := hp
              clear r hb3 rowr row bel hbs hbj2 hp
              go_wp2
              go_roundg (k - (j + 1))
              case measure => omega
              case rel => exact ⟨j + 1, by omega, rfl, by go_num, HB3.out.alloc hs3' _⟩
            · have r : ∀ m, m < 7 → wr.cell? ⟨wc.heap.size + 1 + 1 + 1, j * 7 + m, none⟩ = some (peerv (P j) (C j) (bs j) m) := by
                intro m hm
                rw [rowr.cell (by omega)]
                unfold rowG
                rw [if_neg (fun h => hp (by rw [← show (j * 7 + m) / 7 = j by omega]; exact h.2)), rowF_full P C bs k j m hjk hm]
              have r0 : wr.cell? ⟨wc.heap.size + 1 + 1 + 1, j * 7, none⟩ = some (.int .u64 0) := r 0 (by omega)
              have r1 : wr.cell? ⟨wc.heap.size + 1 + 1 + 1, j * 7 + 1, none⟩ = some (.int .u64 0) := r 1 (by omega)
              have r2 : wr.cell? ⟨wc.heap.size + 1 + 1 + 1, j * 7 + 2, none⟩ = some (.pointer none) := r 2 (by omega)
              have r3 : wr.cell? ⟨wc.heap.size + 1 + 1 + 1, j * 7 + 3, none⟩ = some (.int .u16 (P j)) := r 3 (by omega)
              have r4 : wr.cell? ⟨wc.heap.size + 1 + 1 + 1, j * 7 + 4, none⟩ = some (.slice (some ⟨bs j, 0, none⟩) 1 1) := r 4 (by omega)
              have r5 : wr.cell? ⟨wc.heap.size + 1 + 1 + 1, j * 7 + 5, none⟩ = some (.slice none 0 0) := r 5 (by omega)
              have r6 : wr.cell? ⟨wc.heap.size + 1 + 1 + 1, j * 7 + 6, none⟩ = some (.string (C j)) := r 6 (by omega)
              have hp' : (P j == gp) = false := by simpa using hp
              have HB3 : Hid (Below w2.heap.size w2 wr) := hb3
              have hs3' : w2.heap.size ≤ wr.heap.size := hs3
              clear r hb3 rowr row bel hbs hbj2 hp
              have q1 : b < wr.heap.size + 1 := by omega
              have q2 : b < wr.heap.size + 2 := by omega
              have q3 : b < wr.heap.size + 1 + 1 := by omega
              have q4 : bs j < wr.heap.size + 1 := by omega
              have q5 : bs j < wr.heap.size + 2 := by omega
              have q6 : bs j < wr.heap.size + 1 + 1 := by omega
              go_wp2_with fail
              go_region_held3 (fun w' => w'.cell? ⟨b, off + j * 2, none⟩ = some (.int .u16 (P j)) ∧ w'.cell? ⟨b, off + j * 2 + 1, none⟩ = some (.string (C j)) ∧ w'.cell? ⟨bs j, 0, none⟩ = some (.float .f64 (floatOfInt .f64 j))
                ∧ w'.cell? ⟨wr.heap.size, 0, none⟩ = some (.int .u64 0) ∧ w'.cell? ⟨wr.heap.size, 1, none⟩ = some (.int .u64 0) ∧ w'.cell? ⟨wr.heap.size, 2, none⟩ = some (.pointer none) ∧ w'.cell? ⟨wr.heap.size, 3, none⟩ = some (.int .u16 (P j))
                ∧ w'.cell? ⟨wr.heap.size, 4, none⟩ = some (.slice (some ⟨bs j, 0, none⟩) 1 1) ∧ w'.cell? ⟨wr.heap.size, 5, none⟩ = some (.slice none 0 0) ∧ w'.cell? ⟨wr.heap.size, 6, none⟩ = some (.string (C j))) (go_simp) (first | (go_at_call 5; refine (apf _ _).mono ?_; rintro e w' ⟨rfl, rfl⟩))
              go_wp2
              go_roundg (k - (j + 1))
              case measure => omega
              case rel => exact ⟨j + 1, by omega, rfl, by go_num, (((HB3.out.alloc hs3' _).alloc (by simp; omega) _).alloc (by simp; omega) _).drew⟩
          · obtain rfl : j = k := by omega
            have hjki : ¬ (j : Int) < (j : Int) := by omega
            have HB3 : Hid (Below w2.heap.size w2 wr) := hb3
            clear hb3
            go_wp2
            go_ret
            have hsz := HB2.out.1.size
            exact ⟨rfl, HB2.out.1.trans (HB3.out.mono hsz)⟩
end Go.Proofs.Ybulkdghg
