import Derived.Test.YbulkdghgModelC
import Derived.Deep.AppendLies
namespace Go.Proofs.Ybulkdghg.Model
open Go.RowKit
attribute [local go_sem ↓] Go.wp_at_zero Go.wp_at_succ
attribute [local go_sem] run_store_float

def pv (d b : Nat) : Value := .slice (some ⟨b, 0, none⟩) d d
def lev (d i : Nat) : Nat := if i = 0 then 0 else (i - 1) / 2 ^ d + 1
def sgn (d i : Nat) : Nat := if i = 0 then 0 else (i - 1) % 2 ^ d
/-- Block b holds the point number i. -/
def PtOk (d : Nat) (X : Nat → Nat) (wr : World) (i b : Nat) : Prop :=
  ∃ R : Nat → Nat, wr.rowIs b 38 d (fun m => .float .f64 (R m)) ∧ ∀ m, m < d → Pt (X m) (offv (lev d i) (bitB (sgn d i) m)) (R m)
/-- The slice v holds the first n points. -/
def Pts (N d : Nat) (X : Nat → Nat) (w wr : World) (n : Nat) (v : Value) : Prop :=
  Below N w wr ∧ N ≤ wr.heap.size ∧ ∃ pb : Nat → Nat, wr.ownsRow N 40 1 v n ((List.range n).map fun i => pv d (pb i)) ∧ ∀ i, i < n → N ≤ pb i ∧ v.ownBlock ≠ some (pb i) ∧ PtOk d X wr i (pb i)

theorem PtOk.of_block {d : Nat} {X : Nat → Nat} {w w' : World} {i b : Nat} (h : PtOk d X w i b) (e : w'.heap[b]? = w.heap[b]?) : PtOk d X w' i b := by
  obtain ⟨R, h1, h2⟩ := h
  exact ⟨R, h1.of_block e, h2⟩
theorem PtOk.lt {d : Nat} {X : Nat → Nat} {w : World} {i b : Nat} (h : PtOk d X w i b) : b < w.heap.size := by
  obtain ⟨R, h1, _⟩ := h
  exact h1.lt

theorem pts_start {d : Nat} {X : Nat → Nat} {w w1 : World} (hb : Below w.heap.size w w1) (hs : w1.heap.size = w.heap.size + 1) (hp : PtOk d X w1 0 w.heap.size) :
    Pts w.heap.size d X w (w1.alloc (.cells #[pv d w.heap.size] 40)) 1 (.slice (some ⟨w.heap.size + 1, 0, none⟩) 1 1) := by
  refine ⟨hb.alloc (by omega) _, by rw [Go.Deep.nblk_alloc]; omega, fun _ => w.heap.size, ⟨by simp, .inr ⟨w.heap.size + 1, 1, #[pv d w.heap.size], rfl, by omega, ?_, Nat.le_refl _, by decide, by simp, by simp⟩⟩, ?_⟩
  · rw [← hs]; exact Go.Deep.blk_alloc_new _ _
  · intro i hi
    obtain rfl : i = 0 := by omega
    refine ⟨Nat.le_refl _, by simp [Value.ownBlock], hp.of_block (Go.Deep.blk_alloc_lt _ _ _ hp.lt)⟩

theorem pts_step {N d : Nat} {X : Nat → Nat} {w wr w1 w3 : World} {n g cap : Nat} {v : Value} (hp : Pts N d X w wr n v) (hb : Below wr.heap.size wr w1) (hs : w1.heap.size = wr.heap.size + 1) (hpt : PtOk d X w1 n wr.heap.size)
    (xs : List Value) (pb : Nat → Nat) (hxs : xs = (List.range n).map fun i => pv d (pb i)) (hpb : ∀ i, i < n → N ≤ pb i ∧ v.ownBlock ≠ some (pb i) ∧ PtOk d X wr i (pb i))
    (hown : w3.ownsRow N 40 1 (.slice (some ⟨g, 0, none⟩) (n + 1) cap) (n + 1) (xs ++ [pv d wr.heap.size])) (hlt : ∀ k, v.ownBlock = some k → N ≤ k ∧ k < wr.heap.size)
    (hg : (w1.alloc (.cells #[pv d wr.heap.size] 40)).grownBy w3 v.ownBlock) (hat : v.ownBlock = some g ∨ g = wr.heap.size + 1 + 1) : Pts N d X w w3 (n + 1) (.slice (some ⟨g, 0, none⟩) (n + 1) cap) := by
  obtain ⟨hbel, hN, _⟩ := hp
  have hsz : (w1.alloc (.cells #[pv d wr.heap.size] 40)).heap.size = wr.heap.size + 1 + 1 := by rw [Go.Deep.nblk_alloc, hs]
  have hbel2 : Below N w (w1.alloc (.cells #[pv d wr.heap.size] 40)) := (hbel.trans (hb.mono hN)).alloc (by omega) _
  have hgs := hg.size
  refine ⟨hbel2.grown hg (by omega) (fun k hk => (hlt k hk).1), by omega, fun i => if i = n then wr.heap.size else pb i, ?_, ?_⟩
  · have e : (List.range (n + 1)).map (fun i => pv d (if i = n then wr.heap.size else pb i)) = xs ++ [pv d wr.heap.size] := by
      rw [List.range_succ, List.map_append, hxs]
      congr 1
      · refine List.map_congr_left fun i hi => ?_
        have := List.mem_range.1 hi
        rw [if_neg (by omega)]
      · simp
    rw [e]; exact hown
  · intro i hi
    by_cases e : i = n
    · subst e
      simp only [if_true]
      refine ⟨hN, ?_, hpt.of_block ?_⟩
      · simp only [Value.ownBlock]
        rcases hat with h | h
        · have := (hlt g h).2
          intro hc; injection hc with hc; omega
        · intro hc; injection hc with hc; omega
      · rw [hg.block _ (by omega) (by
          intro hc
          have := (hlt _ hc.symm).2
          omega), Go.Deep.blk_alloc_lt _ _ _ (by omega)]
    · simp only [if_neg e]
      obtain ⟨q1, q2, q3⟩ := hpb i (by omega)
      have hl := q3.lt
      refine ⟨q1, ?_, q3.of_block ?_⟩
      · simp only [Value.ownBlock]
        rcases hat with h | h
        · intro hc; injection hc with hc
          exact q2 (by rw [h, hc])
        · intro hc; injection hc with hc; omega
      · rw [hg.block _ (by omega) (fun hc => q2 hc.symm), Go.Deep.blk_alloc_lt _ _ _ (by omega), hb.block _ hl]

set_option maxHeartbeats 400000 in
set_option maxRecDepth 100000 in
theorem probe_any (ib d : Nat) (X : Nat → Nat) (hd : d ≤ 8) (w : World) (hib : ib < w.heap.size) (hx : Hid (∀ m, m < d → w.cell? ⟨ib, m, none⟩ = some (.float .f64 (X m)))) :
    Calls Yba.prog 9 #[.slice (some ⟨ib, 0, none⟩) d d, .int .i64 (-1)] w fun e w' => e = .returned (.slice (some ⟨w.heap.size, 0, none⟩) d d) ∧ Below w.heap.size w w' ∧ w'.heap.size = w.heap.size + 1 ∧ PtOk d X w' 0 w.heap.size := by
  go_enter Yba.func9, Yba.ntmps9
  go_wp2_with fail
  refine (ldexp_any 0 (by omega) _).mono ?_
  rintro e w' ⟨rfl, rfl⟩
  go_wp2_with fail
  refine (shifted_any ib d 0 0 X (by omega) hd w' hib hx).mono ?_
  rintro e w1 ⟨rfl, h1, h2, h3⟩
  have HB : Hid _ := And.intro h1 (And.intro h2 h3)
  clear h1 h2 h3
  go_wp2
  go_ret
  exact ⟨rfl, HB.out.1, HB.out.2.1, HB.out.2.2⟩

set_option maxHeartbeats 400000 in
theorem contact_neg (a : Option Addr) (n c : Nat) (lv : Int) (h : lv < 0) (w : World) : Calls Yba.prog 7 #[.slice a n c, .int .i64 lv] w fun e w' => e = .returned (.slice none 0 0) ∧ w' = w := by
  go_enter Yba.func7, Yba.ntmps7
  go_wp2
  go_ret
  exact ⟨rfl, rfl⟩

theorem info40 : (Yba.prog.info? 40).map (fun i => (i.zero, i.size, i.bytes)) = some (some (.slice none 0 0), 1, 24) := by kernel_rfl

theorem pow_facts (d : Nat) (hd : d ≤ 8) : ∃ D : Nat, 2 ^ d = D ∧ D ≤ 256 ∧ wrap64 ((2 : Int) ^ d) = (D : Int) := by
  match d, hd with
  | 0, _ => exact ⟨1, by decide, by decide, by kernel_rfl⟩
  | 1, _ => exact ⟨2, by decide, by decide, by kernel_rfl⟩
  | 2, _ => exact ⟨4, by decide, by decide, by kernel_rfl⟩
  | 3, _ => exact ⟨8, by decide, by decide, by kernel_rfl⟩
  | 4, _ => exact ⟨16, by decide, by decide, by kernel_rfl⟩
  | 5, _ => exact ⟨32, by decide, by decide, by kernel_rfl⟩
  | 6, _ => exact ⟨64, by decide, by decide, by kernel_rfl⟩
  | 7, _ => exact ⟨128, by decide, by decide, by kernel_rfl⟩
  | 8, _ => exact ⟨256, by decide, by decide, by kernel_rfl⟩

theorem lev_at (d l s : Nat) (hl : 1 ≤ l) (hs : s < 2 ^ d) : lev d (1 + (l - 1) * 2 ^ d + s) = l ∧ sgn d (1 + (l - 1) * 2 ^ d + s) = s := by
  unfold lev sgn
  rw [if_neg (by omega), if_neg (by omega), show 1 + (l - 1) * 2 ^ d + s - 1 = s + (l - 1) * 2 ^ d by omega]
  rw [Nat.add_mul_div_right _ _ (by omega), Nat.add_mul_mod_self_right, Nat.div_eq_of_lt hs, Nat.mod_eq_of_lt hs]
  omega

set_option maxHeartbeats 400000 in
set_option maxRecDepth 100000 in
theorem contact_any (ib d lv : Nat) (X : Nat → Nat) (hd : d ≤ 8) (hlv : lv ≤ 40) (w : World) (hib : ib < w.heap.size) (hx : Hid (∀ m, m < d → w.cell? ⟨ib, m, none⟩ = some (.float .f64 (X m)))) :
    Calls Yba.prog 7 #[.slice (some ⟨ib, 0, none⟩) d d, .int .i64 (lv : Int)] w fun e w' => ∃ v, e = .returned v ∧ Pts w.heap.size d X w w' (1 + lv * 2 ^ d) v := by
  have hlv0 : ¬ ((lv : Int) < 0) := by omega
  obtain ⟨D, hD, hD1, hDw⟩ : ∃ D : Nat, 2 ^ d = D ∧ D ≤ 256 ∧ wrap64 ((2 : Int) ^ d) = (D : Int) := pow_facts d hd
  have HD : Hid (2 ^ d = D) := hD
  clear hD
  go_enter Yba.func7, Yba.ntmps7
  go_wp2_with (go_at_call 9; refine (probe_any ib d X hd _ hib hx).mono ?_; rintro e w1 ⟨rfl, h1, h2, h3⟩; have HB : Hid _ := And.intro h1 (And.intro h2 h3); clear h1 h2 h3)
  go_loopg [6, 5] lv (fun n l5 v wr => ∃ l : Nat, 1 ≤ l ∧ l ≤ lv + 1 ∧ n = lv + 1 - l ∧ l5 = .int .i64 l ∧ Pts w.heap.size d X w wr (1 + (l - 1) * 2 ^ d) v)
  case atStart =>
    refine ⟨1, Nat.le_refl _, by omega, by omega, rfl, ?_⟩
    have := pts_start HB.out.1 HB.out.2.1 HB.out.2.2
    simpa [pv, HB.out.2.1] using this
  case round =>
    obtain ⟨l, hl1, hl2, rfl, rfl, hpts⟩ := hrel
    by_cases hlt : l ≤ lv
    · have hlti : (l : Int) ≤ (lv : Int) := by omega
      have HP : Hid (Pts w.heap.size d X w wr (1 + (l - 1) * 2 ^ d) u5) := hpts
      clear hpts HB
      go_wp2_with fail
      obtain ⟨W1, hW1⟩ : ∃ W1 : World, W1 = wr := ⟨_, rfl⟩
      subst hW1
      rw [hDw]
      clear hDw
      go_loopg [21, 5] D (fun n s5 v wr => ∃ s : Nat, s ≤ D ∧ n = D - s ∧ s5 = .int .i64 s ∧ Pts w.heap.size d X w wr (1 + (l - 1) * 2 ^ d + s) v)
      case atStart => exact ⟨0, Nat.zero_le _, rfl, rfl, HP.out⟩
      case round =>
        obtain ⟨s, hs, rfl, rfl, hpts⟩ := hrel
        by_cases hsl : s < D
        · have hsli : (s : Int) < (D : Int) := by omega
          have HP : Hid (Pts w.heap.size d X w wr (1 + (l - 1) * 2 ^ d + s) u5) := hpts
          clear hpts
          go_wp2_with fail
          refine (ldexp_any l (by omega) _).mono ?_
          rintro e w' ⟨rfl, rfl⟩
          go_wp2_with fail
          have hN := HP.out.2.1
          refine (shifted_any ib d l s X (by omega) hd w' (by omega) (fun m hm => by rw [HP.out.1.cell hib]; exact hx.out m hm)).mono ?_
          rintro e w1 ⟨rfl, h1, h2, R, h3, h4⟩
          have hpt : PtOk d X w1 (1 + (l - 1) * 2 ^ d + s) w'.heap.size := by
            obtain ⟨e1, e2⟩ := lev_at d l s hl1 (by rw [HD.out]; exact hsl)
            exact ⟨R, h3, fun m hm => by rw [e1, e2]; exact h4 m hm⟩
          obtain ⟨hbel, _, pb, hown, hpb⟩ := HP.out
          obtain ⟨i, hi, hz0, hz1, hz2⟩ := info_parts info40
          have hown2 : (w1.alloc (.cells #[pv d w'.heap.size] 40)).ownsRow w.heap.size 40 1 u5 (1 + (l - 1) * 2 ^ d + s) ((List.range (1 + (l - 1) * 2 ^ d + s)).map fun i => pv d (pb i)) := by
            refine World.ownsRow.alloc (World.ownsRow.kept hown (row := none) ⟨h1.os, h1.tape, h1.output, h1.size, fun k hk _ => h1.block k hk⟩ ?_) _
            cases u5.ownBlock <;> simp
          have HH : Hid (Below w'.heap.size w' w1 ∧ w1.heap.size = w'.heap.size + 1 ∧ PtOk d X w1 (1 + (l - 1) * 2 ^ d + s) w'.heap.size ∧ ∀ i, i < 1 + (l - 1) * 2 ^ d + s → w.heap.size ≤ pb i ∧ u5.ownBlock ≠ some (pb i) ∧ PtOk d X w' i (pb i)) := ⟨h1, h2, hpt, hpb⟩
          have hlt := hown.lt
          have hblk : (w1.alloc (.cells #[pv d w'.heap.size] 40)).heap[w'.heap.size + 1]? = some (.cells #[pv d w'.heap.size] 40) := by rw [← h2]; exact Go.Deep.blk_alloc_new _ _
          have HN : Hid (∀ j u, [pv d w'.heap.size][j]? = some u → (w1.alloc (.cells #[pv d w'.heap.size] 40)).cell? ((⟨w'.heap.size + 1, 0, none⟩ : Addr).add j) = some u) := World.news_of_block hblk
          have hnb : 1 + (l - 1) * 2 ^ d + s ≤ 20000 := by
            have h3 : (l - 1) * 2 ^ d ≤ 40 * 256 := Nat.mul_le_mul (by omega) (by rw [HD.out]; exact hD1)
            omega
          have Hown2 := show Hid _ from hown2
          have Hlt : Hid (∀ k, u5.ownBlock = some k → w.heap.size ≤ k ∧ k < w'.heap.size) := hlt
          clear h1 h3 h4 hpt hbel hown hpb hblk hlt hown2
          go_wp2_with (at_builtin; refine wpList_append_lies _ rfl _ _ _ rfl w.heap.size 40 i (.slice none 0 0) 1 24 Yba.underlying102 hi hz0 hz1 hz2 rfl (by omega) u5 (1 + (l - 1) * 2 ^ d + s) _ rfl Hown2.out ⟨w'.heap.size + 1, 0, none⟩ 1 1 [pv d w'.heap.size] rfl rfl HN.out (by simp [pv, Value.oneCell']) (by omega) (by unfold maxLen; omega) (by omega) (by rw [Go.Deep.nblk_alloc]; omega) (w'.heap.size + 1 + 1) (by rw [Go.Deep.nblk_alloc]; omega) ?_; intro g cap w3 hown3 hgrow hat hlt3)
          go_roundg (D - (s + 1))
          case measure => omega
          case rel =>
            obtain ⟨q1, q2, q3, q4⟩ := HH.out
            exact ⟨s + 1, by omega, rfl, by go_num, pts_step HP.out q1 q2 q3 _ pb rfl q4 hown3 Hlt.out hgrow hat⟩
        · obtain rfl : s = D := by omega
          have hsli : ¬ (s : Int) < (s : Int) := by omega
          have HP : Hid (Pts w.heap.size d X w wr (1 + (l - 1) * 2 ^ d + s) u5) := hpts
          clear hpts
          go_wp2
          go_roundg (lv + 1 - (l + 1))
          case measure => omega
          case rel =>
            refine ⟨l + 1, by omega, by omega, rfl, by go_num, ?_⟩
            have e : 1 + (l + 1 - 1) * 2 ^ d = 1 + (l - 1) * 2 ^ d + s := by
              rw [HD.out]
              obtain ⟨q, rfl⟩ : ∃ q, l = q + 1 := ⟨l - 1, by omega⟩
              simp [Nat.add_mul]
              omega
            rw [e]
            exact HP.out
    · obtain rfl : l = lv + 1 := by omega
      have hlti : ¬ (((lv + 1 : Nat) : Int) ≤ (lv : Int)) := by omega
      have HP : Hid (Pts w.heap.size d X w wr (1 + (lv + 1 - 1) * 2 ^ d) u5) := hpts
      clear hpts HB
      go_wp2
      go_ret
      exact ⟨_, rfl, HP.out⟩
end Go.Proofs.Ybulkdghg.Model
