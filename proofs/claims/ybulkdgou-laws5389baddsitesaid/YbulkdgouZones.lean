import Derived.Test.YbulkdgouSortJ
import Derived.Deep.AppendLies
import Derived.Laws.BitsAllLaws
import Derived.RowKit
namespace Go.Proofs.Ybulkdgou
open Go.RowKit
attribute [local go_sem ↓] Go.wp_at_zero Go.wp_at_succ
namespace SortA

theorem info3 : (Yba.prog.info? 3).map (fun i => (i.zero, i.size, i.bytes)) = some (some (.int .i64 0), 1, 8) := by kernel_rfl
/-- The bits of a mask below i. -/
def zlist (mask i : Nat) : List Nat := (List.range i).filter fun b => mask.testBit b
theorem zlist_succ (mask i : Nat) : zlist mask (i + 1) = if mask.testBit i then zlist mask i ++ [i] else zlist mask i := by
  unfold zlist
  rw [List.range_succ, List.filter_append]
  by_cases h : mask.testBit i <;> simp [h]
theorem zlist_len (mask i : Nat) : (zlist mask i).length ≤ i := by
  unfold zlist
  have := List.length_filter_le (fun b => mask.testBit b) (List.range i)
  simpa using this
theorem bit_u8 (mask i : Nat) (h : mask ≤ 255) : bits .and .u8 ((mask : Int) / 2 ^ i) 1 = ((mask / 2 ^ i % 2 : Nat) : Int) := by
  have e1 : ((mask : Int) / 2 ^ i) = ((mask / 2 ^ i : Nat) : Int) := by simp
  have hl : mask / 2 ^ i < 256 := Nat.lt_of_le_of_lt (Nat.div_le_self _ _) (by omega)
  rw [e1, show (1 : Int) = ((1 : Nat) : Int) from rfl, u8_and_nat (mask / 2 ^ i) 1 hl (by omega), Nat.and_one_is_mod]

/-- The zones as they grow. -/
structure Zg (w wr : World) (v : Value) (l : List Nat) : Prop where
  below : Below w.heap.size w wr
  own : wr.ownsRow w.heap.size 3 1 v l.length (l.map fun (z : Nat) => Value.int .i64 (z : Int))
  nil : l = [] → v = .slice none 0 0

set_option maxHeartbeats 1000000 in
set_option maxRecDepth 100000 in
theorem zones_any (mask : Nat) (w : World) (hm : mask ≤ 255) :
    Calls Yba.prog 9 #[.int .u8 (mask : Int)] w fun e w' => ∃ v, e = .returned v ∧ Zg w w' v (zlist mask 8) := by
  go_enter Yba.func9, Yba.ntmps9
  go_wp2_with fail
  go_loopg [3, 4] 8 (fun gk s3 s4 wr => ∃ i : Nat, i ≤ 8 ∧ gk = 8 - i ∧ s4 = .int .i64 (i : Int) ∧ Zg w wr s3 (zlist mask i))
  case atStart => exact ⟨0, by omega, rfl, rfl, Below.refl _ _, World.ownsRow_nil _ _ _ _, fun _ => rfl⟩
  case round =>
    obtain ⟨i, hi, rfl, rfl, hz⟩ := hrel
    have HZ : Hid (Zg w wr u3 (zlist mask i)) := hz
    clear hz
    by_cases hlt : i < 8
    · have hlti : (i : Int) < 8 := by omega
      have hb := bit_u8 mask i hm
      by_cases ht : mask.testBit i
      · have hb1 : bits .and .u8 ((mask : Int) / 2 ^ i) 1 = 1 := by
          rw [hb]; rw [Nat.testBit_eq_decide_div_mod_eq] at ht; simp at ht; rw [ht]; rfl
        clear hb
        obtain ⟨ln, hln⟩ : ∃ ln, ln = (zlist mask i).length := ⟨_, rfl⟩
        have hl8 : ln ≤ 8 := by have := zlist_len mask i; omega
        obtain ⟨ii, hi0, hz0, hz1, hz2⟩ := info_parts info3
        have hown2 : Hid ((wr.alloc (.cells #[.int .i64 (i : Int)] 3)).ownsRow w.heap.size 3 1 u3 ln ((zlist mask i).map fun (z : Nat) => Value.int .i64 (z : Int))) := by rw [hln]; exact HZ.out.own.alloc _
        have HNW : Hid (∀ j u, [Value.int .i64 (i : Int)][j]? = some u → (wr.alloc (.cells #[.int .i64 (i : Int)] 3)).cell? ((⟨wr.heap.size, 0, none⟩ : Addr).add j) = some u) := World.news_of_block (cs := #[.int .i64 (i : Int)]) (Go.Deep.blk_alloc_new _ _)
        have hsz := HZ.out.below.size
        have HLN : Hid (ln = (zlist mask i).length) := hln
        have HT : Hid (mask.testBit i = true) := ht
        clear hln ht
        go_wp2_with (at_builtin; refine wpList_append_lies _ rfl _ _ _ rfl w.heap.size 3 ii (.int .i64 0) 1 8 Yba.underlying22 hi0 hz0 hz1 hz2 rfl (by omega) u3 ln _ rfl hown2.out ⟨wr.heap.size, 0, none⟩ 1 1 [.int .i64 (i : Int)] rfl rfl HNW.out (by simp [Value.oneCell']) (by omega) (by unfold maxLen; omega) (by omega) (by simp; omega) (wr.heap.size + 1) (by simp) ?_; intro g' cap' w3 hown3 hgrow hat hlt3)
        go_roundg (8 - (i + 1))
        case measure => omega
        case rel =>
          refine ⟨i + 1, by omega, rfl, by go_num, ?_⟩
          rw [zlist_succ, if_pos HT.out]
          refine ⟨(HZ.out.below.alloc hsz _).grown hgrow (by simp; omega) (fun k hk => (HZ.out.own.lt k hk).1), ?_, fun h => by simp at h⟩
          rw [List.length_append, List.map_append, ← HLN.out]
          exact hown3
      · have hb1 : bits .and .u8 ((mask : Int) / 2 ^ i) 1 = 0 := by
          rw [hb]; rw [Nat.testBit_eq_decide_div_mod_eq] at ht; simp at ht; rw [ht]; rfl
        clear hb
        go_wp2_with fail
        go_roundg (8 - (i + 1))
        case measure => omega
        case rel => exact ⟨i + 1, by omega, rfl, by go_num, by rw [zlist_succ, if_neg ht]; exact HZ.out⟩
    · obtain rfl : i = 8 := by omega
      go_wp2
      go_ret
      exact ⟨_, rfl, HZ.out⟩
end SortA
end Go.Proofs.Ybulkdgou
