import Derived.Test.YbulkdgouPlain
import Derived.Deep.RegionHeld3
import Derived.Deep.RegionLaw
import Derived.Laws.EntriesVeiled
namespace Go.Proofs.Ybulkdgou
open Go.RowKit
attribute [local go_sem ↓] Go.wp_at_zero Go.wp_at_succ
namespace SortA

/-- All blocks that were there are as before, but those of S. -/
structure Fr (S : Nat → Prop) (w w' : World) : Prop where
  os : w'.os = w.os
  tape : w'.tape = w.tape
  output : w'.output = w.output
  size : w.heap.size ≤ w'.heap.size
  block : ∀ k, k < w.heap.size → ¬ S k → w'.heap[k]? = w.heap[k]?
theorem Fr.refl (S : Nat → Prop) (w : World) : Fr S w w := ⟨rfl, rfl, rfl, Nat.le_refl _, fun _ _ _ => rfl⟩
theorem Fr.mono {S T : Nat → Prop} {w w' : World} (h : Fr S w w') (hs : ∀ k, k < w.heap.size → S k → T k) : Fr T w w' := ⟨h.os, h.tape, h.output, h.size, fun k hk hn => h.block k hk (fun hS => hn (hs k hk hS))⟩
theorem Fr.trans {S : Nat → Prop} {u v w : World} (h : Fr S u v) (k : Fr (fun b => S b ∨ u.heap.size ≤ b) v w) : Fr S u w :=
  ⟨k.os.trans h.os, k.tape.trans h.tape, k.output.trans h.output, Nat.le_trans h.size k.size, fun b hb hn => (k.block b (Nat.lt_of_lt_of_le hb h.size) (fun e => by rcases e with e | e; exact hn e; omega)).trans (h.block b hb hn)⟩
theorem Fr.drewN {S : Nat → Prop} {w w' : World} (h : Fr S w w') (n : Nat) : Fr S w (w'.drewN n) := ⟨h.os, h.tape, h.output, h.size, h.block⟩
theorem Fr.drew {S : Nat → Prop} {w w' : World} (h : Fr S w w') : Fr S w w'.drew := ⟨h.os, h.tape, h.output, h.size, h.block⟩
theorem Fr.alloc {S : Nat → Prop} {w w' : World} (h : Fr S w w') (o : Obj) : Fr S w (w'.alloc o) :=
  ⟨h.os, h.tape, h.output, by have := h.size; simp; omega, fun k hk hn => (Below.heap_alloc w' o k (Nat.lt_of_lt_of_le hk h.size)).trans (h.block k hk hn)⟩
theorem Fr.setCell {S : Nat → Prop} {w w' : World} (h : Fr S w w') {p : Addr} (hp : S p.block ∨ w.heap.size ≤ p.block) (v : Value) : Fr S w (w'.setCell p v) :=
  ⟨h.os, h.tape, h.output, by simpa using h.size, fun k hk hn => (Below.heap_setCell w' p v k (fun e => by subst e; rcases hp with hp | hp; exact hn hp; omega)).trans (h.block k hk hn)⟩
theorem Fr.grown {S : Nat → Prop} {w w' w'' : World} {row : Option Nat} (h : Fr S w w') (hg : w'.grownBy w'' row) (hr : ∀ j, row = some j → S j ∨ w.heap.size ≤ j) : Fr S w w'' :=
  ⟨hg.os.trans h.os, hg.tape.trans h.tape, hg.output.trans h.output, Nat.le_trans h.size hg.size, fun k hk hn => (hg.block k (Nat.lt_of_lt_of_le hk h.size) (fun e => by rcases hr k e.symm with hp | hp; exact hn hp; omega)).trans (h.block k hk hn)⟩
theorem Fr.below {S : Nat → Prop} {w w' w'' : World} {lo : Nat} (h : Fr S w w') (hb : Below lo w' w'') (hl : w.heap.size ≤ lo) : Fr S w w'' :=
  ⟨hb.os.trans h.os, hb.tape.trans h.tape, hb.output.trans h.output, Nat.le_trans h.size hb.size, fun k hk hn => (hb.block k (by omega)).trans (h.block k hk hn)⟩
theorem Fr.but {S : Nat → Prop} {w w' w'' : World} {B : Nat} (h : Fr S w w') (hb : But B w' w'') (hl : S B ∨ w.heap.size ≤ B) : Fr S w w'' :=
  ⟨hb.os.trans h.os, hb.tape.trans h.tape, hb.output.trans h.output, by rw [hb.size]; exact h.size, fun k hk hn => (hb.block k (fun e => by subst e; rcases hl with hp | hp; exact hn hp; omega)).trans (h.block k hk hn)⟩
theorem Fr.cell {S : Nat → Prop} {w w' : World} (h : Fr S w w') {p : Addr} (hp : p.block < w.heap.size) (hn : ¬ S p.block) : w'.cell? p = w.cell? p := World.cell?_of_block (w := w) (h.block p.block hp hn)
theorem Fr.frozen {S : Nat → Prop} {w w' : World} (h : Fr S w w') {p : Addr} (hp : p.block < w.heap.size) (hn : ¬ S p.block) : w'.frozen? p = w.frozen? p := World.frozen?_of_block (w := w) (h.block p.block hp hn)
theorem owns_of_block {w w' : World} {base n size : Nat} {e : TypeId} {v : Value} {xs : List Value} (h : w.ownsRow base e size v n xs) (hb : ∀ g, v.ownBlock = some g → w'.heap[g]? = w.heap[g]?) : w'.ownsRow base e size v n xs := by
  refine ⟨h.1, ?_⟩
  rcases h.2 with hn | ⟨g, cap, cur, rfl, h1, h2, h3⟩
  · exact .inl hn
  · exact .inr ⟨g, cap, cur, rfl, h1, (hb g rfl).trans h2, h3⟩

/-- What the law lays for addSite. -/
structure Cf where
  rp : Nat
  mb : Nat
  sb : Nat
  tb : Nat
  ab : Nat
  n : Nat
  L : Nat
  id : Nat
  g0 : Nat
  mask : Nat → Nat
  o : Nat → Nat
  q : Nat → Nat
  zp : Nat → Option Addr
  zl : Nat → Nat
  zc : Nat → Nat
/-- Its numbers. -/
structure Ok (c : Cf) (lo : Nat) : Prop where
  n1 : 1 ≤ c.n
  n2 : c.n ≤ 256
  L1 : 1 ≤ c.L
  L2 : c.L ≤ 256
  id3 : c.id < 3
  g3 : c.g0 ≤ 3
  mask : ∀ x, x < c.n → c.mask x ≤ 255
  o : ∀ i, i < c.L → c.o i < c.n
  inj : ∀ i j, i < c.L → j < c.L → c.o i = c.o j → i = j
  qinj : ∀ x y, x < c.n → y < c.n → c.q x = c.q y → x = y
  q : ∀ x, x < c.n → c.q x ≠ c.rp ∧ c.q x ≠ c.mb ∧ c.q x ≠ c.sb ∧ c.q x ≠ c.tb ∧ c.q x ≠ c.ab ∧ c.q x < lo
  lt : c.rp < lo ∧ c.mb < lo ∧ c.sb < lo ∧ c.tb < lo ∧ c.ab < lo
  ne : c.mb ≠ c.rp ∧ c.mb ≠ c.sb ∧ c.mb ≠ c.tb ∧ c.ab ≠ c.rp ∧ c.ab ≠ c.sb ∧ c.ab ≠ c.tb ∧ c.rp ≠ c.sb ∧ c.rp ≠ c.tb ∧ c.sb ≠ c.tb
  zone : ∀ x zb, x < c.n → c.zp x = some ⟨zb, 0, none⟩ → zb ≠ c.rp ∧ zb ≠ c.sb ∧ zb ≠ c.tb ∧ ∀ y, y < c.n → zb ≠ c.q y
/-- What stays as it is. -/
structure Fix (c : Cf) (lo : Nat) (w : World) : Prop where
  r0 : w.cell? ⟨c.rp, 0, none⟩ = some (.slice (some ⟨c.mb, 0, none⟩) c.n c.n)
  r1 : w.cell? ⟨c.rp, 1, none⟩ = some (.slice (some ⟨c.sb, 0, none⟩) c.n c.n)
  r2 : w.cell? ⟨c.rp, 2, none⟩ = some (.slice (some ⟨c.tb, 0, none⟩) 3 3)
  set : ∀ x, x < c.n → w.cell? ⟨c.mb, x * 6 + 4, none⟩ = some (.int .i64 (c.mask x : Int))
  zone : ∀ x, x < c.n → w.cell? ⟨c.mb, x * 6 + 3, none⟩ = some (.slice (c.zp x) (c.zl x) (c.zc x))
  zn : ∀ x, x < c.n → Zn lo w (c.zp x) (c.zl x) (c.zc x) (c.mask x)
  at0 : ∀ i, i < c.L → w.cell? ⟨c.ab, i * 2, none⟩ = some (.int .i64 (c.id : Int))
  at1 : ∀ i, i < c.L → w.cell? ⟨c.ab, i * 2 + 1, none⟩ = some (.int .i64 (c.o i : Int))
/-- The blocks that addSite may turn. -/
def Wb (c : Cf) (gb : Nat) (b : Nat) : Prop := b = c.rp ∨ b = c.sb ∨ b = c.tb ∨ (b = gb ∧ 0 < c.g0) ∨ ∃ x, x < c.n ∧ b = c.q x
theorem Fix.keep {c : Cf} {lo gb : Nat} {w w' : World} (h : Fix c lo w) (ok : Ok c lo) (hf : ∀ b, b < lo → ¬ Wb c gb b → w'.heap[b]? = w.heap[b]?) (hgb : gb ≠ c.mb ∧ gb ≠ c.ab) (hz : ∀ x zb, x < c.n → c.zp x = some ⟨zb, 0, none⟩ → zb ≠ gb)
    (h0 : w'.cell? ⟨c.rp, 0, none⟩ = w.cell? ⟨c.rp, 0, none⟩) (h1 : w'.cell? ⟨c.rp, 1, none⟩ = w.cell? ⟨c.rp, 1, none⟩) (h2 : w'.cell? ⟨c.rp, 2, none⟩ = w.cell? ⟨c.rp, 2, none⟩) : Fix c lo w' := by
  have ne := ok.ne
  have lt := ok.lt
  have em : ∀ i, w'.cell? ⟨c.mb, i, none⟩ = w.cell? ⟨c.mb, i, none⟩ := fun i => World.cell?_of_block (a := ⟨c.mb, i, none⟩) (hf c.mb lt.2.1 (by
    rintro (e | e | e | e | ⟨x, hx, e⟩)
    · exact ne.1 e
    · exact ne.2.1 e
    · exact ne.2.2.1 e
    · exact hgb.1 e.1.symm
    · exact (ok.q x hx).2.1 e.symm))
  have ea : ∀ i, w'.cell? ⟨c.ab, i, none⟩ = w.cell? ⟨c.ab, i, none⟩ := fun i => World.cell?_of_block (a := ⟨c.ab, i, none⟩) (hf c.ab lt.2.2.2.2 (by
    rintro (e | e | e | e | ⟨x, hx, e⟩)
    · exact ne.2.2.2.1 e
    · exact ne.2.2.2.2.1 e
    · exact ne.2.2.2.2.2.1 e
    · exact hgb.2 e.1.symm
    · exact (ok.q x hx).2.2.2.2.1 e.symm))
  refine ⟨h0.trans h.r0, h1.trans h.r1, h2.trans h.r2, fun x hx => (em _).trans (h.set x hx), fun x hx => (em _).trans (h.zone x hx), fun x hx => ?_, fun i hi => (ea _).trans (h.at0 i hi), fun i hi => (ea _).trans (h.at1 i hi)⟩
  have hzn := h.zn x hx
  refine ⟨hzn.len, hzn.nil, ⟨fun h0 => ?_, hzn.zs.asc, hzn.zs.len⟩, hzn.lt⟩
  obtain ⟨zb, e, hc⟩ := hzn.zs.cells h0
  have hzo := ok.zone x zb hx e
  refine ⟨zb, e, fun i hi => (World.cell?_of_block (a := ⟨zb, i, none⟩) (hf zb (hzn.lt zb e) ?_)).trans (hc i hi)⟩
  rintro (e' | e' | e' | e' | ⟨y, hy, e'⟩)
  · exact hzo.1 e'
  · exact hzo.2.1 e'
  · exact hzo.2.2.1 e'
  · exact hz x zb hx e e'.1
  · exact hzo.2.2.2 y hy e'
/-- The old row of groups lies apart. -/
structure Gb (c : Cf) (gb : Nat) : Prop where
  mb : gb ≠ c.mb
  ab : gb ≠ c.ab
  rp : gb ≠ c.rp
  sb : gb ≠ c.sb
  tb : gb ≠ c.tb
  q : ∀ x, x < c.n → gb ≠ c.q x
  z : ∀ x zb, x < c.n → c.zp x = some ⟨zb, 0, none⟩ → zb ≠ gb
end SortA
end Go.Proofs.Ybulkdgou
