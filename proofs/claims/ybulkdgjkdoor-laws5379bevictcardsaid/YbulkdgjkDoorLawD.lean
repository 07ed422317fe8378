import Derived.Test.YbulkdgjkDoorLawC
namespace Go.Proofs.YbulkdgjkDoor
open Go.RowKit

theorem slice_form {w : World} {base rb n : Nat} {s : Nat → Nat} {v : Value} (h : w.ownsRow base 133 2 v n (heldL rb s n)) :
    ∃ (fp : Option Addr) (fb cf : Nat), v = .slice fp n cf ∧ (fp = none ∧ n = 0 ∧ cf = 0 ∨ fp = some ⟨fb, 0, none⟩ ∧ n ≤ cf) ∧ base ≤ fb ∧ Held w fb n rb s := by
  have h' := h
  obtain ⟨_, ⟨h2, h3⟩ | ⟨g, cap, cur, h2, h3, h4, h5, _⟩⟩ := h
  · subst h3
    exact ⟨none, base, 0, h2, .inl ⟨rfl, rfl, rfl⟩, Nat.le_refl _, fun i hi => by omega⟩
  · subst h2
    exact ⟨_, g, cap, rfl, .inr ⟨rfl, h5⟩, h3, held_of_owns h'⟩

/-- What evict leaves behind. -/
structure Aft (D F : World) (nb yb cb gb ib cc ob tb bb mb rb hb ch b1 b2 b3 xb sb k nf np cf cp n pm pw pd wn ci bit : Nat) (hist ended evicted : Bool) (fp pp : Option Addr) (y : Int) (obj name : ByteArray) : Prop where
  m7 : F.cell? ⟨mb, 7, none⟩ = some (.int .u64 ((pm ||| bit : Nat) : Int))
  m10 : F.cell? ⟨mb, 10, none⟩ = some (.int .u64 (pw : Int))
  m11 : F.cell? ⟨mb, 11, none⟩ = some (.int .u64 (pd : Int))
  nm : F.cell? ⟨nb, ci, none⟩ = some (.string name)
  ev1 : evicted = true → F.cell? ⟨tb, 10, none⟩ = some (.pointer (some ⟨xb, 0, none⟩)) ∧ F.shape? xb = some (125, 5)
  ev2 : evicted = false → Evd F D.heap.size tb bb ob bit obj name
  en1 : ended = true → F.cell? ⟨mb, 5, none⟩ = some (.slice fp nf cf) ∧ F.cell? ⟨mb, 6, none⟩ = some (.slice pp np cp) ∧ F.rowIs rb 72 (5 * k) (RSF rb mb ob (fun _ => false)) ∧ F.cell? ⟨cb, 0, none⟩ = some (.int .i64 0) ∧ (hist = true → F.cell? ⟨hb, 5, none⟩ = some (.slice none 0 0) ∧ F.cell? ⟨hb, 6, none⟩ = some (.int .i64 0))
  en0 : ended = false → F.cell? ⟨mb, 2, none⟩ = some (.bool true) ∧ F.cell? ⟨mb, 5, none⟩ = some (.slice fp 0 cf) ∧ F.cell? ⟨mb, 6, none⟩ = some (.slice pp 0 cp) ∧ F.rowIs rb 72 (5 * k) (RSF rb mb ob (fun _ => true)) ∧ Got F cb gb ib cc 1 (.pointer (some ⟨tb, 0, none⟩)) (.iface 3 (.int .i64 y)) false ∧ (hist = true → HistOut F D.heap.size hb yb b1 b2 b3 n (pm ||| bit) wn pd)
  off : ∀ w : World, Off (fun _ => False) w D → w.heap.size ≤ nb → Off (fun _ => False) w F

theorem Off.fresh {P : Nat → Prop} {w D F : World} (h : Off (fun _ => False) w D) (o : Off P D F) (hp : ∀ b, P b → w.heap.size ≤ b) : Off (fun _ => False) w F :=
  ⟨o.os.trans h.os, o.tape.trans h.tape, o.output.trans h.output, Nat.le_trans h.size o.size, fun k hk _ => (o.block k (Nat.lt_of_lt_of_le hk h.size) (fun e => by have := hp k e; omega)).trans (h.block k hk id)⟩

theorem evict_at (D : World) (eb nb bb yb sb cb gb ib cc ob tb mb rb fb pb hb ch b1 b2 b3 xb k nf np cf cp n ncap pm pw pd wn ci bit : Nat) (hist ended evicted : Bool) (fp pp : Option Addr) (y : Int) (obj : ByteArray) (T : Nat → ByteArray)
    (hY : EnvY D nb eb yb sb n ncap T) (hH : EnvH D eb yb sb cb gb ib cc ob hb ch b1 b2 b3 n obj hist) (hT : EnvT D eb tb bb xb evicted)
    (hmem : D.rowIs mb 129 12 (MF tb ob ended (.slice fp nf cf) (.slice pp np cp) pm (.iface 3 (.int .i64 y)) pw pd)) (hrs : D.rowIs rb 72 (5 * k) (RSF rb mb ob (fun _ => false)))
    (hFL : Held D fb nf rb (fun i => 2 * i)) (hPL : Held D pb np rb (fun i => 2 * i + 1))
    (hfp : fp = none ∧ nf = 0 ∧ cf = 0 ∨ fp = some ⟨fb, 0, none⟩ ∧ nf ≤ cf) (hpp : pp = none ∧ np = 0 ∧ cp = 0 ∨ pp = some ⟨pb, 0, none⟩ ∧ np ≤ cp)
    (hK : nf = (k + 1) / 2 ∧ np = k / 2) (hk : k ≤ 7) (ord : ob < tb ∧ tb < mb ∧ bb < mb ∧ mb < rb ∧ rb < fb ∧ rb < pb) (hx : evicted = true → xb < mb) (hch : hist = true → ch < tb) (hTab : Tab D)
    (hn64 : n ≤ 64) (hpm : pm < 2 ^ n) (hpw : pw < 2 ^ n) (hpd : pd < 2 ^ n) (hcin : ci < n) (hbit : bit = 2 ^ ci) (hwn : wn = pw &&& (18446744073709551615 - pd)) :
    Calls Ybad.prog 8 #[.agg #[.pointer (some ⟨ob, 0, none⟩), .pointer (some ⟨mb, 0, none⟩), .int .i64 (ci : Int)], .pointer (some ⟨bb, 0, none⟩)] D fun e w' => e = .returned (.tuple #[]) ∧
      Aft D w' nb yb cb gb ib cc ob tb bb mb rb hb ch b1 b2 b3 xb sb k nf np cf cp n pm pw pd wn ci bit hist ended evicted fp pp y obj (T ci) := by
  have oy := hY.ord
  have oo := hH.o.ord
  have h64 : 2 ^ n ≤ 18446744073709551616 := by
    have : 2 ^ n ≤ 2 ^ 64 := Nat.pow_le_pow_right (by omega) hn64
    omega
  have hbl : bit < 2 ^ n := by rw [hbit]; exact Nat.pow_lt_pow_right (by omega) hcin
  have hOH : hist = true → OrdH ob tb hb ch b1 b2 b3 := fun e => ⟨by have := hH.ord e; have := hch e; omega⟩
  have bt := hT.ord
  refine (evict_any eb nb bb yb sb cb gb ib cc ob tb mb rb fb pb hb ch b1 b2 b3 xb k nf np cf cp n ncap pm pw pd wn ci bit hist ended evicted fp pp y obj (T ci) D hk ⟨by omega⟩ hOH
    ⟨by omega, by omega, by omega, by omega⟩ hK hcin hn64 (by omega) hbit hfp hpp hmem hrs hFL hPL hH.o.got hH.o.o2 hH.o.o3 hH.o.o4 hH.o.o11 hY.y0 (hY.nm ci hcin) hT.t0 hT.t10 hT.ft hT.t26 hT.t27 hT.t28 hY.e2 hY.fe
    (fun e => ⟨hTab, hH.h e⟩) ⟨Nat.or_lt_two_pow hpm hbl, by rw [hwn]; exact Nat.lt_of_le_of_lt Nat.and_le_left hpw, hpd⟩ (by show bits _ _ _ _ = _; rw [hwn]; exact u64_andNot_nat _ _ (by omega) (by omega))).mono ?_
  rintro e F ⟨rfl, v1, v2, v3, v4⟩
  refine ⟨rfl, ?_⟩
  cases ended with
  | true =>
    obtain ⟨o, hm⟩ := v3 rfl
    refine ⟨hm.cell (i := 7) (by omega), hm.cell (i := 10) (by omega), hm.cell (i := 11) (by omega), o.cell (by omega) (hY.nm ci hcin), fun e => ⟨v1 e, o.shape (by have := hx e; have := (hT.xs e).2.2; omega) (hT.xs e).2.1 (hT.xs e).1⟩, v2, fun _ => ⟨hm.cell (i := 5) (by omega), hm.cell (i := 6) (by omega), o.row (by omega) hrs, o.cell (by omega) (hH.o.got.r1.cell (i := 0) (by omega)), fun e => ?_⟩, by simp, fun w hw hl => hw.fresh o (fun b hb => by omega)⟩
    have q := (hH.h e).row
    have := hOH e
    have := this.a
    exact ⟨o.cell (by omega) (q.cell (i := 5) (by omega)), o.cell (by omega) (q.cell (i := 6) (by omega))⟩
  | false =>
    obtain ⟨o, r, hm, g, hh⟩ := v4 rfl
    have nfin : ∀ b, b < cb → ¬ Fin rb mb cb gb ib cc hb b1 b2 b3 hist b := by
      rintro b hb (h | h | h | h | h | h | ⟨hh, h⟩)
      · omega
      · omega
      · omega
      · omega
      · omega
      · omega
      · have hq := (hOH hh).a
        omega
    refine ⟨hm.cell (i := 7) (by omega), hm.cell (i := 10) (by omega), hm.cell (i := 11) (by omega), o.cell (fun h => ?_) (hY.nm ci hcin), fun e => ⟨v1 e, o.shape (fun h => ?_) (hT.xs e).2.1 (hT.xs e).1⟩, v2, by simp, fun _ => ⟨hm.cell (i := 2) (by omega), hm.cell (i := 5) (by omega), hm.cell (i := 6) (by omega), r, g, hh⟩, fun w hw hl => hw.fresh o (fun b hb => ?_)⟩
    · rcases h with h | h
      · omega
      · exact nfin nb (by omega) h
    · have e1 := hx e
      have e2 := (hT.xs e).2.2
      rcases h with h | h | h | h | h | h | h | ⟨h1, h⟩
      · omega
      · omega
      · omega
      · omega
      · omega
      · omega
      · omega
      · have hq := (hOH h1).a
        omega
    · rcases hb with h | h
      · omega
      · by_cases hc : b < cb
        · exact absurd h (nfin b hc)
        · omega
end Go.Proofs.YbulkdgjkDoor
