import Derived.Test.Qxb6616563aScan
namespace Go.Proofs.Qxb6616563a
open Go.RowKit

/-- w' is w but for block q -/
structure Only (q : Nat) (w w' : World) : Prop where
  os : w'.os = w.os
  tape : w'.tape = w.tape
  output : w'.output = w.output
  size : w'.heap.size = w.heap.size
  block : ∀ k, k ≠ q → w'.heap[k]? = w.heap[k]?

theorem Only.refl (q : Nat) (w : World) : Only q w w := ⟨rfl, rfl, rfl, rfl, fun _ _ => rfl⟩
theorem Only.setCell {q : Nat} {w w' : World} (h : Only q w w') (o : Nat) (u : Value) : Only q w (w'.setCell ⟨q, o, none⟩ u) :=
  ⟨h.os, h.tape, h.output, by rw [← h.size]; simp [World.setCell], fun k hk => (Below.heap_setCell w' ⟨q, o, none⟩ u k hk).trans (h.block k hk)⟩
theorem Only.below {q B : Nat} {w w' : World} (h : Only q w w') (hB : B ≤ q) : Below B w w' :=
  ⟨h.os, h.tape, h.output, by rw [h.size]; exact Nat.le_refl _, fun k hk => h.block k (by omega)⟩
theorem Only.cell {q : Nat} {w w' : World} (h : Only q w w') {b o : Nat} (hb : b ≠ q) : w'.cell? ⟨b, o, none⟩ = w.cell? ⟨b, o, none⟩ := World.cell?_of_block (w := w) (h.block b hb)
theorem Only.frozen {q : Nat} {w w' : World} (h : Only q w w') {b o : Nat} (hb : b ≠ q) : w'.frozen? ⟨b, o, none⟩ = w.frozen? ⟨b, o, none⟩ := World.frozen?_of_block (w := w) (h.block b hb)

theorem Sl.only {w w' : World} {a : Option Addr} {n q : Nat} {f : Nat → Value} (h : Sl w a n f) (ho : Only q w w') (hq : ∀ ad, a = some ad → 0 < n → ad.block ≠ q) : Sl w' a n f := by
  intro hn
  obtain ⟨b, off, rfl, hc⟩ := h hn
  exact ⟨b, off, rfl, fun i hi => (ho.cell (hq _ rfl hn)).trans (hc i hi)⟩

/-- block q holds the number n; its digits lie elsewhere -/
structure NumIs (w : World) (q : Nat) (n : NumT) : Prop where
  c0 : w.cell? ⟨q, 0, none⟩ = some (.bool n.1)
  ex : ∃ (wa fa : Option Addr) (wn wc fn fc : Nat), w.cell? ⟨q, 1, none⟩ = some (.slice wa wn wc) ∧ Bytes w wa wn n.2.1 ∧ wn ≤ 1099511627776 ∧
    w.cell? ⟨q, 2, none⟩ = some (.slice fa fn fc) ∧ Bytes w fa fn n.2.2 ∧ fn ≤ 1099511627776

theorem NumIs.below {w w' : World} {q : Nat} {n : NumT} (h : NumIs w q n) (hb : Below w.heap.size w w') : NumIs w' q n := by
  obtain ⟨h0, wa, fa, wn, wc, fn, fc, h1, h2, h3, h4, h5, h6⟩ := h
  refine ⟨(hb.cell (p := ⟨q, 0, none⟩) (cell_lt h0)).trans h0, wa, fa, wn, wc, fn, fc, (hb.cell (p := ⟨q, 1, none⟩) (cell_lt h0)).trans h1, h2.below hb, h3, (hb.cell (p := ⟨q, 2, none⟩) (cell_lt h0)).trans h4, h5.below hb, h6⟩

/-- block q is a number of the call's own: three cells that may be written, and no more -/
structure NumSpot (w : World) (q : Nat) : Prop where
  c0 : ∃ v : Value, w.cell? ⟨q, 0, none⟩ = some v ∧ ∀ z : Int, v ≠ .int .u8 z
  c1 : ∃ v : Value, w.cell? ⟨q, 1, none⟩ = some v ∧ ∀ z : Int, v ≠ .int .u8 z
  c2 : ∃ v : Value, w.cell? ⟨q, 2, none⟩ = some v ∧ ∀ z : Int, v ≠ .int .u8 z
  c3 : ∀ o, 3 ≤ o → w.cell? ⟨q, o, none⟩ = none
  f : ∀ o, w.frozen? ⟨q, o, none⟩ = false

theorem Bytes.off_spot {w : World} {a : Option Addr} {n q : Nat} {l : List UInt8} (h : Bytes w a n l) (hq : NumSpot w q) : Off a n q := by
  intro ad ha hn hb
  obtain ⟨b, o, he, hc⟩ := h.2 hn
  rw [ha] at he
  cases he
  have h0 : w.cell? ⟨q, o, none⟩ = some (.int .u8 (byteAt l 0)) := by have := hc 0 hn; rw [Nat.add_zero] at this; rw [← hb]; exact this
  match o, h0 with
  | 0, h0 => obtain ⟨v, h1, h2⟩ := hq.c0; rw [h1] at h0; exact h2 _ (Option.some.inj h0)
  | 1, h0 => obtain ⟨v, h1, h2⟩ := hq.c1; rw [h1] at h0; exact h2 _ (Option.some.inj h0)
  | 2, h0 => obtain ⟨v, h1, h2⟩ := hq.c2; rw [h1] at h0; exact h2 _ (Option.some.inj h0)
  | o + 3, h0 => rw [hq.c3 (o + 3) (by omega)] at h0; cases h0

theorem NumSpot.only {w w' : World} {q q' : Nat} (h : NumSpot w q) (ho : Only q' w w') (hne : q ≠ q') : NumSpot w' q := by
  refine ⟨?_, ?_, ?_, fun o hl => (ho.cell hne).trans (h.c3 o hl), fun o => (ho.frozen hne).trans (h.f o)⟩
  · obtain ⟨v, h1, h2⟩ := h.c0; exact ⟨v, (ho.cell hne).trans h1, h2⟩
  · obtain ⟨v, h1, h2⟩ := h.c1; exact ⟨v, (ho.cell hne).trans h1, h2⟩
  · obtain ⟨v, h1, h2⟩ := h.c2; exact ⟨v, (ho.cell hne).trans h1, h2⟩

theorem NumIs.only {w w' : World} {q q' : Nat} {x : NumT} (h : NumIs w q x) (ho : Only q' w w') (hs : NumSpot w q') (hne : q ≠ q') : NumIs w' q x := by
  obtain ⟨h0, wa, fa, wn, wc, fn, fc, h1, h2, h3, h4, h5, h6⟩ := h
  exact ⟨(ho.cell hne).trans h0, wa, fa, wn, wc, fn, fc, (ho.cell hne).trans h1, ⟨h2.1, h2.2.only ho (h2.off_spot hs)⟩, h3, (ho.cell hne).trans h4, ⟨h5.1, h5.2.only ho (h5.off_spot hs)⟩, h6⟩

theorem cut_off {w : World} {a : Option Addr} {n q : Nat} {l : List UInt8} (h : Bytes w a n l) (ho : Off a n q) {w' : World} (hw : Only q w w') : Bytes w' a n l := ⟨h.1, h.2.only hw ho⟩

set_option maxHeartbeats 1000000 in
theorem read38 (q : Nat) (a : Option Addr) (n c : Nat) (l : List UInt8) (w : World) (ha : Bytes w a n l) (hnc : n ≤ c) (hn : n ≤ 1099511627776) (hc : c ≤ 9223372036854775807) (hq : NumSpot w q) :
    Calls Try.prog 38 #[.pointer (some ⟨q, 0, none⟩), .slice a n c] w fun e w' =>
      (numOf l = none ∧ e = .returned (.bool false) ∧ w' = w) ∨ ∃ x, numOf l = some x ∧ e = .returned (.bool true) ∧ Only q w w' ∧ NumIs w' q x := by
  have HL : Hid (l.length = n) := ha.1
  go_enter Try.func38, Try.ntmps38
  go_wp2_with fail
  refine (scan45 a n c l w ha hnc hn hc).mono ?_
  rintro e w' ⟨⟨wa, fa, wn, wc, fn, fc, rfl, hb, hwn, hfn, hof⟩, hw⟩
  have HOF := hof q (by rw [HL.out]; exact ha.off_spot hq)
  have HOFH : Hid (Off wa wn q ∧ Off fa fn q) := HOF
  clear hof HOF
  replace hw := hw.symm
  subst hw
  obtain ⟨sn, hsn⟩ : ∃ sn, sn = scanN l := ⟨_, rfl⟩
  rw [← hsn]
  have HS : Hid (sn = scanN l) := hsn
  have HB : Hid (¬ scanN l = 0 → Bytes w wa wn (wholeL l) ∧ Bytes w fa fn (fracL l)) := hb
  clear hsn hb
  by_cases h0 : sn = 0
  · have HN : Hid (numOf l = none) := by show _ = _; unfold numOf; rw [if_pos (.inl (by rw [← HS.out]; exact h0))]
    subst h0
    go_wp2
    go_ret
    exact .inl ⟨HN.out, rfl, rfl⟩
  · rw [if_neg h0]
    have h0' : ((sn : Int) == 0) = false := by simp; omega
    by_cases h1 : sn = n
    · have h1' : ((sn : Int) != (n : Int)) = false := by simp [h1]
      have HN : Hid (numOf l = some (negF l, wholeL l, fracL l)) := by show _ = _; unfold numOf; rw [if_neg (by rw [← HS.out, HL.out]; omega)]
      obtain ⟨hB1, hB2⟩ := HB.out (by rw [← HS.out]; exact h0)
      have HB1 : Hid (Bytes w wa wn (wholeL l)) := hB1
      have HB2 : Hid (Bytes w fa fn (fracL l)) := hB2
      obtain ⟨ng, hng⟩ : ∃ ng, ng = negF l := ⟨_, rfl⟩
      rw [← hng] at HN ⊢
      obtain ⟨v0, q0, _⟩ := hq.c0
      obtain ⟨v1, q1, _⟩ := hq.c1
      obtain ⟨v2, q2, _⟩ := hq.c2
      have f0 := hq.f 0
      have f1 := hq.f 1
      have f2 := hq.f 2
      have HLw : Hid (wn ≤ n ∧ fn ≤ n) := by show _ ∧ _; rw [← HL.out]; exact ⟨hwn, hfn⟩
      have HQ : Hid (q < w.heap.size) := cell_lt q0
      clear hB1 hB2 hng h1 hwn hfn
      go_wp2
      go_ret
      refine .inr ⟨_, HN.out, rfl, (((Only.refl q w).setCell 0 _).setCell 1 _).setCell 2 _, ?_, wa, fa, wn, wc, fn, fc, ?_, cut_off HB1.out HOFH.out.1 ((((Only.refl q w).setCell 0 _).setCell 1 _).setCell 2 _), by have := HLw.out; omega, ?_, cut_off HB2.out HOFH.out.2 ((((Only.refl q w).setCell 0 _).setCell 1 _).setCell 2 _), by have := HLw.out; omega⟩
      all_goals go_simp
    · have h1' : ((sn : Int) != (n : Int)) = true := by simp; omega
      have HN : Hid (numOf l = none) := by show _ = _; unfold numOf; rw [if_pos (.inr (by rw [← HS.out, HL.out]; exact h1))]
      go_wp2
      go_ret
      exact .inl ⟨HN.out, rfl, rfl⟩

/-- what ZZread and read answer -/
theorem read24 (q : Nat) (a : Option Addr) (n c : Nat) (l : List UInt8) (w : World) (ha : Bytes w a n l) (hnc : n ≤ c) (hn : n ≤ 1099511627776) (hc : c ≤ 9223372036854775807) (hq : NumSpot w q) :
    Calls Try.prog 24 #[.pointer (some ⟨q, 0, none⟩), .slice a n c] w fun e w' =>
      (numOf l = none ∧ e = .returned (.bool false) ∧ w' = w) ∨ ∃ x, numOf l = some x ∧ e = .returned (.bool true) ∧ Only q w w' ∧ NumIs w' q x := by
  go_enter Try.func24, Try.ntmps24
  go_wp2_with fail
  refine (read38 q a n c l w ha hnc hn hc hq).mono ?_
  rintro e w' (⟨h1, rfl, rfl⟩ | ⟨x, h1, rfl, h2, h3⟩)
  · have HN : Hid (numOf l = none) := h1
    clear h1
    go_wp2
    go_ret
    exact .inl ⟨HN.out, rfl, rfl⟩
  · have HN : Hid (numOf l = some x) := h1
    have HR : Hid (Only q w w' ∧ NumIs w' q x) := ⟨h2, h3⟩
    clear h1 h2 h3
    go_wp2
    go_ret
    exact .inr ⟨x, HN.out, rfl, HR.out.1, HR.out.2⟩

theorem new23 (w : World) : Calls Try.prog 23 #[] w fun e w' => e = .returned (.pointer (some ⟨w.heap.size, 0, none⟩)) ∧ w' = w.alloc (.cells #[.bool false, .slice none 0 0, .slice none 0 0] 72) := by
  go_enter Try.func23, Try.ntmps23
  go_wp2
  go_ret
  exact ⟨rfl, rfl⟩

theorem spot_new (w : World) : NumSpot (w.alloc (.cells #[.bool false, .slice none 0 0, .slice none 0 0] 72)) w.heap.size := by
  refine ⟨⟨.bool false, ?_, fun _ h => by cases h⟩, ⟨.slice none 0 0, ?_, fun _ h => by cases h⟩, ⟨.slice none 0 0, ?_, fun _ h => by cases h⟩, fun o hl => ?_, fun o => ?_⟩
  · go_simp
  · go_simp
  · go_simp
  · match o, hl with
    | o + 3, _ => rw [World.cell?_alloc_new]; rfl
  · go_simp

theorem NumSpot.alloc {w : World} {q : Nat} (h : NumSpot w q) (o : Obj) (hq : q < w.heap.size) : NumSpot (w.alloc o) q := by
  have hb : Below w.heap.size w (w.alloc o) := (Below.refl _ _).alloc (Nat.le_refl _) o
  have hc : ∀ i, (w.alloc o).cell? ⟨q, i, none⟩ = w.cell? ⟨q, i, none⟩ := fun i => hb.cell (p := ⟨q, i, none⟩) hq
  refine ⟨?_, ?_, ?_, fun i hl => (hc i).trans (h.c3 i hl), fun i => (hb.frozen (p := ⟨q, i, none⟩) hq).trans (h.f i)⟩
  · obtain ⟨v, h1, h2⟩ := h.c0; exact ⟨v, (hc 0).trans h1, h2⟩
  · obtain ⟨v, h1, h2⟩ := h.c1; exact ⟨v, (hc 1).trans h1, h2⟩
  · obtain ⟨v, h1, h2⟩ := h.c2; exact ⟨v, (hc 2).trans h1, h2⟩
end Go.Proofs.Qxb6616563a
