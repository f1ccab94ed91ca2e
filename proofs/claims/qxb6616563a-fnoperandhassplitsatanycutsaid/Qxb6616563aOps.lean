/-
  A []operand that the call itself builds by append; the texts and numbers of its members lie in blocks of other types.
-/
import Derived.Test.Qxb6616563aHas
import Derived.Test.Qxb6616563aNV
namespace Go.Proofs.Qxb6616563a
open Go.RowKit

def is36 (o : Option Obj) : Prop := ∃ cur f, o = some (.cells cur 36 f)

/-- all blocks are as they were, but those of type 36 -/
structure Kp (w w' : World) : Prop where
  block : ∀ k, k < w.heap.size → ¬ is36 w.heap[k]? → w'.heap[k]? = w.heap[k]?
  size : w.heap.size ≤ w'.heap.size

theorem Kp.refl (w : World) : Kp w w := ⟨fun _ _ _ => rfl, Nat.le_refl _⟩
theorem Kp.trans {w w' w'' : World} (h : Kp w w') (k : Kp w' w'') : Kp w w'' :=
  ⟨fun i hi hn => by
    have e := h.block i hi hn
    rw [← e]
    exact k.block i (Nat.lt_of_lt_of_le hi h.size) (by rw [e]; exact hn), Nat.le_trans h.size k.size⟩
theorem Kp.of_below {w w' : World} (h : Below w.heap.size w w') : Kp w w' := ⟨fun k hk _ => h.block k hk, h.size⟩
theorem Kp.of_grown {w w' : World} {B s n : Nat} {v : Value} {xs : List Value} (hown : w.ownsRow B 36 s v n xs) (hg : w.grownBy w' v.ownBlock) : Kp w w' := by
  refine ⟨fun k hk hn => hg.block k hk fun he => ?_, hg.size⟩
  rcases hown.2 with ⟨rfl, _⟩ | ⟨g, cap, cur, rfl, _, e3, _⟩
  · cases he
  · simp only [Value.ownBlock, Option.some.injEq] at he
    subst he
    exact hn ⟨cur, _, e3⟩

def Stays (P : World → Prop) (w : World) : Prop := ∀ w', Kp w w' → P w'
theorem Stays.now {P : World → Prop} {w : World} (h : Stays P w) : P w := h w (Kp.refl w)
theorem Stays.on {P : World → Prop} {w w' : World} (h : Stays P w) (k : Kp w w') : Stays P w' := fun w'' k' => h w'' (k.trans k')

/-- the slice does not lie in a block of type 36 -/
def N36 (w : World) (a : Option Addr) (n : Nat) : Prop := ∀ ad, a = some ad → 0 < n → ¬ is36 w.heap[ad.block]?

theorem Bytes.stays {w : World} {a : Option Addr} {n : Nat} {l : List UInt8} (h : Bytes w a n l) (hn : N36 w a n) : Stays (fun w => Bytes w a n l) w := by
  intro w' k
  refine ⟨h.1, fun h0 => ?_⟩
  obtain ⟨b, o, rfl, hc⟩ := h.2 h0
  refine ⟨b, o, rfl, fun i hi => ?_⟩
  rw [World.cell?_of_block (w := w) (k.block b (cell_lt (hc i hi)) (hn _ rfl h0))]
  exact hc i hi

/-- block q holds the number x, read from the slice a n -/
structure NumAt (w : World) (q : Nat) (x : NumT) (a : Option Addr) (n : Nat) : Prop where
  row : ∃ f, w.rowIs q 72 3 f
  c0 : w.cell? ⟨q, 0, none⟩ = some (.bool x.1)
  ex : ∃ (wa fa : Option Addr) (wn wc fn fc : Nat), w.cell? ⟨q, 1, none⟩ = some (.slice wa wn wc) ∧ Bytes w wa wn x.2.1 ∧ wn ≤ 1099511627776 ∧
    w.cell? ⟨q, 2, none⟩ = some (.slice fa fn fc) ∧ Bytes w fa fn x.2.2 ∧ fn ≤ 1099511627776 ∧ ∀ q', Off a n q' → Off wa wn q' ∧ Off fa fn q'

theorem rowIs_not36 {w : World} {q t n : Nat} {f : Nat → Value} (h : w.rowIs q t n f) (ht : t ≠ 36) : ¬ is36 w.heap[q]? := by
  rintro ⟨cur, fr, he⟩
  obtain ⟨c, hb, _⟩ := h
  rw [hb] at he
  simp only [Option.some.injEq, Obj.cells.injEq] at he
  exact ht he.2.1

theorem NumAt.is {w : World} {q : Nat} {x : NumT} {a : Option Addr} {n : Nat} (h : NumAt w q x a n) : NumIs w q x := by
  obtain ⟨_, h0, wa, fa, wn, wc, fn, fc, h1, h2, h3, h4, h5, h6, _⟩ := h
  exact ⟨h0, wa, fa, wn, wc, fn, fc, h1, h2, h3, h4, h5, h6⟩

theorem NumAt.stays {w : World} {q : Nat} {x : NumT} {a : Option Addr} {n : Nat} (h : NumAt w q x a n) (hn : N36 w a n) : Stays (fun w => NumIs w q x) w := by
  obtain ⟨⟨f, hr⟩, h0, wa, fa, wn, wc, fn, fc, h1, h2, h3, h4, h5, h6, h7⟩ := h
  have key : ∀ (b : Nat), ¬ Off a n b → ¬ is36 w.heap[b]? := by
    intro b hb hi
    apply hb
    intro ad ha h0 he
    rw [← he] at hi
    exact hn ad ha h0 hi
  have nw : N36 w wa wn := by
    intro ad ha h0 hi
    refine key ad.block (fun ho => (h7 _ ho).1 ad ha h0 rfl) hi
  have nf : N36 w fa fn := by
    intro ad ha h0 hi
    refine key ad.block (fun ho => (h7 _ ho).2 ad ha h0 rfl) hi
  intro w' k
  have hb : ∀ o, w'.cell? ⟨q, o, none⟩ = w.cell? ⟨q, o, none⟩ := fun o => World.cell?_of_block (w := w) (k.block q hr.lt (rowIs_not36 hr (by decide)))
  exact ⟨(hb 0).trans h0, wa, fa, wn, wc, fn, fc, (hb 1).trans h1, (h2.stays nw) w' k, h3, (hb 2).trans h4, (h5.stays nf) w' k, h6⟩

theorem row_spot {w : World} {q : Nat} {f : Nat → Value} (h : w.rowIs q 72 3 f) (h0 : ∀ i, i < 3 → ∀ z : Int, f i ≠ .int .u8 z) : NumSpot w q := by
  refine ⟨⟨_, h.cell (by decide), h0 0 (by decide)⟩, ⟨_, h.cell (by decide), h0 1 (by decide)⟩, ⟨_, h.cell (by decide), h0 2 (by decide)⟩, fun o ho => ?_, h.frozen⟩
  obtain ⟨c, hb, hs, _⟩ := h
  simp [World.cell?, hb]
  omega

theorem row_new (w : World) : ∃ f, (w.alloc (.cells #[.bool false, .slice none 0 0, .slice none 0 0] 72)).rowIs w.heap.size 72 3 f := by
  refine ⟨fun i => #[Value.bool false, Value.slice none 0 0, Value.slice none 0 0].getD i undef, ?_⟩
  refine World.rowIs_alloc w #[.bool false, .slice none 0 0, .slice none 0 0] 72 _ fun i hi => ?_
  simp only [Array.getD, hi]
  simp [Array.getElem?_eq_getElem hi]

set_option maxHeartbeats 1000000 in
theorem read38b (q : Nat) (a : Option Addr) (n c : Nat) (l : List UInt8) (w : World) (ha : Bytes w a n l) (hnc : n ≤ c) (hn : n ≤ 1099511627776) (hc : c ≤ 9223372036854775807) (hq : NumSpot w q) (hr : ∃ f, w.rowIs q 72 3 f) :
    Calls Try.prog 38 #[.pointer (some ⟨q, 0, none⟩), .slice a n c] w fun e w' =>
      (numOf l = none ∧ e = .returned (.bool false) ∧ w' = w) ∨ ∃ x, numOf l = some x ∧ e = .returned (.bool true) ∧ Only q w w' ∧ NumAt w' q x a n := by
  have HL : Hid (l.length = n) := ha.1
  have HR : Hid (∃ f, w.rowIs q 72 3 f) := hr
  clear hr
  go_enter Try.func38, Try.ntmps38
  go_wp2_with fail
  refine (scan45 a n c l w ha hnc hn hc).mono ?_
  rintro e w' ⟨⟨wa, fa, wn, wc, fn, fc, rfl, hb, hwn, hfn, hof⟩, hw⟩
  have HOF := hof q (by rw [HL.out]; exact ha.off_spot hq)
  have HOFH : Hid (Off wa wn q ∧ Off fa fn q) := HOF
  have HALL : Hid (∀ q', Off a n q' → Off wa wn q' ∧ Off fa fn q') := by
    show ∀ _, _
    rw [← HL.out]
    exact hof
  clear hof HOF
  replace hw := hw.symm
  subst hw
  obtain ⟨sn, hsn⟩ : ∃ sn, sn = scanN l := ⟨_, rfl⟩
  rw [← hsn]
  have HS : Hid (sn = scanN l) := hsn
  have HB : Hid (¬ scanN l = 0 → Bytes w wa wn (wholeL l) ∧ Bytes w fa fn (fracL l)) := hb
  clear hsn hb
  by_cases h0 : sn = 0
  · have HN : Hid (numOf l = none) := by show _ = _; unfold numOf; rw [if_pos (.inl (by rw [← HS.out]; exact h0))]
    subst h0
    go_wp2
    go_ret
    exact .inl ⟨HN.out, rfl, rfl⟩
  · rw [if_neg h0]
    have h0' : ((sn : Int) == 0) = false := by simp; omega
    by_cases h1 : sn = n
    · have h1' : ((sn : Int) != (n : Int)) = false := by simp [h1]
      have HN : Hid (numOf l = some (negF l, wholeL l, fracL l)) := by show _ = _; unfold numOf; rw [if_neg (by rw [← HS.out, HL.out]; omega)]
      obtain ⟨hB1, hB2⟩ := HB.out (by rw [← HS.out]; exact h0)
      have HB1 : Hid (Bytes w wa wn (wholeL l)) := hB1
      have HB2 : Hid (Bytes w fa fn (fracL l)) := hB2
      obtain ⟨ng, hng⟩ : ∃ ng, ng = negF l := ⟨_, rfl⟩
      rw [← hng] at HN ⊢
      obtain ⟨v0, q0, _⟩ := hq.c0
      obtain ⟨v1, q1, _⟩ := hq.c1
      obtain ⟨v2, q2, _⟩ := hq.c2
      have f0 := hq.f 0
      have f1 := hq.f 1
      have f2 := hq.f 2
      have HLw : Hid (wn ≤ n ∧ fn ≤ n) := by show _ ∧ _; rw [← HL.out]; exact ⟨hwn, hfn⟩
      have HQ : Hid (q < w.heap.size) := cell_lt q0
      clear hB1 hB2 hng h1 hwn hfn
      go_wp2
      go_ret
      refine .inr ⟨_, HN.out, rfl, (((Only.refl q w).setCell 0 _).setCell 1 _).setCell 2 _, ?_, ?_, wa, fa, wn, wc, fn, fc, ?_, cut_off HB1.out HOFH.out.1 ((((Only.refl q w).setCell 0 _).setCell 1 _).setCell 2 _), by have := HLw.out; omega, ?_, cut_off HB2.out HOFH.out.2 ((((Only.refl q w).setCell 0 _).setCell 1 _).setCell 2 _), by have := HLw.out; omega, HALL.out⟩
      · obtain ⟨f, hf⟩ := HR.out
        exact ⟨_, ((hf.set 0 _).set 1 _).set 2 _⟩
      all_goals go_simp
    · have h1' : ((sn : Int) != (n : Int)) = true := by simp; omega
      have HN : Hid (numOf l = none) := by show _ = _; unfold numOf; rw [if_pos (.inr (by rw [← HS.out, HL.out]; exact h1))]
      go_wp2
      go_ret
      exact .inl ⟨HN.out, rfl, rfl⟩

theorem read24b (q : Nat) (a : Option Addr) (n c : Nat) (l : List UInt8) (w : World) (ha : Bytes w a n l) (hnc : n ≤ c) (hn : n ≤ 1099511627776) (hc : c ≤ 9223372036854775807) (hq : NumSpot w q) (hr : ∃ f, w.rowIs q 72 3 f) :
    Calls Try.prog 24 #[.pointer (some ⟨q, 0, none⟩), .slice a n c] w fun e w' =>
      (numOf l = none ∧ e = .returned (.bool false) ∧ w' = w) ∨ ∃ x, numOf l = some x ∧ e = .returned (.bool true) ∧ Only q w w' ∧ NumAt w' q x a n := by
  have HC := hide_of' (read38b q a n c l w ha hnc hn hc hq hr)
  clear hr hq ha
  go_enter Try.func24, Try.ntmps24
  go_wp2_with fail
  refine HC.out.mono ?_
  rintro e w' (⟨h1, rfl, rfl⟩ | ⟨x, h1, rfl, h2, h3⟩)
  · have HN : Hid (numOf l = none) := h1
    clear h1
    go_wp2
    go_ret
    exact .inl ⟨HN.out, rfl, rfl⟩
  · have HN : Hid (numOf l = some x) := h1
    have HR : Hid (Only q w w' ∧ NumAt w' q x a n) := ⟨h2, h3⟩
    clear h1 h2 h3
    go_wp2
    go_ret
    exact .inr ⟨x, HN.out, rfl, HR.out.1, HR.out.2⟩

/-- what b1CloneBytes hands back -/
structure CloneR (w : World) (n : Nat) (l : List UInt8) (e : Ending) (w' : World) : Prop where
  ex : ∃ a', e = .returned (.slice a' n n) ∧ Bytes w' a' n l ∧ N36 w' a' n
  below : Below w.heap.size w w'

set_option maxHeartbeats 400000 in
theorem cloneBytes_new (a : Option Addr) (n c : Nat) (l : List UInt8) (w : World) (ha : Bytes w a n l) (hn : n ≤ 1099511627776) :
    Calls Try.prog 22 #[.slice a n c] w fun e w' => CloneR w n l e w' := by
  have heq := fun (w : World) => Lib.run_eql_slice_nil (P := Try.prog) w 32 5 a n c 0 0 Try.underlying32
  have HLN : Hid (l.length = n) := ha.1
  have ha := ha.2
  cases a with
  | none =>
    have h0 : n = 0 := by
      rcases Nat.eq_zero_or_pos n with h | h
      · exact h
      · obtain ⟨b, off, h1, _⟩ := ha h
        cases h1
    subst h0
    go_enter Try.func22, Try.ntmps22
    go_wp2
    go_ret
    exact ⟨⟨none, rfl, ⟨HLN.out, fun h => absurd h (Nat.lt_irrefl 0)⟩, fun _ h => by cases h⟩, Below.refl _ _⟩
  | some ad =>
    have hmk := run_make_row' (P := Try.prog) 32 5 (.int .u8 0) 1 Try.underlying32 Try.info5 rfl .i64 .i64 n (by omega) (by omega)
    go_enter Try.func22, Try.ntmps22
    go_wp2
    go_loopw [4] (fun i wr => ∃ k : Nat, k ≤ n ∧ i = .int .i64 k ∧ wr.rowIs w.heap.size 5 n (fun j => if j < k then .int .u8 (byteAt l j) else .int .u8 0) ∧ Below w.heap.size w wr) (fun i _ => n - (intOf i).toNat)
    case atStart => exact ⟨0, Nat.zero_le _, rfl, (World.rowIs_made w _ n 5).congr (fun i _ => by simp), (Below.refl _ _).alloc (Nat.le_refl _) _⟩
    case round =>
      obtain ⟨k, hk, rfl, hrow, hbel⟩ := hrel
      have HR : Hid (wr.rowIs w.heap.size 5 n (fun j => if j < k then .int .u8 (byteAt l j) else .int .u8 0)) := hrow
      have HB : Hid (Below w.heap.size w wr) := hbel
      clear hrow hbel hmk
      by_cases hlt : k < n
      · obtain ⟨b1, o1, hA, hc1⟩ := (ha.below HB.out) (by omega)
        cases hA
        have d1 := hc1 k hlt
        have d2 := HR.out.cell hlt
        have d3 := HR.out.frozen k
        simp only [Nat.lt_irrefl, if_false] at d2
        clear hc1
        go_wp2
        go_roundw
        case rel =>
          refine ⟨k + 1, by omega, by go_num, (HR.out.set k _).congr (fun i _ => ?_), HB.out.setCell (Nat.le_refl _) _⟩
          by_cases h1 : i = k
          · subst h1; simp
          · by_cases h2 : i < k
            · simp [h1, h2, Nat.lt_succ_of_lt h2]
            · have h3 : ¬ i < k + 1 := by omega
              simp [h1, h2, h3]
        case measure => simp [intOf]; omega
      · go_wp2
        go_ret
        refine ⟨⟨_, rfl, ⟨HLN.out, fun _ => ⟨w.heap.size, 0, rfl, fun i hi => ?_⟩⟩, ?_⟩, HB.out⟩
        · have := HR.out.cell hi
          rw [if_pos (by omega)] at this
          simpa using this
        · intro ad' h1 _
          cases h1
          exact rowIs_not36 HR.out (by decide)

structure MemF (e : OpE) (d : Dsc) (w : World) : Prop where
  hk : d.k = e.k
  k0 : 0 ≤ e.k
  k1 : e.k ≤ 6
  k2 : ¬ e.k = 1
  s : e.s = -1
  val : Bytes w e.ta e.tn d.val
  vb : e.tn ≤ e.tc ∧ e.tc ≤ 9223372036854775807 ∧ e.tn ≤ 1048576
  num : (e.np = none ∧ d.num = none) ∨ ∃ q x, e.np = some ⟨q, 0, none⟩ ∧ d.num = some x ∧ NumIs w q x

def cellsE (e : OpE) : List Value := [.int .u8 e.k, .slice e.ta e.tn e.tc, .pointer e.np, .int .i64 e.s, .slice none 0 0]
def ope0 : OpE := ⟨0, none, 0, 0, none, -1⟩

structure OpsL (B : Nat) (w0 w : World) (v : Value) (es : List OpE) (ds : List Dsc) : Prop where
  own : w.ownsRow B 36 5 v es.length (es.flatMap cellsE)
  below : Below w0.heap.size w0 w
  base : w0.heap.size ≤ B
  len : ds.length = es.length
  mem : ∀ i, i < es.length → Stays (MemF (es.getD i ope0) (ds.getD i dsc0)) w

theorem OpsL.start (w : World) : OpsL w.heap.size w w (.slice none 0 0) [] [] :=
  ⟨World.ownsRow_nil _ _ _ _, Below.refl _ _, Nat.le_refl _, rfl, fun _ h => absurd h (Nat.not_lt_zero _)⟩

theorem OpsL.after {B : Nat} {w0 w w' : World} {v : Value} {es : List OpE} {ds : List Dsc} (h : OpsL B w0 w v es ds) (hb : Below w.heap.size w w') : OpsL B w0 w' v es ds :=
  ⟨ownsRow_below h.own hb (Nat.le_refl _), h.below.trans (hb.mono h.below.size), h.base, h.len, fun i hi => (h.mem i hi).on (Kp.of_below hb)⟩

theorem Try.info36 : (Try.prog.info? 36).map (fun i => (i.zero, i.size, i.bytes)) = some (some (.agg #[.int .u8 0, .slice none 0 0, .pointer none, .int .i64 0, .slice none 0 0]), 5, 72) := by kernel_rfl

theorem grown_below {w0 w w' : World} {B s n : Nat} {e : TypeId} {v : Value} {xs : List Value} (hb : Below w0.heap.size w0 w) (hB : w0.heap.size ≤ B) (hown : w.ownsRow B e s v n xs) (hg : w.grownBy w' v.ownBlock) : Below w0.heap.size w0 w' := by
  refine hb.trans ⟨hg.os, hg.tape, hg.output, hg.size, fun k hk => hg.block k (Nat.lt_of_lt_of_le hk hb.size) fun he => ?_⟩
  have := (hown.lt k he.symm).1
  omega

theorem OpsL.wp_app {B : Nat} {w0 w : World} {ops : Array Oper} {rest : List Oper} {o : Oper} {a : Act} {Q : Exit → Act → World → Prop} {v : Value} {es : List OpE} {ds : List Dsc} (h : OpsL B w0 w v es ds) (e : OpE) (d : Dsc)
    (hm : Stays (MemF e d) w) (hB : B ≤ w.heap.size)
    (hgd : o.guard = none) (sl x : Operand) (ho : o.op = .call { callee := .builtin .append, args := #[sl, x], argTypes := #[34, 34] }) (hs : a.eval sl = v) (hx : a.eval x = .slice (some ⟨w.heap.size, 0, none⟩) 1 1)
    (hj : es.length + 1 ≤ 4294967296)
    (hk : ∀ v' w', OpsL B w0 w' v' (es ++ [e]) (ds ++ [d]) → Kp w w' → w.heap.size ≤ w'.heap.size → wpList Try.prog ops Q rest (a.put o.dst v') w') : wpList Try.prog ops Q (o :: rest) a (w.alloc (.cells #[.int .u8 e.k, .slice e.ta e.tn e.tc, .pointer e.np, .int .i64 e.s, .slice none 0 0] 36)) := by
  obtain ⟨h1, h2, h3, h4, h5⟩ := h
  obtain ⟨i0, hi, hz0, hz1, hz2⟩ := info_parts Try.info36
  refine wpList_append_own _ hgd sl x 34 ho B 36 i0 _ 5 72 Try.underlying34 hi hz0 hz1 hz2 rfl (by decide) v es.length _ hs (h1.alloc _) ⟨w.heap.size, 0, none⟩ 1 1 (cellsE e) hx rfl ?_ ?_ (by simp only [maxLen]; omega) (by omega) (by simp; omega) ?_
  · intro j u hu
    have ea : (⟨w.heap.size, 0, none⟩ : Addr).add j = ⟨w.heap.size, j, none⟩ := by
      unfold Addr.add
      by_cases h0 : j = 0
      · subst h0; rfl
      · rw [if_neg h0]; simp
    rw [ea, World.cell?_alloc_new]
    simpa [cellsE] using hu
  · intro u hu
    simp [cellsE] at hu
    rcases hu with rfl | rfl | rfl | rfl | rfl <;> rfl
  intro v' w' hown' hgrow _
  have kp : Kp w w' := (Kp.of_below ((Below.refl _ _).alloc (Nat.le_refl _) _)).trans (Kp.of_grown (h1.alloc _) hgrow)
  refine hk v' w' ⟨?_, grown_below (h2.alloc h2.size _) h3 (h1.alloc _) hgrow, h3, by simp [h4], fun i hi' => ?_⟩ kp kp.size
  · have e2 : (es ++ [e]).flatMap cellsE = es.flatMap cellsE ++ cellsE e := by simp
    rw [e2, List.length_append]
    exact hown'
  · rw [List.length_append, List.length_singleton] at hi'
    by_cases hi2 : i < es.length
    · have e1 : (es ++ [e]).getD i ope0 = es.getD i ope0 := by simp [List.getD_eq_getElem?_getD, List.getElem?_append_left hi2]
      have e2 : (ds ++ [d]).getD i dsc0 = ds.getD i dsc0 := by simp [List.getD_eq_getElem?_getD, List.getElem?_append_left (show i < ds.length by omega)]
      rw [e1, e2]
      exact (h5 i hi2).on kp
    · have hi3 : i = es.length := by omega
      subst hi3
      have e1 : (es ++ [e]).getD es.length ope0 = e := by simp [List.getD_eq_getElem?_getD]
      have e2 : (ds ++ [d]).getD es.length dsc0 = d := by rw [← h4]; simp [List.getD_eq_getElem?_getD]
      rw [e1, e2]
      exact hm.on kp

theorem flat_at (es : List OpE) (i j : Nat) (hi : i < es.length) (hj : j < 5) : (es.flatMap cellsE)[i * 5 + j]? = (cellsE (es.getD i ope0))[j]? := by
  induction es generalizing i with
  | nil => exact absurd hi (Nat.not_lt_zero _)
  | cons e es ih =>
    rw [List.flatMap_cons]
    cases i with
    | zero =>
      rw [Nat.zero_mul, Nat.zero_add, List.getElem?_append_left (by simpa [cellsE] using hj)]
      rfl
    | succ i =>
      have hl : (cellsE e).length = 5 := rfl
      rw [List.getElem?_append_right (by rw [hl]; omega), hl, show (i + 1) * 5 + j - 5 = i * 5 + j by omega, ih i (by simpa using hi)]
      simp [List.getD_eq_getElem?_getD]

/-- the row's cells -/
theorem OpsL.shape {B : Nat} {w0 w : World} {v : Value} {es : List OpE} {ds : List Dsc} (h : OpsL B w0 w v es ds) :
    ∃ a c, v = .slice a es.length c ∧ c ≤ maxLen ∧ es.length ≤ c ∧ (0 < es.length → ∃ g, a = some ⟨g, 0, none⟩ ∧ ∀ i, i < es.length → ∀ j, j < 5 → w.cell? ⟨g, i * 5 + j, none⟩ = (cellsE (es.getD i ope0))[j]?) := by
  rcases h.own.2 with ⟨rfl, h0⟩ | ⟨g, cap, cur, rfl, h1, h2, h3, h4, h5, h6⟩
  · exact ⟨none, 0, by rw [h0], Nat.zero_le _, by omega, fun h => by omega⟩
  · refine ⟨_, cap, rfl, h4, h3, fun _ => ⟨g, rfl, fun i hi j hj => ?_⟩⟩
    rw [← flat_at es i j hi hj, ← h6]
    have hlt : i * 5 + j < es.length * 5 := by omega
    have hlt2 : i * 5 + j < cur.size := by rw [h5]; have := Nat.mul_le_mul_right 5 h3; omega
    rw [List.getElem?_take, if_pos hlt]
    simp [World.cell?, h2]

theorem MemF.opIn {c : Ctx} {w : World} {e : OpE} {d : Dsc} {b o : Nat} (h : MemF e d w) (hc : ∀ j, j < 4 → w.cell? ⟨b, o + j, none⟩ = (cellsE e)[j]?) : OpIn c w b o e d e.ta e.tn e.tc :=
  ⟨hc 0 (by decide), hc 1 (by decide), hc 2 (by decide), hc 3 (by decide), h.hk, h.k0, h.k1, h.k2, h.val, h.vb, .inl ⟨by rw [h.s]; decide, rfl, rfl, rfl⟩, fun hs => absurd hs (by rw [h.s]; decide), fun _ => h.num⟩

theorem OpsL.mem_of {B : Nat} {w0 w : World} {v : Value} {es : List OpE} {ds : List Dsc} (h : OpsL B w0 w v es ds) (c : Ctx) :
    ∃ a cp, v = .slice a es.length cp ∧ Mem c w a es.length ds := by
  obtain ⟨a, cp, hv, _, _, hc⟩ := h.shape
  refine ⟨a, cp, hv, h.len, fun hn => ?_⟩
  obtain ⟨g, ha, hcell⟩ := hc hn
  refine ⟨g, 0, ha, fun i hi => ⟨_, _, _, _, MemF.opIn (h.mem i hi).now fun j hj => ?_⟩⟩
  rw [Nat.zero_add]
  exact hcell i hi j (by omega)
end Go.Proofs.Qxb6616563a
