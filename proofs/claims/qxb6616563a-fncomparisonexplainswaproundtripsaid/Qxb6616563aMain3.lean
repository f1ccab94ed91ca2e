import Derived.Test.Qxb6616563aPlain3
import Derived.Test.Qxb6616563aNV
import Derived.Test.Qxb6616563aDecode
import Derived.Test.Qxb6616563aFits2
namespace Go.Proofs.Qxb6616563a
open Go.RowKit

theorem below_alloc {w0 w : World} (h : Below w0.heap.size w0 w) (o : Obj) : Below w0.heap.size w0 (w.alloc o) := h.alloc h.size o

abbrev opCells (k s : Int) : Array Value := #[.int .u8 k, .slice none 0 0, .pointer none, .int .i64 s, .slice none 0 0]

/-- an operand's five cells -/
structure OpAt (w : World) (b : Nat) (k s : Int) : Prop where
  c0 : w.cell? ⟨b, 0, none⟩ = some (.int .u8 k)
  c1 : w.cell? ⟨b, 1, none⟩ = some (.slice none 0 0)
  c2 : w.cell? ⟨b, 2, none⟩ = some (.pointer none)
  c3 : w.cell? ⟨b, 3, none⟩ = some (.int .i64 s)
  c4 : w.cell? ⟨b, 4, none⟩ = some (.slice none 0 0)

theorem OpAt.below {w w' : World} {b : Nat} {k s : Int} (h : OpAt w b k s) (hb : Below w.heap.size w w') : OpAt w' b k s :=
  ⟨(hb.cell (p := ⟨b, 0, none⟩) (cell_lt h.c0)).trans h.c0, (hb.cell (p := ⟨b, 1, none⟩) (cell_lt h.c0)).trans h.c1, (hb.cell (p := ⟨b, 2, none⟩) (cell_lt h.c0)).trans h.c2, (hb.cell (p := ⟨b, 3, none⟩) (cell_lt h.c0)).trans h.c3, (hb.cell (p := ⟨b, 4, none⟩) (cell_lt h.c0)).trans h.c4⟩

structure Stage1 (w2 w6 : World) (vf vw : Value) (op lk rk ls rs : Int) (text : ByteArray) : Prop where
  below : Below w2.heap.size w2 w6
  p1 : w6.cell? ⟨w2.heap.size, 1, none⟩ = some vf
  p2 : w6.cell? ⟨w2.heap.size, 2, none⟩ = some vw
  l : OpAt w6 (w2.heap.size + 1 + 1) lk ls
  r : OpAt w6 (w2.heap.size + 1 + 1 + 1 + 1) rk rs
  q1 : w6.cell? ⟨w2.heap.size + 1 + 1 + 1 + 1 + 1 + 1 + 1, 4, none⟩ = some (.int .i64 ls)
  q2 : w6.cell? ⟨w2.heap.size + 1 + 1 + 1 + 1 + 1 + 1 + 1, 9, none⟩ = some (.int .i64 rs)
  q3 : w6.cell? ⟨w2.heap.size + 1 + 1 + 1 + 1 + 1 + 1 + 1, 11, none⟩ = some (.string text)

theorem stage1 (w2 : World) (vf vw : Value) (op lk rk ls rs : Int) (text : ByteArray) :
    Stage1 w2 ((((((((w2.alloc (.cells #[.nilIface, vf, vw] 64)).alloc (.cells (opCells lk ls) 36)).alloc (.cells (opCells lk ls) 36)).alloc (.cells (opCells rk rs) 36)).alloc (.cells (opCells rk rs) 36)).alloc (.cells (opCells lk ls) 36)).alloc (.cells (opCells rk rs) 36)).alloc (.cells (cmpCells op lk rk ls rs text) 68)) vf vw op lk rk ls rs text := by
  refine ⟨?_, ?_, ?_, ⟨?_, ?_, ?_, ?_, ?_⟩, ⟨?_, ?_, ?_, ?_, ?_⟩, ?_, ?_, ?_⟩
  · repeat (first | exact Below.refl _ _ | refine below_alloc ?_ _)
  all_goals go_simp

theorem named_cells {w : World} {af aw av : Option Addr} {nf nv : Nat} {z : Nat → Int} {W : Nat → ByteArray} {A : Nat → Option Addr} {L C : Nat → Nat} {m f : Nat}
    (hf : Sl w af nf (fun i => .int .i64 (z i))) (hw : Sl w aw nf (fun i => .string (W i))) (hv : Sl w av nv (fun i => .slice (A i) (L i) (C i))) (hm : m < nf) (hfn : f < nv) (hz : z m = (f : Int)) :
    ∃ bF oF bW oW bV oV, af = some ⟨bF, oF, none⟩ ∧ aw = some ⟨bW, oW, none⟩ ∧ av = some ⟨bV, oV, none⟩ ∧
      ∀ w', Below w.heap.size w w' → w'.cell? ⟨bF, oF + m, none⟩ = some (.int .i64 (f : Int)) ∧ w'.cell? ⟨bW, oW + m, none⟩ = some (.string (W m)) ∧ w'.cell? ⟨bV, oV + f, none⟩ = some (.slice (A f) (L f) (C f)) := by
  obtain ⟨bF, oF, rfl, h1⟩ := hf (by omega)
  obtain ⟨bW, oW, rfl, h2⟩ := hw (by omega)
  obtain ⟨bV, oV, rfl, h3⟩ := hv (by omega)
  refine ⟨bF, oF, bW, oW, bV, oV, rfl, rfl, rfl, fun w' hb => ⟨?_, ?_, ?_⟩⟩
  · rw [hb.cell (p := ⟨bF, oF + m, none⟩) (cell_lt (h1 m hm)), h1 m hm]
    show some (Value.int .i64 (z m)) = _
    rw [hz]
  · rw [hb.cell (p := ⟨bW, oW + m, none⟩) (cell_lt (h2 m hm)), h2 m hm]
  · rw [hb.cell (p := ⟨bV, oV + f, none⟩) (cell_lt (h3 f hfn)), h3 f hfn]

def trOf (z : Nat → Int) (A : Nat → Option Addr) (L C : Nat → Nat) (m : Nat) : Tr := (A (z m).toNat, L (z m).toNat, C (z m).toNat)

theorem hide_of {p : Prop} (h : p) : Hid p := h

theorem NV.shape2 {w0 w : World} {names vals : Value} {ns : List ByteArray} {ts : List Tr} (h : NV w0 w names vals ns ts) (hl : ts.length = ns.length) :
    ∃ k an cn av cv, k = ns.length ∧ names = .slice an k cn ∧ vals = .slice av k cv ∧ Sl w an k (fun i => .string (ns.getD i ⟨#[]⟩)) ∧ Sl w av k (fun i => slv (ts.getD i (none, 0, 0))) := by
  obtain ⟨an, cn, e1, s1⟩ := h.names_shape
  obtain ⟨av, cv, e2, s2⟩ := h.vals_shape
  rw [hl] at e2 s2
  exact ⟨_, an, cn, av, cv, rfl, e1, e2, s1, s2⟩

theorem rev_take_one {α : Type} {l : List α} {q t k : Nat} {x d : α} (hx : x = l.getD q d) (hk : k = l.length) (hq : (q : Int) = (k : Int) - 1 - t) (ht : t < k) : l.reverse.take (t + 1) = l.reverse.take t ++ [x] := by
  have h1 : t < l.reverse.length := by rw [List.length_reverse]; omega
  rw [List.take_succ_eq_append_getElem h1]
  congr 1
  have h2 : q < l.length := by omega
  rw [hx, List.getElem_reverse]
  have h3 : l.length - 1 - t = q := by omega
  simp [h3, List.getD_eq_getElem?_getD, h2]

theorem rev_take {ns : List ByteArray} {ts : List Tr} {q t k : Nat} {s : ByteArray} {x : Tr} (hs : s = ns.getD q ⟨#[]⟩) (hx : x = ts.getD q (none, 0, 0)) (hk : k = ns.length) (hq : (q : Int) = (k : Int) - 1 - t) (ht : t < k) (hl : ts.length = ns.length) :
    ns.reverse.take (t + 1) = ns.reverse.take t ++ [s] ∧ ts.reverse.take (t + 1) = ts.reverse.take t ++ [x] :=
  ⟨rev_take_one hs hk hq ht, rev_take_one hx (by omega) hq ht⟩

theorem range_map_getD {α : Type} (l : List α) (d : α) {k : Nat} (hk : k = l.length) : (List.range k).map (fun i => l.getD i d) = l := by
  subst hk
  refine List.ext_getElem (by simp) fun i h1 h2 => ?_
  simp [List.getD_eq_getElem?_getD, h2]

theorem listEq_true (a b : Option Addr) (n ca cb : Nat) (l : List (List UInt8)) (w : World) (ha : BList w a n l) (hb : BList w b n l) (hn : n ≤ 1152921504606846976) :
    Calls Try.prog 18 #[.slice a n ca, .slice b n cb] w fun e w' => e = .returned (.bool true) ∧ Below w.heap.size w w' := by
  refine (listEq_any a b n n ca cb l l w ha hb hn hn).mono ?_
  rintro e w' ⟨rfl, k, rfl⟩
  exact ⟨by simp [eqLB], below_drewN (Below.refl _ _) k⟩

theorem vals_blist {w : World} {av : Option Addr} {k nf nv : Nat} {z : Nat → Int} {A : Nat → Option Addr} {L C : Nat → Nat} {V : Nat → List UInt8} {ix : List Nat} {ts : List Tr} {ls rs : Int} {text : ByteArray} {W : Nat → ByteArray}
    (hs : Sl w av k (fun i => slv (ts.getD i (none, 0, 0)))) (hts : ts = ix.map (trOf z A L C)) (hk : k = ix.length) (hm : ∀ q, q ∈ ix → q < nf ∧ 0 ≤ z q) (hx : XFits ls rs text nf nf nv z W L) (hV : ∀ i, i < nv → Bytes w (A i) (L i) (V i)) :
    BList w av k (ix.map (fun q => V (z q).toNat)) := by
  subst hts
  subst hk
  refine ⟨by simp, fun i => A (z (ix.getD i 0)).toNat, fun i => L (z (ix.getD i 0)).toNat, fun i => C (z (ix.getD i 0)).toNat, hs.congr fun i hi => ?_, fun i hi => ?_⟩
  · simp [List.getD_eq_getElem?_getD, hi, slv, trOf]
  · have hmem : ix.getD i 0 ∈ ix := by simp [List.getD_eq_getElem?_getD, hi]
    obtain ⟨h1, h2⟩ := hm _ hmem
    have h3 := hx.fields _ h1
    have h4 : (z (ix.getD i 0)).toNat < nv := by omega
    refine ⟨?_, by show L (z (ix.getD i 0)).toNat ≤ _; have := hx.vals _ h4; omega⟩
    have e : (ix.map (fun q => V (z q).toNat)).getD i [] = V (z (ix.getD i 0)).toNat := by simp [List.getD_eq_getElem?_getD, hi]
    rw [e]
    exact hV _ h4

theorem vals_blist_rev {w : World} {av : Option Addr} {k nf nv : Nat} {z : Nat → Int} {A : Nat → Option Addr} {L C : Nat → Nat} {V : Nat → List UInt8} {ix : List Nat} {ts : List Tr} {ls rs : Int} {text : ByteArray} {W : Nat → ByteArray}
    (hs : Sl w av k (fun i => slv (ts.reverse.getD i (none, 0, 0)))) (hts : ts = ix.map (trOf z A L C)) (hk : k = ix.length) (hm : ∀ q, q ∈ ix → q < nf ∧ 0 ≤ z q) (hx : XFits ls rs text nf nf nv z W L) (hV : ∀ i, i < nv → Bytes w (A i) (L i) (V i)) :
    BList w av k (ix.map (fun q => V (z q).toNat)).reverse := by
  rw [← List.map_reverse]
  exact vals_blist (ts := ts.reverse) hs (by rw [hts, List.map_reverse]) (by rw [List.length_reverse]; exact hk) (fun q hq => hm q (List.mem_reverse.1 hq)) hx hV

structure Stage2 (w7 w8 : World) (ls rs : Int) (text : ByteArray) : Prop where
  below : Below w7.heap.size w7 w8
  q1 : w8.cell? ⟨w7.heap.size + 1 + 1, 4, none⟩ = some (.int .i64 ls)
  q2 : w8.cell? ⟨w7.heap.size + 1 + 1, 9, none⟩ = some (.int .i64 rs)
  q3 : w8.cell? ⟨w7.heap.size + 1 + 1, 11, none⟩ = some (.string text)

theorem stage2 (w7 : World) (op lk rk ls rs : Int) (text : ByteArray) :
    Stage2 w7 (((w7.alloc (.cells (opCells lk ls) 36)).alloc (.cells (opCells rk rs) 36)).alloc (.cells (cmpCells op lk rk ls rs text) 68)) ls rs text := by
  refine ⟨?_, ?_, ?_, ?_⟩
  · repeat (first | exact Below.refl _ _ | refine below_alloc ?_ _)
  all_goals go_simp

set_option maxRecDepth 100000 in
set_option maxHeartbeats 4000000 in
theorem law3 (op lk rk ls rs : Int) (text : ByteArray) (af aw av : Option Addr) (nf nw nv cf cw cv : Nat) (z : Nat → Int) (W : Nat → ByteArray) (A : Nat → Option Addr) (L C : Nat → Nat) (V : Nat → List UInt8) (w : World)
    (hf : Sl w af nf (fun i => .int .i64 (z i))) (hw : Sl w aw nw (fun i => .string (W i))) (hv : Sl w av nv (fun i => .slice (A i) (L i) (C i))) (hV : ∀ i, i < nv → Bytes w (A i) (L i) (V i))
    (ht : text.size ≤ 9223372036854775807) (hnf : nf ≤ 9223372036854775807) (hnw : nw ≤ 9223372036854775807) (hnv : nv ≤ 9223372036854775807) (hW : ∀ i, i < nw → (W i).size ≤ 9223372036854775807) (hL : ∀ i, i < nv → L i ≤ 9223372036854775807) :
    Calls Try.prog 3 #[.int .u8 op, .int .u8 lk, .int .i64 ls, .int .u8 rk, .int .i64 rs, .string text, .slice af nf cf, .slice aw nw cw, .slice av nv cv] w fun e w' => e = .returned (.bool true) ∧ Below w.heap.size w w' := by
  have HV : Hid (∀ i, i < nv → Bytes w (A i) (L i) (V i)) := hV
  have HW : Hid (∀ i, i < nw → (W i).size ≤ 9223372036854775807) := hW
  have HL : Hid (∀ i, i < nv → L i ≤ 9223372036854775807) := hL
  clear hV hW hL
  go_enter Try.func3, Try.ntmps3
  go_wp2_with fail
  refine (zz8_any op lk rk ls rs text af aw av nf nw nv cf cw cv W A L C w hw hv ht hnf hnw hnv HW.out HL.out).mono ?_
  rintro e w' ⟨⟨b, rfl, _⟩, rfl⟩
  cases b with
  | false =>
    go_wp2
    go_ret
    exact ⟨rfl, Below.refl _ _⟩
  | true =>
    go_wp2_with fail
    refine (fits9_any op lk rk ls rs text af aw av nf nw nv cf cw cv z W A L C w' hf hw hv ht hnf hnw hnv HW.out HL.out).mono ?_
    rintro e w'' ⟨⟨b, rfl, hX⟩, rfl⟩
    cases b with
    | false =>
      go_wp2
      go_ret
      exact ⟨rfl, Below.refl _ _⟩
    | true =>
      have X := hX rfl
      have hwf := X.wf
      subst hwf
      have HX : Hid (XFits ls rs text nw nw nv z W L) := X
      have x1 := X.t
      have x2 := X.f
      have x3 := X.v
      have x4 := X.l0
      have x5 := X.l1
      have x6 := X.r0
      have x7 := X.r1
      clear X hX HW HL ht hnf hnw hnv
      go_wp2_with fail
      refine (cloneInts_any af nw cf z _ hf (by omega)).mono ?_
      rintro e w1 ⟨a1, c1, rfl, hs1, hb1, _⟩
      have HB1 : Hid (Below w''.heap.size w'' w1) := hb1
      clear hb1
      go_wp2_with fail
      refine (cloneStrings_any aw nw cw W _ (hw.below HB1.out) (by omega)).mono ?_
      rintro e w2 ⟨a2, c2, rfl, hs2, hb2, _⟩
      have HB2 : Hid (Below w''.heap.size w'' w2) := HB1.out.trans (hb2.mono HB1.out.size)
      have HS1 : Hid (Sl w2 a1 nw (fun i => .int .i64 (z i))) := hs1.below hb2
      have HS2 : Hid (Sl w2 a2 nw (fun i => .string (W i))) := hs2
      clear hb2 hs1 hs2 HB1
      go_wp2_with fail
      refine (new10 _ _ _ _ _ _ _).mono ?_
      rintro e w3 ⟨rfl, rfl⟩
      go_wp2_with fail
      refine (new13 _ _ _ _ _ _ _ _ _ _).mono ?_
      rintro e w4 ⟨rfl, rfl⟩
      go_wp2_with fail
      refine (new13 _ _ _ _ _ _ _ _ _ _).mono ?_
      rintro e w5 ⟨rfl, rfl⟩
      go_wp2_with fail
      refine (new15 _ _ _ _ _ _ _).mono ?_
      rintro e w6 ⟨rfl, hw6⟩
      have HS : Hid (Stage1 w2 w6 (.slice a1 nw c1) (.slice a2 nw c2) op lk rk ls rs text) := by
        show Stage1 _ _ _ _ _ _ _ _ _ _
        rw [hw6]
        exact stage1 w2 _ _ op lk rk ls rs text
      clear hw6
      have HB6 : Hid (Below w''.heap.size w'' w6) := HB2.out.trans (HS.out.below.mono HB2.out.size)
      go_wp2_with fail
      refine (explain14 w2.heap.size _ a1 a2 av nw nv c1 c2 cv text ls rs z W A L C V _ HS.out.p1 HS.out.p2 HS.out.q1 HS.out.q2 HS.out.q3 (HS1.out.below HS.out.below) (HS2.out.below HS.out.below) (hv.below HB6.out) (fun i hi => (HV.out i hi).below HB6.out) x1 x2 x3 HX.out.words HX.out.vals ⟨x4, x5⟩ ⟨x6, x7⟩ HX.out.fields).mono ?_
      rintro e w7 ⟨v1, rfl, hbuf1⟩
      obtain ⟨fa, fn, fc, rfl, hfb, hfn⟩ := hbuf1.bytes
      have H67 : Hid (Below w6.heap.size w6 w7) := hbuf1.below
      have HFB : Hid (Bytes w7 fa fn (Fst text.data.toList (slots2 ls rs) z W V 2).1) := hfb
      have HL7 := HS.out.l.below H67.out
      have HR7 := HS.out.r.below H67.out
      have HB7 : Hid (Below w''.heap.size w'' w7) := HB6.out.trans (H67.out.mono HB6.out.size)
      have HB27 : Hid (Below w2.heap.size w2 w7) := HS.out.below.trans (H67.out.mono HS.out.below.size)
      obtain ⟨l0, l1, l2, l3, l4⟩ := HL7
      obtain ⟨r0, r1, r2, r3, r4⟩ := HR7
      have sz7 : w2.heap.size + 1 + 1 + 1 + 1 < w7.heap.size := cell_lt r0
      clear hbuf1 hfb
      go_wp2_with fail
      refine (new15 _ _ _ _ _ _ _).mono ?_
      rintro e w8 ⟨rfl, hw8⟩
      have HS8 : Hid (Stage2 w7 w8 rs ls text) := by
        show Stage2 _ _ _ _ _
        rw [hw8]
        exact stage2 w7 op rk lk rs ls text
      clear hw8 l0 l1 l2 l3 l4 r0 r1 r2 r3 r4
      have HB28 : Hid (Below w2.heap.size w2 w8) := HB27.out.trans (HS8.out.below.mono HB27.out.size)
      have HB8 : Hid (Below w''.heap.size w'' w8) := HB7.out.trans (HS8.out.below.mono HB7.out.size)
      have H68 : Hid (Below w6.heap.size w6 w8) := H67.out.trans (HS8.out.below.mono H67.out.size)
      have P1 : Hid (w8.cell? ⟨w2.heap.size, 1, none⟩ = some (.slice a1 nw c1)) := (H68.out.cell (p := ⟨w2.heap.size, 1, none⟩) (cell_lt HS.out.p1)).trans HS.out.p1
      have P2 : Hid (w8.cell? ⟨w2.heap.size, 2, none⟩ = some (.slice a2 nw c2)) := (H68.out.cell (p := ⟨w2.heap.size, 2, none⟩) (cell_lt HS.out.p1)).trans HS.out.p2
      go_wp2_with fail
      refine (explain14 w2.heap.size _ a1 a2 av nw nv c1 c2 cv text rs ls z W A L C V _ P1.out P2.out HS8.out.q1 HS8.out.q2 HS8.out.q3 (HS1.out.below HB28.out) (HS2.out.below HB28.out) (hv.below HB8.out) (fun i hi => (HV.out i hi).below HB8.out) x1 x2 x3 HX.out.words HX.out.vals ⟨x6, x7⟩ ⟨x4, x5⟩ HX.out.fields).mono ?_
      rintro e w9 ⟨v2, rfl, hbuf2⟩
      obtain ⟨ba, bn, bc, rfl, hbb, hbn⟩ := hbuf2.bytes
      have HB9 : Hid (Below w''.heap.size w'' w9) := HB8.out.trans (hbuf2.below.mono HB8.out.size)
      have HBB : Hid (Bytes w9 ba bn (Fst text.data.toList (slots2 rs ls) z W V 2).1) := hbb
      have HFB9 : Hid (Bytes w9 fa fn (Fst text.data.toList (slots2 ls rs) z W V 2).1) := (HFB.out.below HS8.out.below).below hbuf2.below
      clear hbuf2 hbb HFB HS8 HB28 HB8 H68 P1 P2 HB27 HB7 H67 HS1 HS2 HB6 HS HB2 sz7
      go_wp2_with fail
      refine (named_any af nw cf z ls _ (hf.below HB9.out) (by omega)).mono ?_
      rintro e wz ⟨rfl, rfl⟩
      obtain ⟨bL, hbL⟩ : ∃ b, b = namedB z nw ls := ⟨_, rfl⟩
      obtain ⟨bR, hbR⟩ : ∃ b, b = (namedB z nw rs && (rs != ls)) := ⟨_, rfl⟩
      rw [← hbL]
      have HBL := hide_eq hbL
      have HBR := hide_eq hbR
      have HNV0 : Hid (NV wz wz (.slice none 0 0) (.slice none 0 0) [] []) := NV.start wz
      clear hbL hbR
      cases bL with
      | true =>
        have hl0 : 0 ≤ ls ∧ 0 ≤ z ls.toNat := by have := HBL.out; simp [namedB] at this; omega
        obtain ⟨m, hm⟩ : ∃ m : Nat, m = ls.toNat := ⟨_, rfl⟩
        rw [← hm] at hl0
        obtain ⟨f, hzf⟩ : ∃ f : Nat, z m = (f : Int) := Int.eq_ofNat_of_zero_le hl0.2
        have hls : ls = (m : Int) := by omega
        subst hls
        clear hm
        have hfn : f < nv := by have := HX.out.fields m (by omega); omega
        obtain ⟨bF, oF, bW, oW, bV, oV, rfl, rfl, rfl, hK⟩ := named_cells hf hw hv (m := m) (f := f) (by omega) hfn hzf
        have HK : Hid _ := hK
        obtain ⟨Af, Lf, Cf, hA1, hA2, hA3⟩ : ∃ Af Lf Cf, Af = A f ∧ Lf = L f ∧ Cf = C f := ⟨_, _, _, rfl, rfl, rfl⟩
        rw [← hA1, ← hA2, ← hA3] at HK
        have HT : Hid ((Af, Lf, Cf) = trOf z A L C m) := by show _ = _; rw [hA1, hA2, hA3, trOf, hzf]; rfl
        clear hA1 hA2 hA3
        have k1 := (HK.out wz HB9.out).2.1
        clear hK hzf hl0
        go_wp2_with (first | (at_builtin; refine HNV0.out.wp_name (W m) rfl (.tmp 85) (.tmp 90) rfl rfl rfl (by simp) ?_; intro n1 wa hnv1; have k2 := (HK.out wa (HB9.out.trans (hnv1.below.mono HB9.out.size))).1; have k3 := (HK.out wa (HB9.out.trans (hnv1.below.mono HB9.out.size))).2.2) | (at_builtin; refine hnv1.wp_val Af Lf Cf rfl (.tmp 92) (.tmp 100) rfl rfl rfl (by simp) ?_; intro n2 wb hnv2) | (go_at_call 16; fail))
        have HBb : Hid (Below w''.heap.size w'' wb) := HB9.out.trans (hnv2.below.mono HB9.out.size)
        have HNVb : Hid (NV wz wb n1 n2 [W m] [(Af, Lf, Cf)]) := hnv2
        clear hnv1 hnv2 k1 k2 k3 HK
        refine (named_any _ nw cf z rs _ (hf.below HBb.out) (by omega)).mono ?_
        rintro e wN ⟨rfl, rfl⟩
        obtain ⟨bN, hbN⟩ : ∃ b, b = namedB z nw rs := ⟨_, rfl⟩
        rw [← hbN]
        have HBN := hide_eq hbN
        clear hbN
        cases bN with
        | false =>
          have HIX : Hid (ixL z nw (m : Int) rs = [m]) := by show _ = _; unfold ixL; rw [← HBL.out, ← HBN.out]; simp
          have HNVB : Hid (Below wz.heap.size wz wN) := HNVb.out.below
          obtain ⟨ns, hns⟩ : ∃ ns, ns = (ixL z nw (m : Int) rs).map W := ⟨_, rfl⟩
          obtain ⟨ts, hts⟩ : ∃ ts, ts = (ixL z nw (m : Int) rs).map (trOf z A L C) := ⟨_, rfl⟩
          have HNV : Hid (NV wz wN n1 n2 ns ts) := by show NV _ _ _ _ _ _; rw [hns, hts, HIX.out]; simp only [List.map_cons, List.map_nil]; rw [← HT.out]; exact HNVb.out
          have HNS := hide_eq hns
          have HTS := hide_eq hts
          have HTL : Hid (ts.length = ns.length) := by show _ = _; rw [hts, hns]; simp
          clear hns hts
          obtain ⟨k, an, cn, av2, cv2, hk, hne, hve, hsn, hsv⟩ := HNV.out.shape2 HTL.out
          have HKL := hide_eq hk
          subst hne
          subst hve
          clear hk
          have hk2 : k ≤ 2 := by have h1 := HKL.out; have h2 := ixL_len z nw (m : Int) rs; rw [h1, HNS.out, List.length_map]; exact h2
          have HSN := hide_of hsn
          have HSV := hide_of hsv
          have HNR0 : Hid (NV wN wN (.slice none 0 0) (.slice none 0 0) [] []) := NV.start wN
          clear hsn hsv
          go_wp2
          go_loopw [26, 27, 28] (fun rn rv i wr => ∃ (t : Nat) (x : Int), t ≤ k ∧ i = .int .i64 x ∧ Hid (x = (k : Int) - 1 - t) ∧ -1 ≤ x ∧ x ≤ 1 ∧ NV wN wr rn rv (ns.reverse.take t) (ts.reverse.take t)) (fun _ _ i _ => (intOf i + 1).toNat)
          case atStart => exact ⟨0, _, Nat.zero_le _, rfl, by show _ = _; simp, by omega, by omega, by simpa using HNR0.out⟩
          case round =>
            obtain ⟨t, x, htk, rfl, HXX, hx0, hx1, hnr⟩ := hrel
            have HNR := hide_of hnr
            clear hnr
            by_cases hlt : t < k
            · obtain ⟨q, rfl⟩ : ∃ q : Nat, x = (q : Int) := ⟨x.toNat, by have := HXX.out; omega⟩
              have hqk : q < k := by have := HXX.out; omega
              obtain ⟨bn1, on1, rfl, hcn⟩ := (HSN.out.below HNR.out.below) (by omega)
              obtain ⟨bv1, ov1, rfl, hcv⟩ := (HSV.out.below HNR.out.below) (by omega)
              obtain ⟨sq, hsq⟩ : ∃ sq, sq = ns.getD q ⟨#[]⟩ := ⟨_, rfl⟩
              obtain ⟨⟨T1, T2, T3⟩, htq⟩ : ∃ tq : Tr, tq = ts.getD q (none, 0, 0) := ⟨_, rfl⟩
              have dn : wr.cell? ⟨bn1, on1 + q, none⟩ = some (.string sq) := by rw [hsq]; exact hcn q hqk
              have KV : Hid (∀ w', Below wN.heap.size wN w' → w'.cell? ⟨bv1, ov1 + q, none⟩ = some (.slice T1 T2 T3)) := fun w' hb => by
                obtain ⟨b2, o2, hA, hc2⟩ := (HSV.out.below hb) (by omega)
                cases hA
                have h2 : w'.cell? ⟨bv1, ov1 + q, none⟩ = some (slv (ts.getD q (none, 0, 0))) := hc2 q hqk
                rw [← htq] at h2
                exact h2
              have HTK := rev_take hsq htq HKL.out HXX.out hlt (HTL.out)
              have ln1 : Hid ((ns.reverse.take t).length + 1 ≤ 4294967296) := by show _ ≤ _; rw [List.length_take]; omega
              have ln2 : Hid ((ts.reverse.take t).length + 1 ≤ 4294967296) := by show _ ≤ _; rw [List.length_take]; omega
              have HTKH := hide_of HTK
              clear hcn hcv hsq htq HTK
              go_wp2_with (first | (at_builtin; refine HNR.out.wp_name sq rfl (.tmp 134) (.tmp 139) rfl rfl rfl ln1.out ?_; intro q1 wq hq1; have dv := KV.out wq hq1.below) | (at_builtin; refine hq1.wp_val T1 T2 T3 rfl (.tmp 141) (.tmp 146) rfl rfl rfl ln2.out ?_; intro q2 wq2 hq2))
              go_roundw
              case rel => exact ⟨t + 1, (q : Int) - 1, by omega, rfl, by show _ = _; have := HXX.out; omega, by omega, by omega, by rw [HTKH.out.1, HTKH.out.2]; exact hq2⟩
              case measure => simp [intOf] <;> omega
            · have htk' : t = k := by omega
              subst htk'
              have HFU : Hid (NV wN wr u26 u27 ns.reverse ts.reverse) := by
                have h1 := HNR.out
                rw [List.take_of_length_le (by rw [List.length_reverse, HKL.out]; exact Nat.le_refl _), List.take_of_length_le (by rw [List.length_reverse, HTL.out, HKL.out]; exact Nat.le_refl _)] at h1
                exact h1
              obtain ⟨k', ra, rc, rva, rvc, hk', hre, hrve, hrn, hrv⟩ := HFU.out.shape2 (by rw [List.length_reverse, List.length_reverse, HTL.out])
              have hkk : k' = t := by rw [hk', List.length_reverse]; exact HKL.out.symm
              subst hkk
              subst hre
              subst hrve
              have HRN := hide_of hrn
              have HRV := hide_of hrv
              have HBr : Hid (Below wz.heap.size wz wr) := HNVB.out.trans (HFU.out.below.mono HNVB.out.size)
              have HB0 : Hid (Below w''.heap.size w'' wr) := HB9.out.trans (HBr.out.mono HB9.out.size)
              have hx' : x = -1 := by have := HXX.out; omega
              subst hx'
              clear hrn hrv hk' hx0 hx1
              go_wp2_with fail
              refine (decode_yes fa an fn fc k' cn text (fun i => ns.getD i ⟨#[]⟩) (fun i => ((ixL z nw (m : Int) rs).map (fun q => V (z q).toNat)).getD i []) _ wr (HFB9.out.below HBr.out) (HSN.out.below HFU.out.below) (by rw [fwd_law text.data.toList z W V nw (m : Int) rs (by omega) (by omega), HKL.out, HNS.out, List.length_map]) (by omega) (by omega)).mono ?_
              rintro e wd ⟨vv1, rfl, hvl1⟩
              obtain ⟨fva, fvc, hv1e, hbl1⟩ := hvl1.result
              subst hv1e
              have HD1 : Hid (Below wr.heap.size wr wd) := hvl1.below
              have HBL1 := hide_of hbl1
              clear hvl1 hbl1
              go_wp2_with fail
              refine (decode_yes ba ra bn bc k' rc text (fun i => ns.reverse.getD i ⟨#[]⟩) (fun i => ((ixL z nw (m : Int) rs).map (fun q => V (z q).toNat)).reverse.getD i []) _ wd ((HBB.out.below HBr.out).below HD1.out) (HRN.out.below HD1.out) (by rw [fwd_law text.data.toList z W V nw rs (m : Int) (by omega) (by omega), ixL_rev z nw (m : Int) rs, HKL.out, HNS.out, List.length_map, List.length_reverse, List.map_reverse, List.map_reverse]) (by omega) (by omega)).mono ?_
              rintro e wd2 ⟨vv2, rfl, hvl2⟩
              obtain ⟨bva, bvc, hv2e, hbl2⟩ := hvl2.result
              subst hv2e
              have HD2 : Hid (Below wd.heap.size wd wd2) := hvl2.below
              have HBL2 := hide_of hbl2
              clear hvl2 hbl2
              have HD12 : Hid (Below wr.heap.size wr wd2) := HD1.out.trans (HD2.out.mono HD1.out.size)
              have HBd : Hid (Below w''.heap.size w'' wd2) := HB0.out.trans (HD12.out.mono HB0.out.size)
              have HVA : Hid (BList wd2 av2 k' ((ixL z nw (m : Int) rs).map (fun q => V (z q).toNat))) := vals_blist (HSV.out.below (HFU.out.below.trans (HD12.out.mono HFU.out.below.size))) HTS.out (by rw [HKL.out, HNS.out, List.length_map]) (fun q hq => ixL_mem hq) HX.out (fun i hi => (HV.out i hi).below HBd.out)
              have HVB : Hid (BList wd2 rva k' ((ixL z nw (m : Int) rs).map (fun q => V (z q).toNat)).reverse) := vals_blist_rev (HRV.out.below HD12.out) HTS.out (by rw [HKL.out, HNS.out, List.length_map]) (fun q hq => ixL_mem hq) HX.out (fun i hi => (HV.out i hi).below HBd.out)
              have HE1 : Hid (Calls Try.prog 18 #[.slice fva k' fvc, .slice av2 k' cv2] wd2 fun e w' => e = .returned (.bool true) ∧ Below wd2.heap.size wd2 w') := listEq_true _ _ _ _ _ _ _ ((HBL1.out.below HD2.out)) (by rw [range_map_getD ((ixL z nw (m : Int) rs).map (fun q => V (z q).toNat)) [] (by rw [List.length_map]; exact by rw [HKL.out, HNS.out, List.length_map])]; exact HVA.out) (by omega)
              go_wp2_with (go_at_call 18; fail)
              refine HE1.out.mono ?_
              rintro e we ⟨rfl, hwe⟩
              have HEW := hide_of hwe
              clear hwe
              have HE2 : Hid (Calls Try.prog 18 #[.slice bva k' bvc, .slice rva k' rvc] we fun e w' => e = .returned (.bool true) ∧ Below we.heap.size we w') := listEq_true _ _ _ _ _ _ _ ((HBL2.out.below HEW.out)) (by rw [range_map_getD ((ixL z nw (m : Int) rs).map (fun q => V (z q).toNat)).reverse [] (by rw [List.length_reverse, List.length_map]; exact by rw [HKL.out, HNS.out, List.length_map])]; exact HVB.out.below HEW.out) (by omega)
              go_wp2_with (go_at_call 18; fail)
              refine HE2.out.mono ?_
              rintro e wg ⟨rfl, hwg⟩
              have HGW := hide_of hwg
              clear hwg
              go_wp2
              go_ret
              exact ⟨rfl, HBd.out.trans ((HEW.out.trans (HGW.out.mono HEW.out.size)).mono HBd.out.size)⟩
        | true =>
          by_cases hne0 : rs = (m : Int)
          · have hne' : (rs != (m : Int)) = false := by simp [hne0]
            have HIX : Hid (ixL z nw (m : Int) rs = [m]) := by show _ = _; unfold ixL; rw [← HBL.out, hne']; simp
            have HNVB : Hid (Below wz.heap.size wz wN) := HNVb.out.below
            obtain ⟨ns, hns⟩ : ∃ ns, ns = (ixL z nw (m : Int) rs).map W := ⟨_, rfl⟩
            obtain ⟨ts, hts⟩ : ∃ ts, ts = (ixL z nw (m : Int) rs).map (trOf z A L C) := ⟨_, rfl⟩
            have HNV : Hid (NV wz wN n1 n2 ns ts) := by show NV _ _ _ _ _ _; rw [hns, hts, HIX.out]; simp only [List.map_cons, List.map_nil]; rw [← HT.out]; exact HNVb.out
            have HNS := hide_eq hns
            have HTS := hide_eq hts
            have HTL : Hid (ts.length = ns.length) := by show _ = _; rw [hts, hns]; simp
            clear hns hts hne0
            obtain ⟨k, an, cn, av2, cv2, hk, hne, hve, hsn, hsv⟩ := HNV.out.shape2 HTL.out
            have HKL := hide_eq hk
            subst hne
            subst hve
            clear hk
            have hk2 : k ≤ 2 := by have h1 := HKL.out; have h2 := ixL_len z nw (m : Int) rs; rw [h1, HNS.out, List.length_map]; exact h2
            have HSN := hide_of hsn
            have HSV := hide_of hsv
            have HNR0 : Hid (NV wN wN (.slice none 0 0) (.slice none 0 0) [] []) := NV.start wN
            clear hsn hsv
            go_wp2
            go_loopw [26, 27, 28] (fun rn rv i wr => ∃ (t : Nat) (x : Int), t ≤ k ∧ i = .int .i64 x ∧ Hid (x = (k : Int) - 1 - t) ∧ -1 ≤ x ∧ x ≤ 1 ∧ NV wN wr rn rv (ns.reverse.take t) (ts.reverse.take t)) (fun _ _ i _ => (intOf i + 1).toNat)
            case atStart => exact ⟨0, _, Nat.zero_le _, rfl, by show _ = _; simp, by omega, by omega, by simpa using HNR0.out⟩
            case round =>
              obtain ⟨t, x, htk, rfl, HXX, hx0, hx1, hnr⟩ := hrel
              have HNR := hide_of hnr
              clear hnr
              by_cases hlt : t < k
              · obtain ⟨q, rfl⟩ : ∃ q : Nat, x = (q : Int) := ⟨x.toNat, by have := HXX.out; omega⟩
                have hqk : q < k := by have := HXX.out; omega
                obtain ⟨bn1, on1, rfl, hcn⟩ := (HSN.out.below HNR.out.below) (by omega)
                obtain ⟨bv1, ov1, rfl, hcv⟩ := (HSV.out.below HNR.out.below) (by omega)
                obtain ⟨sq, hsq⟩ : ∃ sq, sq = ns.getD q ⟨#[]⟩ := ⟨_, rfl⟩
                obtain ⟨⟨T1, T2, T3⟩, htq⟩ : ∃ tq : Tr, tq = ts.getD q (none, 0, 0) := ⟨_, rfl⟩
                have dn : wr.cell? ⟨bn1, on1 + q, none⟩ = some (.string sq) := by rw [hsq]; exact hcn q hqk
                have KV : Hid (∀ w', Below wN.heap.size wN w' → w'.cell? ⟨bv1, ov1 + q, none⟩ = some (.slice T1 T2 T3)) := fun w' hb => by
                  obtain ⟨b2, o2, hA, hc2⟩ := (HSV.out.below hb) (by omega)
                  cases hA
                  have h2 : w'.cell? ⟨bv1, ov1 + q, none⟩ = some (slv (ts.getD q (none, 0, 0))) := hc2 q hqk
                  rw [← htq] at h2
                  exact h2
                have HTK := rev_take hsq htq HKL.out HXX.out hlt (HTL.out)
                have ln1 : Hid ((ns.reverse.take t).length + 1 ≤ 4294967296) := by show _ ≤ _; rw [List.length_take]; omega
                have ln2 : Hid ((ts.reverse.take t).length + 1 ≤ 4294967296) := by show _ ≤ _; rw [List.length_take]; omega
                have HTKH := hide_of HTK
                clear hcn hcv hsq htq HTK
                go_wp2_with (first | (at_builtin; refine HNR.out.wp_name sq rfl (.tmp 134) (.tmp 139) rfl rfl rfl ln1.out ?_; intro q1 wq hq1; have dv := KV.out wq hq1.below) | (at_builtin; refine hq1.wp_val T1 T2 T3 rfl (.tmp 141) (.tmp 146) rfl rfl rfl ln2.out ?_; intro q2 wq2 hq2))
                go_roundw
                case rel => exact ⟨t + 1, (q : Int) - 1, by omega, rfl, by show _ = _; have := HXX.out; omega, by omega, by omega, by rw [HTKH.out.1, HTKH.out.2]; exact hq2⟩
                case measure => simp [intOf] <;> omega
              · have htk' : t = k := by omega
                subst htk'
                have HFU : Hid (NV wN wr u26 u27 ns.reverse ts.reverse) := by
                  have h1 := HNR.out
                  rw [List.take_of_length_le (by rw [List.length_reverse, HKL.out]; exact Nat.le_refl _), List.take_of_length_le (by rw [List.length_reverse, HTL.out, HKL.out]; exact Nat.le_refl _)] at h1
                  exact h1
                obtain ⟨k', ra, rc, rva, rvc, hk', hre, hrve, hrn, hrv⟩ := HFU.out.shape2 (by rw [List.length_reverse, List.length_reverse, HTL.out])
                have hkk : k' = t := by rw [hk', List.length_reverse]; exact HKL.out.symm
                subst hkk
                subst hre
                subst hrve
                have HRN := hide_of hrn
                have HRV := hide_of hrv
                have HBr : Hid (Below wz.heap.size wz wr) := HNVB.out.trans (HFU.out.below.mono HNVB.out.size)
                have HB0 : Hid (Below w''.heap.size w'' wr) := HB9.out.trans (HBr.out.mono HB9.out.size)
                have hx' : x = -1 := by have := HXX.out; omega
                subst hx'
                clear hrn hrv hk' hx0 hx1
                go_wp2_with fail
                refine (decode_yes fa an fn fc k' cn text (fun i => ns.getD i ⟨#[]⟩) (fun i => ((ixL z nw (m : Int) rs).map (fun q => V (z q).toNat)).getD i []) _ wr (HFB9.out.below HBr.out) (HSN.out.below HFU.out.below) (by rw [fwd_law text.data.toList z W V nw (m : Int) rs (by omega) (by omega), HKL.out, HNS.out, List.length_map]) (by omega) (by omega)).mono ?_
                rintro e wd ⟨vv1, rfl, hvl1⟩
                obtain ⟨fva, fvc, hv1e, hbl1⟩ := hvl1.result
                subst hv1e
                have HD1 : Hid (Below wr.heap.size wr wd) := hvl1.below
                have HBL1 := hide_of hbl1
                clear hvl1 hbl1
                go_wp2_with fail
                refine (decode_yes ba ra bn bc k' rc text (fun i => ns.reverse.getD i ⟨#[]⟩) (fun i => ((ixL z nw (m : Int) rs).map (fun q => V (z q).toNat)).reverse.getD i []) _ wd ((HBB.out.below HBr.out).below HD1.out) (HRN.out.below HD1.out) (by rw [fwd_law text.data.toList z W V nw rs (m : Int) (by omega) (by omega), ixL_rev z nw (m : Int) rs, HKL.out, HNS.out, List.length_map, List.length_reverse, List.map_reverse, List.map_reverse]) (by omega) (by omega)).mono ?_
                rintro e wd2 ⟨vv2, rfl, hvl2⟩
                obtain ⟨bva, bvc, hv2e, hbl2⟩ := hvl2.result
                subst hv2e
                have HD2 : Hid (Below wd.heap.size wd wd2) := hvl2.below
                have HBL2 := hide_of hbl2
                clear hvl2 hbl2
                have HD12 : Hid (Below wr.heap.size wr wd2) := HD1.out.trans (HD2.out.mono HD1.out.size)
                have HBd : Hid (Below w''.heap.size w'' wd2) := HB0.out.trans (HD12.out.mono HB0.out.size)
                have HVA : Hid (BList wd2 av2 k' ((ixL z nw (m : Int) rs).map (fun q => V (z q).toNat))) := vals_blist (HSV.out.below (HFU.out.below.trans (HD12.out.mono HFU.out.below.size))) HTS.out (by rw [HKL.out, HNS.out, List.length_map]) (fun q hq => ixL_mem hq) HX.out (fun i hi => (HV.out i hi).below HBd.out)
                have HVB : Hid (BList wd2 rva k' ((ixL z nw (m : Int) rs).map (fun q => V (z q).toNat)).reverse) := vals_blist_rev (HRV.out.below HD12.out) HTS.out (by rw [HKL.out, HNS.out, List.length_map]) (fun q hq => ixL_mem hq) HX.out (fun i hi => (HV.out i hi).below HBd.out)
                have HE1 : Hid (Calls Try.prog 18 #[.slice fva k' fvc, .slice av2 k' cv2] wd2 fun e w' => e = .returned (.bool true) ∧ Below wd2.heap.size wd2 w') := listEq_true _ _ _ _ _ _ _ ((HBL1.out.below HD2.out)) (by rw [range_map_getD ((ixL z nw (m : Int) rs).map (fun q => V (z q).toNat)) [] (by rw [List.length_map]; exact by rw [HKL.out, HNS.out, List.length_map])]; exact HVA.out) (by omega)
                go_wp2_with (go_at_call 18; fail)
                refine HE1.out.mono ?_
                rintro e we ⟨rfl, hwe⟩
                have HEW := hide_of hwe
                clear hwe
                have HE2 : Hid (Calls Try.prog 18 #[.slice bva k' bvc, .slice rva k' rvc] we fun e w' => e = .returned (.bool true) ∧ Below we.heap.size we w') := listEq_true _ _ _ _ _ _ _ ((HBL2.out.below HEW.out)) (by rw [range_map_getD ((ixL z nw (m : Int) rs).map (fun q => V (z q).toNat)).reverse [] (by rw [List.length_reverse, List.length_map]; exact by rw [HKL.out, HNS.out, List.length_map])]; exact HVB.out.below HEW.out) (by omega)
                go_wp2_with (go_at_call 18; fail)
                refine HE2.out.mono ?_
                rintro e wg ⟨rfl, hwg⟩
                have HGW := hide_of hwg
                clear hwg
                go_wp2
                go_ret
                exact ⟨rfl, HBd.out.trans ((HEW.out.trans (HGW.out.mono HEW.out.size)).mono HBd.out.size)⟩
          · have hne' : (rs != (m : Int)) = true := by simp [hne0]
            have hr0 : 0 ≤ rs ∧ 0 ≤ z rs.toNat := by have := HBN.out; simp [namedB] at this; omega
            obtain ⟨m2, hm2⟩ : ∃ m : Nat, m = rs.toNat := ⟨_, rfl⟩
            rw [← hm2] at hr0
            obtain ⟨f2, hzf2⟩ : ∃ f : Nat, z m2 = (f : Int) := Int.eq_ofNat_of_zero_le hr0.2
            have hrs : rs = (m2 : Int) := by omega
            subst hrs
            clear hm2 hne0
            have hfn2 : f2 < nv := by have := HX.out.fields m2 (by omega); omega
            have HIX : Hid (ixL z nw (m : Int) (m2 : Int) = [m, m2]) := by show _ = _; unfold ixL; rw [← HBL.out, ← HBN.out, hne']; simp
            obtain ⟨bF2, oF2, bW2, oW2, bV2, oV2, e1, e2, e3, hK2⟩ := named_cells hf hw hv (m := m2) (f := f2) (by omega) hfn2 hzf2
            cases e1
            cases e2
            cases e3
            have HK2 : Hid _ := hK2
            obtain ⟨Ag, Lg, Cg, hA1, hA2, hA3⟩ : ∃ Af Lf Cf, Af = A f2 ∧ Lf = L f2 ∧ Cf = C f2 := ⟨_, _, _, rfl, rfl, rfl⟩
            rw [← hA1, ← hA2, ← hA3] at HK2
            have HT2 : Hid ((Ag, Lg, Cg) = trOf z A L C m2) := by show _ = _; rw [hA1, hA2, hA3, trOf, hzf2]; rfl
            clear hA1 hA2 hA3
            have k1 := (HK2.out wN HBb.out).2.1
            clear hK2 hzf2 hr0
            go_wp2_with (first | (at_builtin; refine HNVb.out.wp_name (W m2) rfl (.tmp 110) (.tmp 115) rfl rfl rfl (by simp) ?_; intro n3 wa hnv1; have hbx := HB9.out.trans (hnv1.below.mono HB9.out.size); have k2 := (HK2.out wa hbx).1; have k3 := (HK2.out wa hbx).2.2; clear hbx) | (at_builtin; refine hnv1.wp_val Ag Lg Cg rfl (.tmp 117) (.tmp 125) rfl rfl rfl (by simp) ?_; intro n4 wM hnv2; obtain ⟨k, an, cn, av2, cv2, hk, hne, hve, hsn, hsv⟩ := hnv2.shape2 rfl; have hk2 : k ≤ 2 := (by simp at hk; omega); have HKX := hide_eq hk; have HSN0 := hide_of hsn; have HSV0 := hide_of hsv; subst hne; subst hve; clear hk hsn hsv))
            have HNVB : Hid (Below wz.heap.size wz wM) := hnv2.below
            obtain ⟨ns, hns⟩ : ∃ ns, ns = (ixL z nw (m : Int) (m2 : Int)).map W := ⟨_, rfl⟩
            obtain ⟨ts, hts⟩ : ∃ ts, ts = (ixL z nw (m : Int) (m2 : Int)).map (trOf z A L C) := ⟨_, rfl⟩
            have HNV : Hid (NV wz wM (.slice an k cn) (.slice av2 k cv2) ns ts) := by show NV _ _ _ _ _ _; rw [hns, hts, HIX.out]; simp only [List.map_cons, List.map_nil]; rw [← HT.out, ← HT2.out]; exact hnv2
            have HNS := hide_eq hns
            have HTS := hide_eq hts
            have HTL : Hid (ts.length = ns.length) := by show _ = _; rw [hts, hns]; simp
            have hk : k = ns.length := by rw [hns, HIX.out]; exact HKX.out
            have hsn : Sl wM an k (fun i => .string (ns.getD i ⟨#[]⟩)) := by rw [hns, HIX.out]; exact HSN0.out
            have hsv : Sl wM av2 k (fun i => slv (ts.getD i (none, 0, 0))) := by rw [hts, HIX.out]; simp only [List.map_cons, List.map_nil]; rw [← HT.out, ← HT2.out]; exact HSV0.out
            clear hns hts HSN0 HSV0 HKX hnv1 hnv2 k1 k2 k3 HK2 HNVb HBb
            have HKL := hide_eq hk
            clear hk
            have HSN := hide_of hsn
            have HSV := hide_of hsv
            have HNR0 : Hid (NV wM wM (.slice none 0 0) (.slice none 0 0) [] []) := NV.start wM
            clear hsn hsv
            go_wp2
            go_loopw [26, 27, 28] (fun rn rv i wr => ∃ (t : Nat) (x : Int), t ≤ k ∧ i = .int .i64 x ∧ Hid (x = (k : Int) - 1 - t) ∧ -1 ≤ x ∧ x ≤ 1 ∧ NV wM wr rn rv (ns.reverse.take t) (ts.reverse.take t)) (fun _ _ i _ => (intOf i + 1).toNat)
            case atStart => exact ⟨0, _, Nat.zero_le _, rfl, by show _ = _; simp, by omega, by omega, by simpa using HNR0.out⟩
            case round =>
              obtain ⟨t, x, htk, rfl, HXX, hx0, hx1, hnr⟩ := hrel
              have HNR := hide_of hnr
              clear hnr
              by_cases hlt : t < k
              · obtain ⟨q, rfl⟩ : ∃ q : Nat, x = (q : Int) := ⟨x.toNat, by have := HXX.out; omega⟩
                have hqk : q < k := by have := HXX.out; omega
                obtain ⟨bn1, on1, rfl, hcn⟩ := (HSN.out.below HNR.out.below) (by omega)
                obtain ⟨bv1, ov1, rfl, hcv⟩ := (HSV.out.below HNR.out.below) (by omega)
                obtain ⟨sq, hsq⟩ : ∃ sq, sq = ns.getD q ⟨#[]⟩ := ⟨_, rfl⟩
                obtain ⟨⟨T1, T2, T3⟩, htq⟩ : ∃ tq : Tr, tq = ts.getD q (none, 0, 0) := ⟨_, rfl⟩
                have dn : wr.cell? ⟨bn1, on1 + q, none⟩ = some (.string sq) := by rw [hsq]; exact hcn q hqk
                have KV : Hid (∀ w', Below wM.heap.size wM w' → w'.cell? ⟨bv1, ov1 + q, none⟩ = some (.slice T1 T2 T3)) := fun w' hb => by
                  obtain ⟨b2, o2, hA, hc2⟩ := (HSV.out.below hb) (by omega)
                  cases hA
                  have h2 : w'.cell? ⟨bv1, ov1 + q, none⟩ = some (slv (ts.getD q (none, 0, 0))) := hc2 q hqk
                  rw [← htq] at h2
                  exact h2
                have HTK := rev_take hsq htq HKL.out HXX.out hlt (HTL.out)
                have ln1 : Hid ((ns.reverse.take t).length + 1 ≤ 4294967296) := by show _ ≤ _; rw [List.length_take]; omega
                have ln2 : Hid ((ts.reverse.take t).length + 1 ≤ 4294967296) := by show _ ≤ _; rw [List.length_take]; omega
                have HTKH := hide_of HTK
                clear hcn hcv hsq htq HTK
                go_wp2_with (first | (at_builtin; refine HNR.out.wp_name sq rfl (.tmp 134) (.tmp 139) rfl rfl rfl ln1.out ?_; intro q1 wq hq1; have dv := KV.out wq hq1.below) | (at_builtin; refine hq1.wp_val T1 T2 T3 rfl (.tmp 141) (.tmp 146) rfl rfl rfl ln2.out ?_; intro q2 wq2 hq2))
                go_roundw
                case rel => exact ⟨t + 1, (q : Int) - 1, by omega, rfl, by show _ = _; have := HXX.out; omega, by omega, by omega, by rw [HTKH.out.1, HTKH.out.2]; exact hq2⟩
                case measure => simp [intOf] <;> omega
              · have htk' : t = k := by omega
                subst htk'
                have HFU : Hid (NV wM wr u26 u27 ns.reverse ts.reverse) := by
                  have h1 := HNR.out
                  rw [List.take_of_length_le (by rw [List.length_reverse, HKL.out]; exact Nat.le_refl _), List.take_of_length_le (by rw [List.length_reverse, HTL.out, HKL.out]; exact Nat.le_refl _)] at h1
                  exact h1
                obtain ⟨k', ra, rc, rva, rvc, hk', hre, hrve, hrn, hrv⟩ := HFU.out.shape2 (by rw [List.length_reverse, List.length_reverse, HTL.out])
                have hkk : k' = t := by rw [hk', List.length_reverse]; exact HKL.out.symm
                subst hkk
                subst hre
                subst hrve
                have HRN := hide_of hrn
                have HRV := hide_of hrv
                have HBr : Hid (Below wz.heap.size wz wr) := HNVB.out.trans (HFU.out.below.mono HNVB.out.size)
                have HB0 : Hid (Below w''.heap.size w'' wr) := HB9.out.trans (HBr.out.mono HB9.out.size)
                have hx' : x = -1 := by have := HXX.out; omega
                subst hx'
                clear hrn hrv hk' hx0 hx1
                go_wp2_with fail
                refine (decode_yes fa an fn fc k' cn text (fun i => ns.getD i ⟨#[]⟩) (fun i => ((ixL z nw (m : Int) (m2 : Int)).map (fun q => V (z q).toNat)).getD i []) _ wr (HFB9.out.below HBr.out) (HSN.out.below HFU.out.below) (by rw [fwd_law text.data.toList z W V nw (m : Int) (m2 : Int) (by omega) (by omega), HKL.out, HNS.out, List.length_map]) (by omega) (by omega)).mono ?_
                rintro e wd ⟨vv1, rfl, hvl1⟩
                obtain ⟨fva, fvc, hv1e, hbl1⟩ := hvl1.result
                subst hv1e
                have HD1 : Hid (Below wr.heap.size wr wd) := hvl1.below
                have HBL1 := hide_of hbl1
                clear hvl1 hbl1
                go_wp2_with fail
                refine (decode_yes ba ra bn bc k' rc text (fun i => ns.reverse.getD i ⟨#[]⟩) (fun i => ((ixL z nw (m : Int) (m2 : Int)).map (fun q => V (z q).toNat)).reverse.getD i []) _ wd ((HBB.out.below HBr.out).below HD1.out) (HRN.out.below HD1.out) (by rw [fwd_law text.data.toList z W V nw (m2 : Int) (m : Int) (by omega) (by omega), ixL_rev z nw (m : Int) (m2 : Int), HKL.out, HNS.out, List.length_map, List.length_reverse, List.map_reverse, List.map_reverse]) (by omega) (by omega)).mono ?_
                rintro e wd2 ⟨vv2, rfl, hvl2⟩
                obtain ⟨bva, bvc, hv2e, hbl2⟩ := hvl2.result
                subst hv2e
                have HD2 : Hid (Below wd.heap.size wd wd2) := hvl2.below
                have HBL2 := hide_of hbl2
                clear hvl2 hbl2
                have HD12 : Hid (Below wr.heap.size wr wd2) := HD1.out.trans (HD2.out.mono HD1.out.size)
                have HBd : Hid (Below w''.heap.size w'' wd2) := HB0.out.trans (HD12.out.mono HB0.out.size)
                have HVA : Hid (BList wd2 av2 k' ((ixL z nw (m : Int) (m2 : Int)).map (fun q => V (z q).toNat))) := vals_blist (HSV.out.below (HFU.out.below.trans (HD12.out.mono HFU.out.below.size))) HTS.out (by rw [HKL.out, HNS.out, List.length_map]) (fun q hq => ixL_mem hq) HX.out (fun i hi => (HV.out i hi).below HBd.out)
                have HVB : Hid (BList wd2 rva k' ((ixL z nw (m : Int) (m2 : Int)).map (fun q => V (z q).toNat)).reverse) := vals_blist_rev (HRV.out.below HD12.out) HTS.out (by rw [HKL.out, HNS.out, List.length_map]) (fun q hq => ixL_mem hq) HX.out (fun i hi => (HV.out i hi).below HBd.out)
                have HE1 : Hid (Calls Try.prog 18 #[.slice fva k' fvc, .slice av2 k' cv2] wd2 fun e w' => e = .returned (.bool true) ∧ Below wd2.heap.size wd2 w') := listEq_true _ _ _ _ _ _ _ ((HBL1.out.below HD2.out)) (by rw [range_map_getD ((ixL z nw (m : Int) (m2 : Int)).map (fun q => V (z q).toNat)) [] (by rw [List.length_map]; exact by rw [HKL.out, HNS.out, List.length_map])]; exact HVA.out) (by omega)
                go_wp2_with (go_at_call 18; fail)
                refine HE1.out.mono ?_
                rintro e we ⟨rfl, hwe⟩
                have HEW := hide_of hwe
                clear hwe
                have HE2 : Hid (Calls Try.prog 18 #[.slice bva k' bvc, .slice rva k' rvc] we fun e w' => e = .returned (.bool true) ∧ Below we.heap.size we w') := listEq_true _ _ _ _ _ _ _ ((HBL2.out.below HEW.out)) (by rw [range_map_getD ((ixL z nw (m : Int) (m2 : Int)).map (fun q => V (z q).toNat)).reverse [] (by rw [List.length_reverse, List.length_map]; exact by rw [HKL.out, HNS.out, List.length_map])]; exact HVB.out.below HEW.out) (by omega)
                go_wp2_with (go_at_call 18; fail)
                refine HE2.out.mono ?_
                rintro e wg ⟨rfl, hwg⟩
                have HGW := hide_of hwg
                clear hwg
                go_wp2
                go_ret
                exact ⟨rfl, HBd.out.trans ((HEW.out.trans (HGW.out.mono HEW.out.size)).mono HBd.out.size)⟩
      | false =>
        go_wp2_with (go_at_call 16; fail)
        refine (named_any _ nw cf z rs _ (hf.below HB9.out) (by omega)).mono ?_
        rintro e wN ⟨rfl, rfl⟩
        obtain ⟨bN, hbN⟩ : ∃ b, b = namedB z nw rs := ⟨_, rfl⟩
        rw [← hbN]
        have HBN := hide_eq hbN
        clear hbN
        cases bN with
        | true =>
          have hne0 : ¬ rs = ls := by
            intro h
            have h1 := HBL.out
            have h2 := HBN.out
            rw [h, ← h1] at h2
            cases h2
          have hne' : (rs != ls) = true := by simp [hne0]
          have hr0 : 0 ≤ rs ∧ 0 ≤ z rs.toNat := by have := HBN.out; simp [namedB] at this; omega
          obtain ⟨m2, hm2⟩ : ∃ m : Nat, m = rs.toNat := ⟨_, rfl⟩
          rw [← hm2] at hr0
          obtain ⟨f2, hzf2⟩ : ∃ f : Nat, z m2 = (f : Int) := Int.eq_ofNat_of_zero_le hr0.2
          have hrs : rs = (m2 : Int) := by omega
          subst hrs
          clear hm2 hne0
          have hfn2 : f2 < nv := by have := HX.out.fields m2 (by omega); omega
          have HIX : Hid (ixL z nw ls (m2 : Int) = [m2]) := by show _ = _; unfold ixL; rw [← HBL.out, ← HBN.out, hne']; simp
          obtain ⟨bF2, oF2, bW2, oW2, bV2, oV2, rfl, rfl, rfl, hK2⟩ := named_cells hf hw hv (m := m2) (f := f2) (by omega) hfn2 hzf2
          have HK2 : Hid _ := hK2
          obtain ⟨Ag, Lg, Cg, hA1, hA2, hA3⟩ : ∃ Af Lf Cf, Af = A f2 ∧ Lf = L f2 ∧ Cf = C f2 := ⟨_, _, _, rfl, rfl, rfl⟩
          rw [← hA1, ← hA2, ← hA3] at HK2
          have HT2 : Hid ((Ag, Lg, Cg) = trOf z A L C m2) := by show _ = _; rw [hA1, hA2, hA3, trOf, hzf2]; rfl
          clear hA1 hA2 hA3
          have k1 := (HK2.out wN HB9.out).2.1
          clear hK2 hzf2 hr0
          go_wp2_with (first | (at_builtin; refine HNV0.out.wp_name (W m2) rfl (.tmp 110) (.tmp 115) rfl rfl rfl (by simp) ?_; intro n3 wa hnv1; have hbx := HB9.out.trans (hnv1.below.mono HB9.out.size); have k2 := (HK2.out wa hbx).1; have k3 := (HK2.out wa hbx).2.2; clear hbx) | (at_builtin; refine hnv1.wp_val Ag Lg Cg rfl (.tmp 117) (.tmp 125) rfl rfl rfl (by simp) ?_; intro n4 wM hnv2; obtain ⟨k, an, cn, av2, cv2, hk, hne, hve, hsn, hsv⟩ := hnv2.shape2 rfl; have hk2 : k ≤ 2 := (by simp at hk; omega); have HKX := hide_eq hk; have HSN0 := hide_of hsn; have HSV0 := hide_of hsv; subst hne; subst hve; clear hk hsn hsv))
          have HNVB : Hid (Below wN.heap.size wN wM) := hnv2.below
          obtain ⟨ns, hns⟩ : ∃ ns, ns = (ixL z nw ls (m2 : Int)).map W := ⟨_, rfl⟩
          obtain ⟨ts, hts⟩ : ∃ ts, ts = (ixL z nw ls (m2 : Int)).map (trOf z A L C) := ⟨_, rfl⟩
          have HNV : Hid (NV wN wM (.slice an k cn) (.slice av2 k cv2) ns ts) := by show NV _ _ _ _ _ _; rw [hns, hts, HIX.out]; simp only [List.map_cons, List.map_nil]; rw [← HT2.out]; exact hnv2
          have HNS := hide_eq hns
          have HTS := hide_eq hts
          have HTL : Hid (ts.length = ns.length) := by show _ = _; rw [hts, hns]; simp
          have hk : k = ns.length := by rw [hns, HIX.out]; exact HKX.out
          have hsn : Sl wM an k (fun i => .string (ns.getD i ⟨#[]⟩)) := by rw [hns, HIX.out]; exact HSN0.out
          have hsv : Sl wM av2 k (fun i => slv (ts.getD i (none, 0, 0))) := by rw [hts, HIX.out]; simp only [List.map_cons, List.map_nil]; rw [← HT2.out]; exact HSV0.out
          clear hns hts HSN0 HSV0 HKX hnv1 hnv2 k1 k2 k3 HK2
          have HKL := hide_eq hk
          clear hk
          have HSN := hide_of hsn
          have HSV := hide_of hsv
          have HNR0 : Hid (NV wM wM (.slice none 0 0) (.slice none 0 0) [] []) := NV.start wM
          clear hsn hsv
          go_wp2
          go_loopw [26, 27, 28] (fun rn rv i wr => ∃ (t : Nat) (x : Int), t ≤ k ∧ i = .int .i64 x ∧ Hid (x = (k : Int) - 1 - t) ∧ -1 ≤ x ∧ x ≤ 1 ∧ NV wM wr rn rv (ns.reverse.take t) (ts.reverse.take t)) (fun _ _ i _ => (intOf i + 1).toNat)
          case atStart => exact ⟨0, _, Nat.zero_le _, rfl, by show _ = _; simp, by omega, by omega, by simpa using HNR0.out⟩
          case round =>
            obtain ⟨t, x, htk, rfl, HXX, hx0, hx1, hnr⟩ := hrel
            have HNR := hide_of hnr
            clear hnr
            by_cases hlt : t < k
            · obtain ⟨q, rfl⟩ : ∃ q : Nat, x = (q : Int) := ⟨x.toNat, by have := HXX.out; omega⟩
              have hqk : q < k := by have := HXX.out; omega
              obtain ⟨bn1, on1, rfl, hcn⟩ := (HSN.out.below HNR.out.below) (by omega)
              obtain ⟨bv1, ov1, rfl, hcv⟩ := (HSV.out.below HNR.out.below) (by omega)
              obtain ⟨sq, hsq⟩ : ∃ sq, sq = ns.getD q ⟨#[]⟩ := ⟨_, rfl⟩
              obtain ⟨⟨T1, T2, T3⟩, htq⟩ : ∃ tq : Tr, tq = ts.getD q (none, 0, 0) := ⟨_, rfl⟩
              have dn : wr.cell? ⟨bn1, on1 + q, none⟩ = some (.string sq) := by rw [hsq]; exact hcn q hqk
              have KV : Hid (∀ w', Below wM.heap.size wM w' → w'.cell? ⟨bv1, ov1 + q, none⟩ = some (.slice T1 T2 T3)) := fun w' hb => by
                obtain ⟨b2, o2, hA, hc2⟩ := (HSV.out.below hb) (by omega)
                cases hA
                have h2 : w'.cell? ⟨bv1, ov1 + q, none⟩ = some (slv (ts.getD q (none, 0, 0))) := hc2 q hqk
                rw [← htq] at h2
                exact h2
              have HTK := rev_take hsq htq HKL.out HXX.out hlt (HTL.out)
              have ln1 : Hid ((ns.reverse.take t).length + 1 ≤ 4294967296) := by show _ ≤ _; rw [List.length_take]; omega
              have ln2 : Hid ((ts.reverse.take t).length + 1 ≤ 4294967296) := by show _ ≤ _; rw [List.length_take]; omega
              have HTKH := hide_of HTK
              clear hcn hcv hsq htq HTK
              go_wp2_with (first | (at_builtin; refine HNR.out.wp_name sq rfl (.tmp 134) (.tmp 139) rfl rfl rfl ln1.out ?_; intro q1 wq hq1; have dv := KV.out wq hq1.below) | (at_builtin; refine hq1.wp_val T1 T2 T3 rfl (.tmp 141) (.tmp 146) rfl rfl rfl ln2.out ?_; intro q2 wq2 hq2))
              go_roundw
              case rel => exact ⟨t + 1, (q : Int) - 1, by omega, rfl, by show _ = _; have := HXX.out; omega, by omega, by omega, by rw [HTKH.out.1, HTKH.out.2]; exact hq2⟩
              case measure => simp [intOf] <;> omega
            · have htk' : t = k := by omega
              subst htk'
              have HFU : Hid (NV wM wr u26 u27 ns.reverse ts.reverse) := by
                have h1 := HNR.out
                rw [List.take_of_length_le (by rw [List.length_reverse, HKL.out]; exact Nat.le_refl _), List.take_of_length_le (by rw [List.length_reverse, HTL.out, HKL.out]; exact Nat.le_refl _)] at h1
                exact h1
              obtain ⟨k', ra, rc, rva, rvc, hk', hre, hrve, hrn, hrv⟩ := HFU.out.shape2 (by rw [List.length_reverse, List.length_reverse, HTL.out])
              have hkk : k' = t := by rw [hk', List.length_reverse]; exact HKL.out.symm
              subst hkk
              subst hre
              subst hrve
              have HRN := hide_of hrn
              have HRV := hide_of hrv
              have HBr : Hid (Below wN.heap.size wN wr) := HNVB.out.trans (HFU.out.below.mono HNVB.out.size)
              have HB0 : Hid (Below w''.heap.size w'' wr) := HB9.out.trans (HBr.out.mono HB9.out.size)
              have hx' : x = -1 := by have := HXX.out; omega
              subst hx'
              clear hrn hrv hk' hx0 hx1
              go_wp2_with fail
              refine (decode_yes fa an fn fc k' cn text (fun i => ns.getD i ⟨#[]⟩) (fun i => ((ixL z nw ls (m2 : Int)).map (fun q => V (z q).toNat)).getD i []) _ wr (HFB9.out.below HBr.out) (HSN.out.below HFU.out.below) (by rw [fwd_law text.data.toList z W V nw ls (m2 : Int) (by omega) (by omega), HKL.out, HNS.out, List.length_map]) (by omega) (by omega)).mono ?_
              rintro e wd ⟨vv1, rfl, hvl1⟩
              obtain ⟨fva, fvc, hv1e, hbl1⟩ := hvl1.result
              subst hv1e
              have HD1 : Hid (Below wr.heap.size wr wd) := hvl1.below
              have HBL1 := hide_of hbl1
              clear hvl1 hbl1
              go_wp2_with fail
              refine (decode_yes ba ra bn bc k' rc text (fun i => ns.reverse.getD i ⟨#[]⟩) (fun i => ((ixL z nw ls (m2 : Int)).map (fun q => V (z q).toNat)).reverse.getD i []) _ wd ((HBB.out.below HBr.out).below HD1.out) (HRN.out.below HD1.out) (by rw [fwd_law text.data.toList z W V nw (m2 : Int) ls (by omega) (by omega), ixL_rev z nw ls (m2 : Int), HKL.out, HNS.out, List.length_map, List.length_reverse, List.map_reverse, List.map_reverse]) (by omega) (by omega)).mono ?_
              rintro e wd2 ⟨vv2, rfl, hvl2⟩
              obtain ⟨bva, bvc, hv2e, hbl2⟩ := hvl2.result
              subst hv2e
              have HD2 : Hid (Below wd.heap.size wd wd2) := hvl2.below
              have HBL2 := hide_of hbl2
              clear hvl2 hbl2
              have HD12 : Hid (Below wr.heap.size wr wd2) := HD1.out.trans (HD2.out.mono HD1.out.size)
              have HBd : Hid (Below w''.heap.size w'' wd2) := HB0.out.trans (HD12.out.mono HB0.out.size)
              have HVA : Hid (BList wd2 av2 k' ((ixL z nw ls (m2 : Int)).map (fun q => V (z q).toNat))) := vals_blist (HSV.out.below (HFU.out.below.trans (HD12.out.mono HFU.out.below.size))) HTS.out (by rw [HKL.out, HNS.out, List.length_map]) (fun q hq => ixL_mem hq) HX.out (fun i hi => (HV.out i hi).below HBd.out)
              have HVB : Hid (BList wd2 rva k' ((ixL z nw ls (m2 : Int)).map (fun q => V (z q).toNat)).reverse) := vals_blist_rev (HRV.out.below HD12.out) HTS.out (by rw [HKL.out, HNS.out, List.length_map]) (fun q hq => ixL_mem hq) HX.out (fun i hi => (HV.out i hi).below HBd.out)
              have HE1 : Hid (Calls Try.prog 18 #[.slice fva k' fvc, .slice av2 k' cv2] wd2 fun e w' => e = .returned (.bool true) ∧ Below wd2.heap.size wd2 w') := listEq_true _ _ _ _ _ _ _ ((HBL1.out.below HD2.out)) (by rw [range_map_getD ((ixL z nw ls (m2 : Int)).map (fun q => V (z q).toNat)) [] (by rw [List.length_map]; exact by rw [HKL.out, HNS.out, List.length_map])]; exact HVA.out) (by omega)
              go_wp2_with (go_at_call 18; fail)
              refine HE1.out.mono ?_
              rintro e we ⟨rfl, hwe⟩
              have HEW := hide_of hwe
              clear hwe
              have HE2 : Hid (Calls Try.prog 18 #[.slice bva k' bvc, .slice rva k' rvc] we fun e w' => e = .returned (.bool true) ∧ Below we.heap.size we w') := listEq_true _ _ _ _ _ _ _ ((HBL2.out.below HEW.out)) (by rw [range_map_getD ((ixL z nw ls (m2 : Int)).map (fun q => V (z q).toNat)).reverse [] (by rw [List.length_reverse, List.length_map]; exact by rw [HKL.out, HNS.out, List.length_map])]; exact HVB.out.below HEW.out) (by omega)
              go_wp2_with (go_at_call 18; fail)
              refine HE2.out.mono ?_
              rintro e wg ⟨rfl, hwg⟩
              have HGW := hide_of hwg
              clear hwg
              go_wp2
              go_ret
              exact ⟨rfl, HBd.out.trans ((HEW.out.trans (HGW.out.mono HEW.out.size)).mono HBd.out.size)⟩
        | false =>
          have HIX : Hid (ixL z nw ls rs = []) := by show _ = _; unfold ixL; rw [← HBL.out, ← HBN.out]; simp
          go_wp2
          have hix : ixL z nw ls rs = [] := HIX.out
          have HFX : Hid ((Fst text.data.toList (slots2 ls rs) z W V 2).1 = text.data.toList ++ fail7 ++ segs (fun _ => ⟨#[]⟩) (fun _ => []) 0) := by show _ = _; rw [fwd_law text.data.toList z W V nw ls rs (by omega) (by omega), hix]; rfl
          have HFY : Hid ((Fst text.data.toList (slots2 rs ls) z W V 2).1 = text.data.toList ++ fail7 ++ segs (fun _ => ⟨#[]⟩) (fun _ => []) 0) := by show _ = _; rw [fwd_law text.data.toList z W V nw rs ls (by omega) (by omega), ixL_rev z nw ls rs, hix]; rfl
          clear hix HIX
          go_loopw [26, 27, 28] (fun rn rv i wr => rn = .slice none 0 0 ∧ rv = .slice none 0 0 ∧ i = .int .i64 (-1) ∧ wr = wN) (fun _ _ _ _ => 0)
          case atStart => exact ⟨rfl, rfl, rfl, rfl⟩
          case round =>
            obtain ⟨rfl, rfl, rfl, rfl⟩ := hrel
            go_wp2_with fail
            refine (decode_yes fa none fn fc 0 0 text (fun _ => ⟨#[]⟩) (fun _ => []) _ wr HFB9.out (fun h => absurd h (Nat.lt_irrefl 0)) HFX.out (by omega) (by omega)).mono ?_
            rintro e wd ⟨vv1, rfl, hvl1⟩
            obtain ⟨fva, fvc, hv1e, hbl1⟩ := hvl1.result
            subst hv1e
            have HD1 : Hid (Below wr.heap.size wr wd) := hvl1.below
            have HBL1 := hide_of hbl1
            clear hvl1 hbl1
            go_wp2_with fail
            refine (decode_yes ba none bn bc 0 0 text (fun _ => ⟨#[]⟩) (fun _ => []) _ wd (HBB.out.below HD1.out) (fun h => absurd h (Nat.lt_irrefl 0)) HFY.out (by omega) (by omega)).mono ?_
            rintro e wd2 ⟨vv2, rfl, hvl2⟩
            obtain ⟨bva, bvc, hv2e, hbl2⟩ := hvl2.result
            subst hv2e
            have HD2 : Hid (Below wd.heap.size wd wd2) := hvl2.below
            have HBL2 := hide_of hbl2
            clear hvl2 hbl2
            have HD12 : Hid (Below wr.heap.size wr wd2) := HD1.out.trans (HD2.out.mono HD1.out.size)
            have HBd : Hid (Below w''.heap.size w'' wd2) := HB9.out.trans (HD12.out.mono HB9.out.size)
            have HNIL : Hid (∀ w', BList w' none 0 []) := fun w' => ⟨rfl, fun _ => none, fun _ => 0, fun _ => 0, fun h => absurd h (Nat.lt_irrefl 0), fun i hi => absurd hi (Nat.not_lt_zero _)⟩
            go_wp2_with (go_at_call 18; fail)
            refine (listEq_true _ _ _ _ _ _ _ ((HBL1.out.below HD2.out)) (HNIL.out _) (by omega)).mono ?_
            rintro e we ⟨rfl, hwe⟩
            have HEW := hide_of hwe
            clear hwe
            go_wp2_with (go_at_call 18; fail)
            refine (listEq_true _ _ _ _ _ _ _ ((HBL2.out.below HEW.out)) (HNIL.out _) (by omega)).mono ?_
            rintro e wg ⟨rfl, hwg⟩
            have HGW := hide_of hwg
            clear hwg
            go_wp2
            go_ret
            exact ⟨rfl, HBd.out.trans ((HEW.out.trans (HGW.out.mono HEW.out.size)).mono HBd.out.size)⟩
end Go.Proofs.Qxb6616563a
