/-
  Operands as they lie in memory, and the small methods on them.
-/
import Derived.Test.Qxb6616563aCmp
namespace Go.Proofs.Qxb6616563a
open Go.RowKit

structure Ctx where
  pb : Nat
  bf : Option Addr
  nf : Nat
  cf : Nat
  z : Nat → Int
  av : Option Addr
  nv : Nat
  cv : Nat
  A : Nat → Option Addr
  L : Nat → Nat
  C : Nat → Nat
  V : Nat → List UInt8

structure CtxIn (c : Ctx) (w : World) : Prop where
  p1 : w.cell? ⟨c.pb, 1, none⟩ = some (.slice c.bf c.nf c.cf)
  hf : Sl w c.bf c.nf (fun i => .int .i64 (c.z i))
  hv : Sl w c.av c.nv (fun i => .slice (c.A i) (c.L i) (c.C i))
  hV : ∀ i, i < c.nv → Bytes w (c.A i) (c.L i) (c.V i) ∧ c.L i ≤ c.C i ∧ c.C i ≤ 9223372036854775807 ∧ c.L i ≤ 1048576
  nf : c.nf ≤ 1048576
  nv : c.nv ≤ 1048576
  hz : ∀ j, j < c.nf → -1 ≤ c.z j ∧ c.z j < c.nv

theorem CtxIn.below {c : Ctx} {w w' : World} (h : CtxIn c w) (hb : Below w.heap.size w w') : CtxIn c w' :=
  ⟨(hb.cell (p := ⟨c.pb, 1, none⟩) (cell_lt h.p1)).trans h.p1, h.hf.below hb, h.hv.below hb, fun i hi => ⟨(h.hV i hi).1.below hb, (h.hV i hi).2⟩, h.nf, h.nv, h.hz⟩

/-- an operand's raw cells -/
structure OpE where
  k : Int
  ta : Option Addr
  tn : Nat
  tc : Nat
  np : Option Addr
  s : Int

/-- what an operand stands for -/
structure Dsc where
  k : Int
  val : List UInt8
  num : Option NumT

structure OpIn (c : Ctx) (w : World) (b o : Nat) (e : OpE) (d : Dsc) (va : Option Addr) (vn vc : Nat) : Prop where
  c0 : w.cell? ⟨b, o, none⟩ = some (.int .u8 e.k)
  c1 : w.cell? ⟨b, o + 1, none⟩ = some (.slice e.ta e.tn e.tc)
  c2 : w.cell? ⟨b, o + 2, none⟩ = some (.pointer e.np)
  c3 : w.cell? ⟨b, o + 3, none⟩ = some (.int .i64 e.s)
  hk : d.k = e.k
  k0 : 0 ≤ e.k
  k1 : e.k ≤ 6
  k2 : ¬ e.k = 1
  val : Bytes w va vn d.val
  vb : vn ≤ vc ∧ vc ≤ 9223372036854775807 ∧ vn ≤ 1048576
  res : (e.s < 0 ∧ va = e.ta ∧ vn = e.tn ∧ vc = e.tc) ∨ (∃ m : Nat, e.s = (m : Int) ∧ m < c.nf ∧ c.z m < 0 ∧ va = e.ta ∧ vn = e.tn ∧ vc = e.tc) ∨ (∃ m f : Nat, e.s = (m : Int) ∧ m < c.nf ∧ c.z m = (f : Int) ∧ f < c.nv ∧ va = c.A f ∧ vn = c.L f ∧ vc = c.C f)
  num1 : 0 ≤ e.s → d.num = numOf d.val
  num2 : e.s < 0 → (e.np = none ∧ d.num = none) ∨ ∃ q x, e.np = some ⟨q, 0, none⟩ ∧ d.num = some x ∧ NumIs w q x

theorem OpIn.below {c : Ctx} {w w' : World} {b o : Nat} {e : OpE} {d : Dsc} {va : Option Addr} {vn vc : Nat} (h : OpIn c w b o e d va vn vc) (hb : Below w.heap.size w w') : OpIn c w' b o e d va vn vc := by
  have hl := cell_lt h.c0
  refine ⟨(hb.cell (p := ⟨b, o, none⟩) hl).trans h.c0, (hb.cell (p := ⟨b, o + 1, none⟩) hl).trans h.c1, (hb.cell (p := ⟨b, o + 2, none⟩) hl).trans h.c2, (hb.cell (p := ⟨b, o + 3, none⟩) hl).trans h.c3, h.hk, h.k0, h.k1, h.k2, h.val.below hb, h.vb, h.res, h.num1, fun hs => ?_⟩
  rcases h.num2 hs with h1 | ⟨q, x, h1, h2, h3⟩
  · exact .inl h1
  · exact .inr ⟨q, x, h1, h2, h3.below hb⟩

theorem Bytes.off {w : World} {a : Option Addr} {n q : Nat} {l : List UInt8} (h : Bytes w a n l) (hq : w.heap.size ≤ q) : Off a n q := by
  intro ad ha hn
  obtain ⟨b, o, he, hc⟩ := h.2 hn
  rw [ha] at he
  cases he
  have := cell_lt (hc 0 hn)
  show b ≠ q
  omega

def fieldV (c : Ctx) (s : Int) : Int := if s < 0 then -1 else c.z s.toNat

set_option maxHeartbeats 400000 in
theorem field65 (c : Ctx) (w : World) (b o : Nat) (s : Int) (hc : CtxIn c w) (c3 : w.cell? ⟨b, o + 3, none⟩ = some (.int .i64 s)) (hs : s < c.nf) :
    Calls Try.prog 65 #[.pointer (some ⟨c.pb, 0, none⟩), .pointer (some ⟨b, o, none⟩)] w fun e w' => e = .returned (.int .i64 (fieldV c s)) ∧ ∃ k, w' = w.drewN k := by
  by_cases h : s < 0
  · have HE : Hid (fieldV c s = -1) := by show _ = _; simp [fieldV, h]
    go_enter Try.func65, Try.ntmps65
    go_wp2
    go_ret
    exact ⟨by rw [HE.out]; rfl, 0, rfl⟩
  · obtain ⟨m, rfl⟩ := Int.eq_ofNat_of_zero_le (show 0 ≤ s by omega)
    have HE : Hid (fieldV c m = c.z m) := by show _ = _; unfold fieldV; rw [if_neg h]; simp
    have hmn : m < c.nf := by omega
    obtain ⟨bb, ob, hb, hcl⟩ := hc.hf (by omega)
    have d1 : w.cell? ⟨bb, ob + m, none⟩ = some (.int .i64 (c.z m)) := hcl m hmn
    have p1 := hc.p1
    rw [hb] at p1
    have hi : (m : Int) < (c.nf : Int) := by omega
    have hnf := hc.nf
    obtain ⟨nf, hnf'⟩ : ∃ nf, nf = c.nf := ⟨_, rfl⟩
    obtain ⟨cf, hcf'⟩ : ∃ nf, nf = c.cf := ⟨_, rfl⟩
    obtain ⟨pb, hpb'⟩ : ∃ nf, nf = c.pb := ⟨_, rfl⟩
    rw [← hnf', ← hcf', ← hpb'] at p1
    rw [← hnf'] at hi hnf
    rw [← hpb']
    obtain ⟨y, hy⟩ : ∃ y, y = c.z m := ⟨_, rfl⟩
    rw [← hy] at d1 HE
    clear hnf' hcf' hpb' hb hcl hc hmn hs hy h
    go_enter Try.func65, Try.ntmps65
    go_wp2
    go_quiet (fail)
    go_wp2
    go_ret
    exact ⟨by rw [HE.out]; rfl, _, rfl⟩

set_option maxHeartbeats 400000 in
theorem value54 (c : Ctx) (w : World) (b o : Nat) (e : OpE) (d : Dsc) (va : Option Addr) (vn vc : Nat) (hc : CtxIn c w) (h : OpIn c w b o e d va vn vc) :
    Calls Try.prog 54 #[.pointer (some ⟨b, o, none⟩), .pointer (some ⟨c.pb, 0, none⟩), .slice c.av c.nv c.cv] w fun e w' => e = .returned (.slice va vn vc) ∧ ∃ k, w' = w.drewN k := by
  have c1 := h.c1
  have hsl : e.s < c.nf := by
    rcases h.res with ⟨h1, _⟩ | ⟨m, h1, h2, _⟩ | ⟨m, f, h1, h2, _⟩ <;> omega
  rcases h.res with ⟨h1, rfl, rfl, rfl⟩ | ⟨m, h1, h2, h3, rfl, rfl, rfl⟩ | ⟨m, f, h1, h2, h3, h4, rfl, rfl, rfl⟩
  · have hv : fieldV c e.s = -1 := by unfold fieldV; rw [if_pos h1]
    have HF := field65 c w b o e.s hc h.c3 hsl
    rw [hv] at HF
    have HFH : Hid (Calls Try.prog 65 #[.pointer (some ⟨c.pb, 0, none⟩), .pointer (some ⟨b, o, none⟩)] w fun e w' => e = .returned (.int .i64 (-1)) ∧ ∃ k, w' = w.drewN k) := HF
    clear HF hv h1 hc h hsl
    go_enter Try.func54, Try.ntmps54
    go_wp2_with fail
    refine HFH.out.mono ?_
    rintro e w1 ⟨rfl, k, rfl⟩
    go_wp2
    go_ret
    exact ⟨rfl, _, rfl⟩
  · have hv : fieldV c e.s = c.z m := by unfold fieldV; rw [if_neg (by omega), h1]; simp
    have HF := field65 c w b o e.s hc h.c3 hsl
    rw [hv] at HF
    obtain ⟨y, hy⟩ : ∃ y, y = c.z m := ⟨_, rfl⟩
    rw [← hy] at HF h3
    have HFH : Hid (Calls Try.prog 65 #[.pointer (some ⟨c.pb, 0, none⟩), .pointer (some ⟨b, o, none⟩)] w fun e w' => e = .returned (.int .i64 y) ∧ ∃ k, w' = w.drewN k) := HF
    clear HF hv h1 hc h hsl hy
    go_enter Try.func54, Try.ntmps54
    go_wp2_with fail
    refine HFH.out.mono ?_
    rintro e w1 ⟨rfl, k, rfl⟩
    go_wp2
    go_ret
    exact ⟨rfl, _, rfl⟩
  · have hv : fieldV c e.s = (f : Int) := by unfold fieldV; rw [if_neg (by omega), h1]; simp [h3]
    have HF := field65 c w b o e.s hc h.c3 hsl
    rw [hv] at HF
    have HFH : Hid (Calls Try.prog 65 #[.pointer (some ⟨c.pb, 0, none⟩), .pointer (some ⟨b, o, none⟩)] w fun e w' => e = .returned (.int .i64 (f : Int)) ∧ ∃ k, w' = w.drewN k) := HF
    obtain ⟨bv, ov, hav, hcv⟩ := hc.hv (by omega)
    have d1 : w.cell? ⟨bv, ov + f, none⟩ = some (.slice (c.A f) (c.L f) (c.C f)) := hcv f h4
    have hnv := hc.nv
    rw [hav]
    obtain ⟨nv, hnv'⟩ : ∃ nv, nv = c.nv := ⟨_, rfl⟩
    rw [← hnv'] at h4 hnv
    rw [← hnv']
    clear HF hv h1 hc h hsl hnv' hav hcv c1 h2 h3
    go_enter Try.func54, Try.ntmps54
    go_wp2_with fail
    refine HFH.out.mono ?_
    rintro e w1 ⟨rfl, k, rfl⟩
    go_wp2
    go_ret
    exact ⟨rfl, _, rfl⟩

/-- what readNumber leaves: block q holds the number, or there is none -/
def ReadPost (nm : Option NumT) (q : Nat) (w : World) (e : Ending) (w' : World) : Prop :=
  (nm = none ∧ e = .returned (.bool false) ∧ Only q w w') ∨ ∃ x, nm = some x ∧ e = .returned (.bool true) ∧ Only q w w' ∧ NumIs w' q x

set_option maxHeartbeats 400000 in
theorem readNumber55 (c : Ctx) (w0 w : World) (b o q : Nat) (e : OpE) (d : Dsc) (va : Option Addr) (vn vc : Nat) (h0 : OpIn c w0 b o e d va vn vc) (hbel : Below w0.heap.size w0 w) (hq : NumSpot w q) (hwq : w0.heap.size ≤ q) :
    Calls Try.prog 55 #[.pointer (some ⟨b, o, none⟩), .slice va vn vc, .pointer (some ⟨q, 0, none⟩)] w fun e w' => ReadPost d.num q w e w' := by
  have h := h0.below hbel
  have c2 := h.c2
  have c3 := h.c3
  have hne : b ≠ q := by have := cell_lt h0.c0; omega
  by_cases hs : 0 ≤ e.s
  · have HN : Hid (d.num = numOf d.val) := h.num1 hs
    have HR := read38 q va vn vc d.val w h.val h.vb.1 (by have := h.vb.2.2; omega) h.vb.2.1 hq
    have HRH : Hid (Calls Try.prog 38 #[.pointer (some ⟨q, 0, none⟩), .slice va vn vc] w fun e w' =>
      (numOf d.val = none ∧ e = .returned (.bool false) ∧ w' = w) ∨ ∃ x, numOf d.val = some x ∧ e = .returned (.bool true) ∧ Only q w w' ∧ NumIs w' q x) := HR
    obtain ⟨s, hss⟩ : ∃ s, s = e.s := ⟨_, rfl⟩
    rw [← hss] at c3 hs
    clear HR h h0 hss
    go_enter Try.func55, Try.ntmps55
    go_wp2_with fail
    refine HRH.out.mono ?_
    rintro e w1 (⟨h1, rfl, rfl⟩ | ⟨x, h1, rfl, h2, h3⟩)
    · have HX : Hid (d.num = none) := by show _ = _; rw [HN.out]; exact h1
      clear h1
      go_wp2
      go_ret
      exact .inl ⟨HX.out, rfl, Only.refl _ _⟩
    · have HX : Hid (d.num = some x) := by show _ = _; rw [HN.out]; exact h1
      have HO : Hid (Only q w w1 ∧ NumIs w1 q x) := ⟨h2, h3⟩
      clear h1 h2 h3
      go_wp2
      go_ret
      exact .inr ⟨x, HX.out, rfl, HO.out.1, HO.out.2⟩
  · rcases h.num2 (by omega) with ⟨h1, h2⟩ | ⟨qn, x, h1, h2, h3⟩
    · have HX : Hid (d.num = none) := h2
      rw [h1] at c2
      obtain ⟨s, hss⟩ : ∃ s, s = e.s := ⟨_, rfl⟩
      rw [← hss] at c3 hs
      clear h1 h2 h h0 hss
      go_enter Try.func55, Try.ntmps55
      go_wp2
      go_ret
      exact .inl ⟨HX.out, rfl, Only.refl _ _⟩
    · have HX : Hid (d.num = some x) := h2
      rw [h1] at c2
      obtain ⟨x0, wa, fa, wn, wc, fn, fc, x1, bx1, nx1, x2, bx2, nx2⟩ := h3
      have hnq : qn ≠ q := by
        rcases h0.num2 (by omega) with ⟨g1, _⟩ | ⟨qn', _, g1, _, g3⟩
        · rw [h1] at g1; cases g1
        · rw [h1] at g1
          cases g1
          have := cell_lt g3.c0
          omega
      have HO : Hid (∀ w', Only q w w' → Bytes w' wa wn x.2.1 ∧ Bytes w' fa fn x.2.2) := by
        intro w' ho
        rcases h0.num2 (by omega) with ⟨g1, _⟩ | ⟨qn', x', g1, g2, g3⟩
        · rw [h1] at g1; cases g1
        · rw [h1] at g1
          cases g1
          have e1 : x' = x := by rw [h2] at g2; exact (Option.some.inj g2).symm
          subst e1
          obtain ⟨_, wa', fa', wn', wc', fn', fc', y1, y2, _, y3, y4, _⟩ := g3
          have z1 := (hbel.cell (p := ⟨qn, 1, none⟩) (cell_lt y1)).trans y1
          have z2 := (hbel.cell (p := ⟨qn, 2, none⟩) (cell_lt y1)).trans y3
          rw [x1] at z1
          rw [x2] at z2
          simp only [Option.some.injEq, Value.slice.injEq] at z1 z2
          obtain ⟨rfl, rfl, rfl⟩ := z1
          obtain ⟨rfl, rfl, rfl⟩ := z2
          exact ⟨cut_off bx1 (y2.off hwq) ho, cut_off bx2 (y4.off hwq) ho⟩
      obtain ⟨s, hss⟩ : ∃ s, s = e.s := ⟨_, rfl⟩
      rw [← hss] at c3 hs
      obtain ⟨v0, q0, _⟩ := hq.c0
      obtain ⟨v1, q1, _⟩ := hq.c1
      obtain ⟨v2, q2, _⟩ := hq.c2
      have f0 := hq.f 0
      have f1 := hq.f 1
      have f2 := hq.f 2
      obtain ⟨xn, xw, xf⟩ := x
      simp only at x0
      have HQL : Hid (q < w.heap.size) := cell_lt q0
      clear h1 h2 h h0 hss bx1 bx2
      go_enter Try.func55, Try.ntmps55
      go_wp2
      go_ret
      refine .inr ⟨_, HX.out, rfl, (((Only.refl q w).setCell 0 _).setCell 1 _).setCell 2 _, ?_, wa, fa, wn, wc, fn, fc, ?_, (HO.out _ ((((Only.refl q w).setCell 0 _).setCell 1 _).setCell 2 _)).1, nx1, ?_, (HO.out _ ((((Only.refl q w).setCell 0 _).setCell 1 _).setCell 2 _)).2, nx2⟩
      all_goals go_simp

def zeroN (x : NumT) : Bool := x.2.1.isEmpty && x.2.2.isEmpty

theorem zero41 (w : World) (q : Nat) (x : NumT) (h : NumIs w q x) : Calls Try.prog 41 #[.pointer (some ⟨q, 0, none⟩)] w fun e w' => e = .returned (.bool (zeroN x)) ∧ w' = w := by
  obtain ⟨x0, wa, fa, wn, wc, fn, fc, x1, bx1, nx1, x2, bx2, nx2⟩ := h
  have l1 := bx1.1
  have l2 := bx2.1
  by_cases h1 : wn = 0
  · by_cases h2 : fn = 0
    · have HE : Hid (zeroN x = true) := by
        show _ = _
        have e1 : x.2.1 = [] := List.length_eq_zero_iff.1 (by omega)
        have e2 : x.2.2 = [] := List.length_eq_zero_iff.1 (by omega)
        simp [zeroN, e1, e2]
      subst h1
      subst h2
      clear l1 l2 bx1 bx2 x0
      go_enter Try.func41, Try.ntmps41
      go_wp2
      go_ret
      exact ⟨by rw [HE.out]; rfl, rfl⟩
    · have HE : Hid (zeroN x = false) := by
        show _ = _
        have e2 : x.2.2.isEmpty = false := by cases hx : x.2.2 with | nil => rw [hx] at l2; simp at l2; omega | cons a t => rfl
        simp [zeroN, e2]
      subst h1
      have h2' : ((fn : Int) == 0) = false := by simp; omega
      clear l1 l2 bx1 bx2 x0 h2
      go_enter Try.func41, Try.ntmps41
      go_wp2
      go_ret
      exact ⟨by rw [HE.out]; rfl, rfl⟩
  · have HE : Hid (zeroN x = false) := by
      show _ = _
      have e2 : x.2.1.isEmpty = false := by cases hx : x.2.1 with | nil => rw [hx] at l1; simp at l1; omega | cons a t => rfl
      simp [zeroN, e2]
    have h2' : ((wn : Int) == 0) = false := by simp; omega
    clear l1 l2 bx1 bx2 x0 h1
    go_enter Try.func41, Try.ntmps41
    go_wp2
    go_ret
    exact ⟨by rw [HE.out]; rfl, rfl⟩

theorem run_conv {w : World} {a : Option Addr} {n c : Nat} {l : List UInt8} (h : Bytes w a n l) : (convert 32 9 (.slice a n c)).run Try.prog w = .ok (.string ⟨l.toArray⟩) w := by
  rcases Nat.eq_zero_or_pos n with h0 | h0
  · subst h0
    have := bytes_nil h
    subst this
    cases a with
    | none => exact run_convert_bytes_nil w 32 5 Try.underlying32 Try.underlying5 0 c 9 Try.underlying9
    | some ad => rw [run_convert_bytes_string w 32 9 5 _ 0 c Try.underlying32 Try.underlying5 Try.underlying9]; rfl
  · obtain ⟨b, o, rfl, hc⟩ := h.2 h0
    rw [run_convert_bytes_arg w 32 5 Try.underlying32 Try.underlying5 b o n c (l.map (fun b => (b.toNat : Int))) (by simp [h.1]) (fun i hi => by
      rw [hc i hi]
      have hl : i < l.length := by have := h.1; omega
      show some (Value.int .u8 (byteAt l i)) = _
      rw [byteAt_get hl]
      simp [List.getD_eq_getElem?_getD, hl]) 9 Try.underlying9]
    congr 2
    apply ByteArray.ext
    unfold strOfNums
    rw [List.map_map]
    have : l.map ((fun n : Int => UInt8.ofNat n.toNat) ∘ fun b => (b.toNat : Int)) = l := by
      conv => rhs; rw [← List.map_id l]
      refine List.map_congr_left fun b _ => ?_
      simp
    rw [this]

theorem equal56 (a b : Option Addr) (n m c d : Nat) (la lb : List UInt8) (w : World) (ha : Bytes w a n la) (hb : Bytes w b m lb) :
    Calls Try.prog 56 #[.slice a n c, .slice b m d] w fun e w' => e = .returned (.bool (eqB la lb)) ∧ w' = w := by
  have r1 := run_conv (c := c) ha
  have r2 := run_conv (c := d) hb
  go_enter Try.func56, Try.ntmps56
  go_wp2
  go_ret
  exact ⟨rfl, rfl⟩
end Go.Proofs.Qxb6616563a
