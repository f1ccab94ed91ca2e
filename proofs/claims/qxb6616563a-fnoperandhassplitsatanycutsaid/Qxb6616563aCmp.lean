import Derived.Test.Qxb6616563aRead
import Derived.Test.Qxb6616563aLeaf1
import Derived.Lib.BytesEntry
import Derived.Laws.BytesArg
import Derived.Laws.Externs
namespace Go.Proofs.Qxb6616563a
open Go.RowKit

theorem Sl.add {w : World} {b o n : Nat} {f : Nat → Value} (h : Sl w (some ⟨b, o, none⟩) n f) : ∀ i, i < n → w.cell? ((⟨b, o, none⟩ : Addr).add i) = some (f i) := by
  intro i hi
  obtain ⟨b', o', he, hc⟩ := h (by omega)
  cases he
  have hplain : (⟨b, o, none⟩ : Addr).add i = ⟨b, o + i, none⟩ := by unfold Addr.add; split <;> simp_all
  rw [hplain]
  exact hc i hi

theorem bytes_nil {w : World} {a : Option Addr} {l : List UInt8} (h : Bytes w a 0 l) : l = [] := List.length_eq_zero_iff.1 h.1

theorem run_bytesOf {P : Program} {w : World} {a : Option Addr} {n c : Nat} {l : List UInt8} (h : Bytes w a n l) : (Extern.Bytes.bytesOf (.slice a n c)).run P w = .ok ⟨l.toArray⟩ w := by
  rcases Nat.eq_zero_or_pos n with h0 | h0
  · subst h0
    have := bytes_nil h
    subst this
    cases a with
    | none => rfl
    | some ad => rfl
  · obtain ⟨b, o, rfl, _⟩ := h.2 h0
    show (Extern.Bytes.loadBytes ⟨b, o, none⟩ n .empty).run P w = _
    have := Lib.run_loadBytesX (P := P) w (l.map (fun b => (b.toNat : Int))) ⟨b, o, none⟩ .empty (fun j x hj => by
      have hjl : j < l.length := by
        rcases Nat.lt_or_ge j l.length with h1 | h1
        · exact h1
        · rw [List.getElem?_eq_none (by simpa using h1)] at hj; cases hj
      rw [h.2.add j (by have := h.1; omega), byteAt_get hjl]
      rw [List.getElem?_map, List.getElem?_eq_getElem hjl] at hj
      cases hj
      rfl)
    rw [List.length_map, h.1] at this
    rw [this]
    congr 1
    apply ByteArray.ext
    have e : Lib.bytesOf (l.map (fun b => (b.toNat : Int))) = l := by
      unfold Lib.bytesOf
      rw [List.map_map]
      conv => rhs; rw [← List.map_id l]
      refine List.map_congr_left fun b _ => ?_
      simp
    rw [e]
    have h1 : ByteArray.empty.data = #[] := rfl
    rw [h1]
    simp

theorem cmp_self (a : List UInt8) : Extern.BytealgCompare.cmp ⟨a.toArray⟩ ⟨a.toArray⟩ = 0 := by
  unfold Extern.BytealgCompare.cmp
  have h : (List.range (min (⟨a.toArray⟩ : ByteArray).size (⟨a.toArray⟩ : ByteArray).size)).find? (fun i => (⟨a.toArray⟩ : ByteArray)[i]! != (⟨a.toArray⟩ : ByteArray)[i]!) = none := by
    rw [List.find?_eq_none]
    intro x _
    simp
  rw [h]
  simp

theorem get_bang (a : List UInt8) (i : Nat) (h : i < a.length) : (⟨a.toArray⟩ : ByteArray)[i]! = a[i] := by
  have h2 : i < (⟨a.toArray⟩ : ByteArray).size := by simpa [ByteArray.size] using h
  rw [getElem!_pos (⟨a.toArray⟩ : ByteArray) i h2]
  rfl

theorem cmp_ne (a b : List UInt8) (h : Extern.BytealgCompare.cmp ⟨a.toArray⟩ ⟨b.toArray⟩ = 0) : a = b := by
  unfold Extern.BytealgCompare.cmp at h
  have sa : (⟨a.toArray⟩ : ByteArray).size = a.length := by simp [ByteArray.size]
  have sb : (⟨b.toArray⟩ : ByteArray).size = b.length := by simp [ByteArray.size]
  rw [sa, sb] at h
  cases hf : (List.range (min a.length b.length)).find? (fun i => (⟨a.toArray⟩ : ByteArray)[i]! != (⟨b.toArray⟩ : ByteArray)[i]!) with
  | some i => rw [hf] at h; simp only at h; split at h <;> omega
  | none =>
    rw [hf] at h
    simp only at h
    rw [List.find?_eq_none] at hf
    have hl : a.length = b.length := by
      split at h
      · omega
      · split at h <;> omega
    refine List.ext_getElem hl fun i h1 h2 => ?_
    have := hf i (by rw [List.mem_range]; omega)
    rw [get_bang a i h1, get_bang b i h2] at this
    simpa using this

theorem cmp_zero (a b : List UInt8) : (Extern.BytealgCompare.cmp ⟨a.toArray⟩ ⟨b.toArray⟩ == 0) = eqB a b := by
  unfold eqB
  by_cases h : a = b
  · subst h
    rw [cmp_self]
    simp
  · have h1 : (a == b) = false := by simp [h]
    rw [h1]
    rw [beq_eq_false_iff_ne]
    exact fun h2 => h (cmp_ne a b h2)

theorem run_compare {P : Program} {w : World} {a b : Option Addr} {n m c d : Nat} {la lb : List UInt8} (ha : Bytes w a n la) (hb : Bytes w b m lb) :
    (Extern.BytealgCompare.compare #[.slice a n c, .slice b m d]).run P w = .ok (.int .i64 (Extern.BytealgCompare.cmp ⟨la.toArray⟩ ⟨lb.toArray⟩)) w := by
  show ((Extern.Bytes.bytesOf (.slice a n c)) >>= fun x => (Extern.Bytes.bytesOf (.slice b m d)) >>= fun y => pure (goInt (Extern.BytealgCompare.cmp x y))).run P w = _
  simp only [Sem.run_bind, run_bytesOf ha, run_bytesOf hb, Result.andThen, Sem.run_pure]
  rfl

/-- what bytes.Compare gives -/
def cmpB (a b : List UInt8) : Int := Extern.BytealgCompare.cmp ⟨a.toArray⟩ ⟨b.toArray⟩
theorem cmpB_bd (a b : List UInt8) : -1 ≤ cmpB a b ∧ cmpB a b ≤ 1 := by
  unfold cmpB Extern.BytealgCompare.cmp
  split
  · split <;> omega
  · split
    · omega
    · split <;> omega
theorem cmpB_zero (a b : List UInt8) : (cmpB a b == 0) = eqB a b := cmp_zero a b

theorem compare48 (a b : Option Addr) (n m c d : Nat) (la lb : List UInt8) (w : World) (ha : Bytes w a n la) (hb : Bytes w b m lb) :
    Calls Try.prog 48 #[.slice a n c, .slice b m d] w fun e w' => e = .returned (.int .i64 (cmpB la lb)) ∧ w' = w := by
  have hrun : (callFunc 60 #[.slice a n c, .slice b m d]).run Try.prog w = .ok (.value (.int .i64 (cmpB la lb))) w := by
    rw [run_callFunc_extern Try.func60 (by kernel_rfl) (by kernel_rfl) (by kernel_rfl) (e := Extern.BytealgCompare.compare) (by kernel_rfl), run_compare ha hb]
    rfl
  go_enter Try.func48, Try.ntmps48
  go_wp2
  go_ret
  exact ⟨rfl, rfl⟩

theorem nan59 (x : Int) (w : World) : Calls Try.prog 59 #[.int .i64 x] w fun e w' => e = .returned (.bool false) ∧ w' = w := by
  go_enter Try.func59, Try.ntmps59
  go_wp2
  go_ret
  exact ⟨by simp, rfl⟩

def ordI (x y : Int) : Int := if x < y then -1 else if y < x then 1 else 0
theorem ordI_bd (x y : Int) : -1 ≤ ordI x y ∧ ordI x y ≤ 1 := by
  unfold ordI
  split
  · omega
  · split <;> omega
theorem ordI_zero (x y : Int) : (ordI x y == 0) = (x == y) := by
  unfold ordI
  by_cases h1 : x < y
  · have : ¬ x = y := by omega
    simp [h1, this]
  · by_cases h2 : y < x
    · have : ¬ x = y := by omega
      simp [h1, h2, this]
    · have : x = y := by omega
      simp [this]

theorem cmp47 (x y : Int) (w : World) : Calls Try.prog 47 #[.int .i64 x, .int .i64 y] w fun e w' => e = .returned (.int .i64 (ordI x y)) ∧ w' = w := by
  rcases Int.lt_trichotomy x y with h | h | h
  · have HE : Hid (ordI x y = -1) := by show _ = _; simp [ordI, h]
    go_enter Try.func47, Try.ntmps47
    go_wp2_with (go_at_call 59; refine (nan59 _ _).mono ?_; rintro e w' ⟨rfl, rfl⟩)
    go_ret
    exact ⟨by rw [HE.out]; rfl, rfl⟩
  · subst h
    have HE : Hid (ordI x x = 0) := by show _ = _; simp [ordI]
    go_enter Try.func47, Try.ntmps47
    go_wp2_with (go_at_call 59; refine (nan59 _ _).mono ?_; rintro e w' ⟨rfl, rfl⟩)
    go_ret
    exact ⟨by rw [HE.out]; rfl, rfl⟩
  · have HE : Hid (ordI x y = 1) := by show _ = _; have h2 : ¬ x < y := (by omega); simp [ordI, h, h2]
    go_enter Try.func47, Try.ntmps47
    go_wp2_with (go_at_call 59; refine (nan59 _ _).mono ?_; rintro e w' ⟨rfl, rfl⟩)
    go_ret
    exact ⟨by rw [HE.out]; rfl, rfl⟩

def cmp0 (x y : NumT) : Bool := (x.1 == y.1) && (eqB x.2.1 y.2.1 && eqB x.2.2 y.2.2)
theorem cmp0_self (x : NumT) : cmp0 x x = true := by simp [cmp0, eqB]

theorem Bytes.drawn {w wr : World} {a : Option Addr} {n : Nat} {l : List UInt8} (h : Bytes w a n l) (hq : ∃ q, wr = w.drewN q) : Bytes wr a n l := ⟨h.1, h.2.drawn hq⟩

theorem neg_zero (r : Int) : (-r == 0) = (r == 0) := by
  by_cases h : r = 0
  · simp [h]
  · have h2 : ¬ -r = 0 := by omega
    rw [beq_eq_false_iff_ne.2 h, beq_eq_false_iff_ne.2 h2]

structure Six (w : World) (q1 q2 : Nat) (a b : Bool) (v1 v2 u1 u2 : Value) : Prop where
  x0 : w.cell? ⟨q1, 0, none⟩ = some (.bool a)
  x1 : w.cell? ⟨q1, 1, none⟩ = some v1
  x2 : w.cell? ⟨q1, 2, none⟩ = some v2
  y0 : w.cell? ⟨q2, 0, none⟩ = some (.bool b)
  y1 : w.cell? ⟨q2, 1, none⟩ = some u1
  y2 : w.cell? ⟨q2, 2, none⟩ = some u2
theorem Six.drawn {w wr : World} {q1 q2 : Nat} {a b : Bool} {v1 v2 u1 u2 : Value} (h : Six w q1 q2 a b v1 v2 u1 u2) (hq : ∃ q, wr = w.drewN q) : Six wr q1 q2 a b v1 v2 u1 u2 := by
  obtain ⟨q, rfl⟩ := hq
  exact ⟨h.x0, h.x1, h.x2, h.y0, h.y1, h.y2⟩

set_option maxHeartbeats 1000000 in
theorem compare42 (q1 q2 : Nat) (x y : NumT) (w : World) (hx : NumIs w q1 x) (hy : NumIs w q2 y) :
    Calls Try.prog 42 #[.pointer (some ⟨q1, 0, none⟩), .pointer (some ⟨q2, 0, none⟩)] w fun e w' => ∃ r : Int, e = .returned (.int .i64 r) ∧ (r == 0) = cmp0 x y ∧ ∃ k, w' = w.drewN k := by
  obtain ⟨x0, wa, fa, wn, wc, fn, fc, x1, bx1, nx1, x2, bx2, nx2⟩ := hx
  obtain ⟨y0, wb, fb, wm, wd, fm, fd, y1, by1, ny1, y2, by2, ny2⟩ := hy
  obtain ⟨xn, xw, xf⟩ := x
  obtain ⟨yn, yw, yf⟩ := y
  have HX1 : Hid (Bytes w wa wn xw) := bx1
  have HX2 : Hid (Bytes w fa fn xf) := bx2
  have HY1 : Hid (Bytes w wb wm yw) := by1
  have HY2 : Hid (Bytes w fb fm yf) := by2
  simp only at x0 y0
  clear bx1 bx2 by1 by2
  have HSIX : Hid (Six w q1 q2 xn yn (.slice wa wn wc) (.slice fa fn fc) (.slice wb wm wd) (.slice fb fm fd)) := ⟨x0, x1, x2, y0, y1, y2⟩
  have KB : Hid (∀ (n : Bool), cmp0 (n, xw, xf) (n, yw, yf) = (eqB xw yw && eqB xf yf)) := fun n => by simp [cmp0]
  have HC1 : Hid (∀ W, Calls Try.prog 47 #[.int .i64 (wn : Int), .int .i64 (wm : Int)] W fun e w' => e = .returned (.int .i64 (ordI wn wm)) ∧ w' = W) := fun W => cmp47 _ _ W
  have HC2 : Hid (∀ W, (∃ q, W = w.drewN q) → Calls Try.prog 48 #[.slice wa wn wc, .slice wb wm wd] W fun e w' => e = .returned (.int .i64 (cmpB xw yw)) ∧ w' = W) := fun W hW => compare48 _ _ _ _ _ _ _ _ W (HX1.out.drawn hW) (HY1.out.drawn hW)
  have HC3 : Hid (∀ W, (∃ q, W = w.drewN q) → Calls Try.prog 48 #[.slice fa fn fc, .slice fb fm fd] W fun e w' => e = .returned (.int .i64 (cmpB xf yf)) ∧ w' = W) := fun W hW => compare48 _ _ _ _ _ _ _ _ W (HX2.out.drawn hW) (HY2.out.drawn hW)
  cases xn with
  | true =>
    cases yn with
    | false =>
      have HZ : Hid (cmp0 (true, xw, xf) (false, yw, yf) = false) := by show _ = _; simp [cmp0]
      go_enter Try.func42, Try.ntmps42
      go_wp2
      go_quiet (fail)
      generalize hW : World.drewN w nq = W1
      have HWW1 : Hid (∃ q, W1 = w.drewN q) := by show ∃ q, _; rw [← hW]; exact ⟨_, rfl⟩
      obtain ⟨x0W1, x1W1, x2W1, y0W1, y1W1, y2W1⟩ := HSIX.out.drawn HWW1.out
      clear hW
      go_wp2
      go_ret
      exact ⟨-1, rfl, by rw [HZ.out]; rfl, HWW1.out⟩
    | true =>
      have HK := KB.out true
      by_cases hw : wn = wm
      · subst hw
        have ho : ordI wn wn = 0 := by unfold ordI; simp
        rw [ho] at HC1
        cases he : eqB xw yw with
        | false =>
          have HZ : Hid (cmp0 (true, xw, xf) (true, yw, yf) = false) := by show _ = _; rw [HK, he]; rfl
          obtain ⟨r, hr⟩ : ∃ r, r = cmpB xw yw := ⟨_, rfl⟩
          have hr0 : (r == 0) = false := by rw [hr, cmpB_zero, he]
          have hrb : -1 ≤ r ∧ r ≤ 1 := by rw [hr]; exact cmpB_bd _ _
          rw [← hr] at HC2
          have r1 := hrb.1
          have r2 := hrb.2
          clear hr hrb ho HK he
          go_enter Try.func42, Try.ntmps42
          go_wp2
          go_quiet (fail)
          generalize hW : World.drewN w nq = W1
          have HWW1 : Hid (∃ q, W1 = w.drewN q) := by show ∃ q, _; rw [← hW]; exact ⟨_, rfl⟩
          obtain ⟨x0W1, x1W1, x2W1, y0W1, y1W1, y2W1⟩ := HSIX.out.drawn HWW1.out
          clear hW
          go_wp2
          go_quiet ((go_at_call 47; exact Calls.quiet_of_same (HC1.out _)))
          generalize hW : World.drewN W1 nq = W2
          have HWW2 : Hid (∃ q, W2 = w.drewN q) := by show ∃ q, _; rw [← hW]; exact drew_more HWW1.out
          obtain ⟨x0W2, x1W2, x2W2, y0W2, y1W2, y2W2⟩ := HSIX.out.drawn HWW2.out
          clear hW
          go_wp2
          go_quiet ((go_at_call 48; exact Calls.quiet_of_same (HC2.out _ (drew_more HWW2.out))))
          generalize hW : World.drewN W2 nq = W3
          have HWW3 : Hid (∃ q, W3 = w.drewN q) := by show ∃ q, _; rw [← hW]; exact drew_more HWW2.out
          obtain ⟨x0W3, x1W3, x2W3, y0W3, y1W3, y2W3⟩ := HSIX.out.drawn HWW3.out
          clear hW
          go_wp2
          go_ret
          exact ⟨-r, rfl, by rw [HZ.out]; rw [neg_zero]; exact hr0, HWW3.out⟩
        | true =>
          have HZ : Hid (cmp0 (true, xw, xf) (true, yw, yf) = eqB xf yf) := by show _ = _; rw [HK, he]; rfl
          have hc2 : cmpB xw yw = 0 := by have := cmpB_zero xw yw; rw [he] at this; simpa using this
          rw [hc2] at HC2
          obtain ⟨r, hr⟩ : ∃ r, r = cmpB xf yf := ⟨_, rfl⟩
          have HR0 : Hid ((r == 0) = eqB xf yf) := by show _ = _; rw [hr, cmpB_zero]
          have hrb : -1 ≤ r ∧ r ≤ 1 := by rw [hr]; exact cmpB_bd _ _
          rw [← hr] at HC3
          have r1 := hrb.1
          have r2 := hrb.2
          clear hr hrb ho HK he hc2
          go_enter Try.func42, Try.ntmps42
          go_wp2
          go_quiet (fail)
          generalize hW : World.drewN w nq = W1
          have HWW1 : Hid (∃ q, W1 = w.drewN q) := by show ∃ q, _; rw [← hW]; exact ⟨_, rfl⟩
          obtain ⟨x0W1, x1W1, x2W1, y0W1, y1W1, y2W1⟩ := HSIX.out.drawn HWW1.out
          clear hW
          go_wp2
          go_quiet ((go_at_call 47; exact Calls.quiet_of_same (HC1.out _)))
          generalize hW : World.drewN W1 nq = W2
          have HWW2 : Hid (∃ q, W2 = w.drewN q) := by show ∃ q, _; rw [← hW]; exact drew_more HWW1.out
          obtain ⟨x0W2, x1W2, x2W2, y0W2, y1W2, y2W2⟩ := HSIX.out.drawn HWW2.out
          clear hW
          go_wp2
          go_quiet ((go_at_call 48; exact Calls.quiet_of_same (HC2.out _ (drew_more HWW2.out))))
          generalize hW : World.drewN W2 nq = W3
          have HWW3 : Hid (∃ q, W3 = w.drewN q) := by show ∃ q, _; rw [← hW]; exact drew_more HWW2.out
          obtain ⟨x0W3, x1W3, x2W3, y0W3, y1W3, y2W3⟩ := HSIX.out.drawn HWW3.out
          clear hW
          go_wp2
          go_quiet ((go_at_call 48; exact Calls.quiet_of_same (HC3.out _ (drew_more HWW3.out))))
          generalize hW : World.drewN W3 nq = W4
          have HWW4 : Hid (∃ q, W4 = w.drewN q) := by show ∃ q, _; rw [← hW]; exact drew_more HWW3.out
          obtain ⟨x0W4, x1W4, x2W4, y0W4, y1W4, y2W4⟩ := HSIX.out.drawn HWW4.out
          clear hW
          go_wp2
          go_ret
          exact ⟨-r, rfl, by rw [HZ.out, ← HR0.out]; exact neg_zero r, HWW4.out⟩
      · have ho : (ordI wn wm == 0) = false := by rw [ordI_zero]; simp; omega
        have hob := ordI_bd wn wm
        have he : eqB xw yw = false := eqB_len HX1.out.1 HY1.out.1 hw
        have HZ : Hid (cmp0 (true, xw, xf) (true, yw, yf) = false) := by show _ = _; rw [HK, he]; rfl
        obtain ⟨r, hr⟩ : ∃ r, r = ordI wn wm := ⟨_, rfl⟩
        rw [← hr] at HC1 ho hob
        have r1 := hob.1
        have r2 := hob.2
        clear hr hob HK he hw
        go_enter Try.func42, Try.ntmps42
        go_wp2
        go_quiet (fail)
        generalize hW : World.drewN w nq = W1
        have HWW1 : Hid (∃ q, W1 = w.drewN q) := by show ∃ q, _; rw [← hW]; exact ⟨_, rfl⟩
        obtain ⟨x0W1, x1W1, x2W1, y0W1, y1W1, y2W1⟩ := HSIX.out.drawn HWW1.out
        clear hW
        go_wp2
        go_quiet ((go_at_call 47; exact Calls.quiet_of_same (HC1.out _)))
        generalize hW : World.drewN W1 nq = W2
        have HWW2 : Hid (∃ q, W2 = w.drewN q) := by show ∃ q, _; rw [← hW]; exact drew_more HWW1.out
        obtain ⟨x0W2, x1W2, x2W2, y0W2, y1W2, y2W2⟩ := HSIX.out.drawn HWW2.out
        clear hW
        go_wp2
        go_ret
        exact ⟨-r, rfl, by rw [HZ.out]; rw [neg_zero]; exact ho, HWW2.out⟩
  | false =>
    cases yn with
    | true =>
      have HZ : Hid (cmp0 (false, xw, xf) (true, yw, yf) = false) := by show _ = _; simp [cmp0]
      go_enter Try.func42, Try.ntmps42
      go_wp2
      go_quiet (fail)
      generalize hW : World.drewN w nq = W1
      have HWW1 : Hid (∃ q, W1 = w.drewN q) := by show ∃ q, _; rw [← hW]; exact ⟨_, rfl⟩
      obtain ⟨x0W1, x1W1, x2W1, y0W1, y1W1, y2W1⟩ := HSIX.out.drawn HWW1.out
      clear hW
      go_wp2
      go_ret
      exact ⟨1, rfl, by rw [HZ.out]; rfl, HWW1.out⟩
    | false =>
      have HK := KB.out false
      by_cases hw : wn = wm
      · subst hw
        have ho : ordI wn wn = 0 := by unfold ordI; simp
        rw [ho] at HC1
        cases he : eqB xw yw with
        | false =>
          have HZ : Hid (cmp0 (false, xw, xf) (false, yw, yf) = false) := by show _ = _; rw [HK, he]; rfl
          obtain ⟨r, hr⟩ : ∃ r, r = cmpB xw yw := ⟨_, rfl⟩
          have hr0 : (r == 0) = false := by rw [hr, cmpB_zero, he]
          have hrb : -1 ≤ r ∧ r ≤ 1 := by rw [hr]; exact cmpB_bd _ _
          rw [← hr] at HC2
          have r1 := hrb.1
          have r2 := hrb.2
          clear hr hrb ho HK he
          go_enter Try.func42, Try.ntmps42
          go_wp2
          go_quiet (fail)
          generalize hW : World.drewN w nq = W1
          have HWW1 : Hid (∃ q, W1 = w.drewN q) := by show ∃ q, _; rw [← hW]; exact ⟨_, rfl⟩
          obtain ⟨x0W1, x1W1, x2W1, y0W1, y1W1, y2W1⟩ := HSIX.out.drawn HWW1.out
          clear hW
          go_wp2
          go_quiet ((go_at_call 47; exact Calls.quiet_of_same (HC1.out _)))
          generalize hW : World.drewN W1 nq = W2
          have HWW2 : Hid (∃ q, W2 = w.drewN q) := by show ∃ q, _; rw [← hW]; exact drew_more HWW1.out
          obtain ⟨x0W2, x1W2, x2W2, y0W2, y1W2, y2W2⟩ := HSIX.out.drawn HWW2.out
          clear hW
          go_wp2
          go_quiet ((go_at_call 48; exact Calls.quiet_of_same (HC2.out _ (drew_more HWW2.out))))
          generalize hW : World.drewN W2 nq = W3
          have HWW3 : Hid (∃ q, W3 = w.drewN q) := by show ∃ q, _; rw [← hW]; exact drew_more HWW2.out
          obtain ⟨x0W3, x1W3, x2W3, y0W3, y1W3, y2W3⟩ := HSIX.out.drawn HWW3.out
          clear hW
          go_wp2
          go_ret
          exact ⟨r, rfl, by rw [HZ.out]; exact hr0, HWW3.out⟩
        | true =>
          have HZ : Hid (cmp0 (false, xw, xf) (false, yw, yf) = eqB xf yf) := by show _ = _; rw [HK, he]; rfl
          have hc2 : cmpB xw yw = 0 := by have := cmpB_zero xw yw; rw [he] at this; simpa using this
          rw [hc2] at HC2
          obtain ⟨r, hr⟩ : ∃ r, r = cmpB xf yf := ⟨_, rfl⟩
          have HR0 : Hid ((r == 0) = eqB xf yf) := by show _ = _; rw [hr, cmpB_zero]
          have hrb : -1 ≤ r ∧ r ≤ 1 := by rw [hr]; exact cmpB_bd _ _
          rw [← hr] at HC3
          have r1 := hrb.1
          have r2 := hrb.2
          clear hr hrb ho HK he hc2
          go_enter Try.func42, Try.ntmps42
          go_wp2
          go_quiet (fail)
          generalize hW : World.drewN w nq = W1
          have HWW1 : Hid (∃ q, W1 = w.drewN q) := by show ∃ q, _; rw [← hW]; exact ⟨_, rfl⟩
          obtain ⟨x0W1, x1W1, x2W1, y0W1, y1W1, y2W1⟩ := HSIX.out.drawn HWW1.out
          clear hW
          go_wp2
          go_quiet ((go_at_call 47; exact Calls.quiet_of_same (HC1.out _)))
          generalize hW : World.drewN W1 nq = W2
          have HWW2 : Hid (∃ q, W2 = w.drewN q) := by show ∃ q, _; rw [← hW]; exact drew_more HWW1.out
          obtain ⟨x0W2, x1W2, x2W2, y0W2, y1W2, y2W2⟩ := HSIX.out.drawn HWW2.out
          clear hW
          go_wp2
          go_quiet ((go_at_call 48; exact Calls.quiet_of_same (HC2.out _ (drew_more HWW2.out))))
          generalize hW : World.drewN W2 nq = W3
          have HWW3 : Hid (∃ q, W3 = w.drewN q) := by show ∃ q, _; rw [← hW]; exact drew_more HWW2.out
          obtain ⟨x0W3, x1W3, x2W3, y0W3, y1W3, y2W3⟩ := HSIX.out.drawn HWW3.out
          clear hW
          go_wp2
          go_quiet ((go_at_call 48; exact Calls.quiet_of_same (HC3.out _ (drew_more HWW3.out))))
          generalize hW : World.drewN W3 nq = W4
          have HWW4 : Hid (∃ q, W4 = w.drewN q) := by show ∃ q, _; rw [← hW]; exact drew_more HWW3.out
          obtain ⟨x0W4, x1W4, x2W4, y0W4, y1W4, y2W4⟩ := HSIX.out.drawn HWW4.out
          clear hW
          go_wp2
          go_ret
          exact ⟨r, rfl, by rw [HZ.out, ← HR0.out], HWW4.out⟩
      · have ho : (ordI wn wm == 0) = false := by rw [ordI_zero]; simp; omega
        have hob := ordI_bd wn wm
        have he : eqB xw yw = false := eqB_len HX1.out.1 HY1.out.1 hw
        have HZ : Hid (cmp0 (false, xw, xf) (false, yw, yf) = false) := by show _ = _; rw [HK, he]; rfl
        obtain ⟨r, hr⟩ : ∃ r, r = ordI wn wm := ⟨_, rfl⟩
        rw [← hr] at HC1 ho hob
        have r1 := hob.1
        have r2 := hob.2
        clear hr hob HK he hw
        go_enter Try.func42, Try.ntmps42
        go_wp2
        go_quiet (fail)
        generalize hW : World.drewN w nq = W1
        have HWW1 : Hid (∃ q, W1 = w.drewN q) := by show ∃ q, _; rw [← hW]; exact ⟨_, rfl⟩
        obtain ⟨x0W1, x1W1, x2W1, y0W1, y1W1, y2W1⟩ := HSIX.out.drawn HWW1.out
        clear hW
        go_wp2
        go_quiet ((go_at_call 47; exact Calls.quiet_of_same (HC1.out _)))
        generalize hW : World.drewN W1 nq = W2
        have HWW2 : Hid (∃ q, W2 = w.drewN q) := by show ∃ q, _; rw [← hW]; exact drew_more HWW1.out
        obtain ⟨x0W2, x1W2, x2W2, y0W2, y1W2, y2W2⟩ := HSIX.out.drawn HWW2.out
        clear hW
        go_wp2
        go_ret
        exact ⟨r, rfl, by rw [HZ.out]; exact ho, HWW2.out⟩
end Go.Proofs.Qxb6616563a
