import Derived.Test.Qxb6616563aOpd
namespace Go.Proofs.Qxb6616563a
open Go.RowKit

def falseL : List UInt8 := [102, 97, 108, 115, 101]
def truthD (d : Dsc) : Bool :=
  if d.k = 6 then true else if d.k = 0 then (if d.val.isEmpty || d.val == falseL then false else match d.num with | some x => !zeroN x | none => true) else false
def emptyD (d : Dsc) : Bool := if d.k = 4 then true else if d.k = 0 then d.val.isEmpty else false

theorem below_drawn {w0 w wr : World} (h : Below w0.heap.size w0 w) (hq : ∃ q, wr = w.drewN q) : Below w0.heap.size w0 wr := by
  obtain ⟨q, rfl⟩ := hq
  exact below_drewN h q

theorem below_only {w0 w w' : World} {q : Nat} (h : Below w0.heap.size w0 w) (ho : Only q w w') (hq : w0.heap.size ≤ q) : Below w0.heap.size w0 w' := h.trans (ho.below hq)

set_option maxHeartbeats 1000000 in
theorem truth57 (c : Ctx) (w : World) (b o : Nat) (e : OpE) (d : Dsc) (va : Option Addr) (vn vc : Nat) (hc : CtxIn c w) (h : OpIn c w b o e d va vn vc) :
    Calls Try.prog 57 #[.pointer (some ⟨b, o, none⟩), .pointer (some ⟨c.pb, 0, none⟩), .slice c.av c.nv c.cv] w fun e w' => e = .returned (.bool (truthD d)) ∧ Below w.heap.size w w' := by
  have c0 := h.c0
  have hk := h.hk
  by_cases k6 : e.k = 6
  · have HT : Hid (truthD d = true) := by show _ = _; unfold truthD; rw [hk, if_pos k6]
    rw [k6] at c0
    clear hk k6 hc h
    go_enter Try.func57, Try.ntmps57
    go_wp2
    go_ret
    exact ⟨by rw [HT.out]; rfl, Below.refl _ _⟩
  · by_cases k0 : e.k = 0
    · have HV := value54 c w b o e d va vn vc hc h
      have HVH : Hid (Calls Try.prog 54 #[.pointer (some ⟨b, o, none⟩), .pointer (some ⟨c.pb, 0, none⟩), .slice c.av c.nv c.cv] w fun e w' => e = .returned (.slice va vn vc) ∧ ∃ k, w' = w.drewN k) := HV
      have HD : Hid (truthD d = (if d.val.isEmpty || d.val == falseL then false else match d.num with | some x => !zeroN x | none => true)) := by show _ = _; unfold truthD; rw [hk, if_neg k6, if_pos k0]
      have HLN : Hid (d.val.length = vn) := h.val.1
      have HH : Hid (OpIn c w b o e d va vn vc) := h
      have hvn := h.vb.2.2
      rw [k0] at c0
      clear HV hk k6 k0 hc h
      by_cases hv0 : vn = 0
      · have HT : Hid (truthD d = false) := by
          show _ = _
          have : d.val = [] := List.length_eq_zero_iff.1 (by rw [HLN.out]; exact hv0)
          rw [HD.out, this]; rfl
        subst hv0
        go_enter Try.func57, Try.ntmps57
        go_wp2_with fail
        refine HVH.out.mono ?_
        rintro e w1 ⟨rfl, hw1⟩
        have HW1 : Hid (∃ k, w1 = w.drewN k) := hw1
        clear hw1
        go_wp2
        go_ret
        exact ⟨by rw [HT.out]; rfl, below_drawn (Below.refl _ _) HW1.out⟩
      · have hv0' : ((vn : Int) == 0) = false := by simp; omega
        have HNE : Hid (d.val.isEmpty = false) := by
          show _ = _
          cases hx : d.val with
          | nil => exact absurd (by rw [← HLN.out, hx]; rfl) hv0
          | cons a t => rfl
        cases hfl : (d.val == [102, 97, 108, 115, 101]) with
        | true =>
          have HT : Hid (truthD d = false) := by
            show _ = _
            rw [HD.out]
            have : (d.val == falseL) = true := hfl
            rw [this]; simp
          go_enter Try.func57, Try.ntmps57
          go_wp2_with fail
          refine HVH.out.mono ?_
          rintro e w1 ⟨rfl, hw1⟩
          have HW1 : Hid (∃ k, w1 = w.drewN k) := hw1
          have rc := run_conv (c := vc) (HH.out.val.drawn hw1)
          clear hw1
          go_wp2
          go_ret
          exact ⟨by rw [HT.out]; rfl, below_drawn (Below.refl _ _) HW1.out⟩
        | false =>
          have HT : Hid (truthD d = match d.num with | some x => !zeroN x | none => true) := by
            show _ = _
            rw [HD.out]
            have : (d.val == falseL) = false := hfl
            rw [this, HNE.out]; rfl
          go_enter Try.func57, Try.ntmps57
          go_wp2_with fail
          refine HVH.out.mono ?_
          rintro e w1 ⟨rfl, hw1⟩
          have HW1 : Hid (∃ k, w1 = w.drewN k) := hw1
          have rc := run_conv (c := vc) (HH.out.val.drawn hw1)
          have HB1 : Hid (Below w.heap.size w w1) := below_drawn (Below.refl _ _) hw1
          clear hw1
          go_wp2_with fail
          have HB2 : Hid (Below w.heap.size w (w1.alloc (.cells #[.bool false, .slice none 0 0, .slice none 0 0] 72))) := HB1.out.alloc HB1.out.size _
          refine (readNumber55 c w _ b o w1.heap.size e d va vn vc HH.out HB2.out (spot_new w1) HB1.out.size).mono ?_
          rintro e2 w2 (⟨n1, rfl, n2⟩ | ⟨x, n1, rfl, n2, n3⟩)
          · have HE : Hid (truthD d = true) := by show _ = _; rw [HT.out, n1]
            have HB3 : Hid (Below w.heap.size w w2) := below_only HB2.out n2 HB1.out.size
            clear n1 n2
            go_wp2
            go_ret
            exact ⟨by rw [HE.out]; rfl, HB3.out⟩
          · have HE : Hid (truthD d = !zeroN x) := by show _ = _; rw [HT.out, n1]
            have HB3 : Hid (Below w.heap.size w w2) := below_only HB2.out n2 HB1.out.size
            have HNI : Hid (NumIs w2 w1.heap.size x) := n3
            clear n1 n2 n3
            go_wp2_with fail
            refine (zero41 w2 _ x HNI.out).mono ?_
            rintro e3 w3 ⟨rfl, rfl⟩
            go_wp2
            go_ret
            exact ⟨by rw [HE.out]; rfl, HB3.out⟩
    · have HT : Hid (truthD d = false) := by show _ = _; unfold truthD; rw [hk, if_neg k6, if_neg k0]
      obtain ⟨k, hkk⟩ : ∃ k, k = e.k := ⟨_, rfl⟩
      rw [← hkk] at c0 k6 k0
      have k6' : (k == 6) = false := by simp [k6]
      have k0' : (k == 0) = false := by simp [k0]
      clear hk hkk hc h k6 k0
      go_enter Try.func57, Try.ntmps57
      go_wp2
      go_ret
      exact ⟨by rw [HT.out]; rfl, Below.refl _ _⟩

set_option maxHeartbeats 400000 in
theorem empty58 (c : Ctx) (w : World) (b o : Nat) (e : OpE) (d : Dsc) (va : Option Addr) (vn vc : Nat) (hc : CtxIn c w) (h : OpIn c w b o e d va vn vc) :
    Calls Try.prog 58 #[.pointer (some ⟨b, o, none⟩), .pointer (some ⟨c.pb, 0, none⟩), .slice c.av c.nv c.cv] w fun e w' => e = .returned (.bool (emptyD d)) ∧ Below w.heap.size w w' := by
  have c0 := h.c0
  have hk := h.hk
  by_cases k4 : e.k = 4
  · have HT : Hid (emptyD d = true) := by show _ = _; unfold emptyD; rw [hk, if_pos k4]
    rw [k4] at c0
    clear hk k4 hc h
    go_enter Try.func58, Try.ntmps58
    go_wp2
    go_ret
    exact ⟨by rw [HT.out]; rfl, Below.refl _ _⟩
  · by_cases k0 : e.k = 0
    · have HV := value54 c w b o e d va vn vc hc h
      have HVH : Hid (Calls Try.prog 54 #[.pointer (some ⟨b, o, none⟩), .pointer (some ⟨c.pb, 0, none⟩), .slice c.av c.nv c.cv] w fun e w' => e = .returned (.slice va vn vc) ∧ ∃ k, w' = w.drewN k) := HV
      have HD : Hid (emptyD d = ((vn : Int) == 0)) := by
        show _ = _
        unfold emptyD
        rw [hk, if_neg k4, if_pos k0, ← h.val.1]
        cases d.val with
        | nil => rfl
        | cons a t => simp; omega
      have hvn := h.vb.2.2
      rw [k0] at c0
      clear HV hk k4 k0 hc h
      go_enter Try.func58, Try.ntmps58
      go_wp2_with fail
      refine HVH.out.mono ?_
      rintro e w1 ⟨rfl, hw1⟩
      have HW1 : Hid (∃ k, w1 = w.drewN k) := hw1
      clear hw1
      go_wp2
      go_ret
      exact ⟨by rw [HD.out]; rfl, below_drawn (Below.refl _ _) HW1.out⟩
    · have HT : Hid (emptyD d = false) := by show _ = _; unfold emptyD; rw [hk, if_neg k4, if_neg k0]
      have k1 := h.k2
      obtain ⟨k, hkk⟩ : ∃ k, k = e.k := ⟨_, rfl⟩
      rw [← hkk] at c0 k4 k0 k1
      have k4' : (k == 4) = false := by simp [k4]
      have k0' : (k == 0) = false := by simp [k0]
      have k1' : (k == 1) = false := by simp [k1]
      clear hk hkk hc h k4 k0 k1
      go_enter Try.func58, Try.ntmps58
      go_wp2
      go_ret
      exact ⟨by rw [HT.out]; rfl, Below.refl _ _⟩
end Go.Proofs.Qxb6616563a
