import Derived.Test.Qxb6616563aTruth
import Derived.Deep.RegionWith
namespace Go.Proofs.Qxb6616563a
open Go.RowKit

theorem hide_of' {p : Prop} (h : p) : Hid p := h
theorem below_alloc' {w0 w : World} (h : Below w0.heap.size w0 w) (o : Obj) : Below w0.heap.size w0 (w.alloc o) := h.alloc h.size o

def hiLo (lo hi : Dsc) : Bool := if hi.k = 6 then truthD lo else if hi.k = 5 then !(truthD lo) else if hi.k = 4 then emptyD lo else decide (lo.k = hi.k)
def eqT (a b : Dsc) : Bool := match a.num with | some x => (match b.num with | some y => cmp0 x y | none => eqB a.val b.val) | none => eqB a.val b.val
/-- what equal answers -/
def eqD (a b : Dsc) : Bool :=
  if a.k = 0 ∧ b.k = 0 then eqT a b else if b.k < a.k then hiLo b a else hiLo a b

set_option maxHeartbeats 1000000 in
theorem eq46_text (c : Ctx) (w : World) (b1 o1 b2 o2 : Nat) (e1 e2 : OpE) (d1 d2 : Dsc) (va vb : Option Addr) (vn vc wn wc : Nat) (hc : CtxIn c w) (h1 : OpIn c w b1 o1 e1 d1 va vn vc) (h2 : OpIn c w b2 o2 e2 d2 vb wn wc) (k1 : e1.k = 0) (k2 : e2.k = 0) :
    Calls Try.prog 46 #[.pointer (some ⟨c.pb, 0, none⟩), .slice c.av c.nv c.cv, .pointer (some ⟨b1, o1, none⟩), .pointer (some ⟨b2, o2, none⟩)] w fun e w' => e = .returned (.bool (eqT d1 d2)) ∧ Below w.heap.size w w' := by
  have c1 := h1.c0
  have c2 := h2.c0
  rw [k1] at c1
  rw [k2] at c2
  have H1 : Hid (OpIn c w b1 o1 e1 d1 va vn vc) := h1
  have H2 : Hid (OpIn c w b2 o2 e2 d2 vb wn wc) := h2
  have HC : Hid (CtxIn c w) := hc
  clear h1 h2 hc k1 k2
  go_enter Try.func46, Try.ntmps46
  go_wp2_with fail
  refine (value54 c w b1 o1 e1 d1 va vn vc HC.out H1.out).mono ?_
  rintro e w1 ⟨rfl, hw1⟩
  have HB1 : Hid (Below w.heap.size w w1) := below_drawn (Below.refl _ _) hw1
  clear hw1
  go_wp2_with fail
  refine (value54 c w1 b2 o2 e2 d2 vb wn wc (HC.out.below HB1.out) (H2.out.below HB1.out)).mono ?_
  rintro e w2 ⟨rfl, hw2⟩
  have HB2 : Hid (Below w.heap.size w w2) := below_drawn HB1.out hw2
  clear hw2 HB1
  go_wp2_with fail
  have HBA : Hid (Below w.heap.size w ((w2.alloc (.cells #[.bool false, .slice none 0 0, .slice none 0 0] 72)).alloc (.cells #[.bool false, .slice none 0 0, .slice none 0 0] 72))) := below_alloc' (below_alloc' HB2.out _) _
  have HSP1 : Hid (NumSpot ((w2.alloc (.cells #[.bool false, .slice none 0 0, .slice none 0 0] 72)).alloc (.cells #[.bool false, .slice none 0 0, .slice none 0 0] 72)) w2.heap.size) := (spot_new w2).alloc _ (by rw [World.size_alloc]; omega)
  have HSP2 : Hid (NumSpot ((w2.alloc (.cells #[.bool false, .slice none 0 0, .slice none 0 0] 72)).alloc (.cells #[.bool false, .slice none 0 0, .slice none 0 0] 72)) (w2.heap.size + 1)) := by
    have := spot_new (w2.alloc (.cells #[.bool false, .slice none 0 0, .slice none 0 0] 72))
    rw [World.size_alloc] at this
    exact this
  have hsz := HB2.out.size
  refine (readNumber55 c w _ b1 o1 w2.heap.size e1 d1 va vn vc H1.out HBA.out HSP1.out hsz).mono ?_
  rintro e w3 (⟨n1, rfl, n2⟩ | ⟨x, n1, rfl, n2, n3⟩)
  · have HB3 : Hid (Below w.heap.size w w3) := below_only HBA.out n2 hsz
    have HE : Hid (eqT d1 d2 = eqB d1.val d2.val) := by show _ = _; unfold eqT; rw [n1]
    clear n1 n2
    go_wp2_with fail
    refine (equal56 va vb vn wn vc wc d1.val d2.val w3 (H1.out.val.below HB3.out) (H2.out.val.below HB3.out)).mono ?_
    rintro e w4 ⟨rfl, rfl⟩
    go_wp2
    go_ret
    exact ⟨by rw [HE.out]; rfl, HB3.out⟩
  · have HB3 : Hid (Below w.heap.size w w3) := below_only HBA.out n2 hsz
    have HN1 : Hid (d1.num = some x) := n1
    have HNI : Hid (NumIs w3 w2.heap.size x) := n3
    have HS3 : Hid (NumSpot w3 (w2.heap.size + 1)) := HSP2.out.only n2 (by omega)
    clear n1 n2 n3
    go_wp2_with fail
    refine (readNumber55 c w _ b2 o2 (w2.heap.size + 1) e2 d2 vb wn wc H2.out HB3.out HS3.out (by omega)).mono ?_
    rintro e w4 (⟨n1, rfl, n2⟩ | ⟨y, n1, rfl, n2, n3⟩)
    · have HB4 : Hid (Below w.heap.size w w4) := below_only HB3.out n2 (by omega)
      have HE : Hid (eqT d1 d2 = eqB d1.val d2.val) := by show _ = _; unfold eqT; rw [HN1.out, n1]
      clear n1 n2
      go_wp2_with fail
      refine (equal56 va vb vn wn vc wc d1.val d2.val w4 (H1.out.val.below HB4.out) (H2.out.val.below HB4.out)).mono ?_
      rintro e w5 ⟨rfl, rfl⟩
      go_wp2
      go_ret
      exact ⟨by rw [HE.out]; rfl, HB4.out⟩
    · have HB4 : Hid (Below w.heap.size w w4) := below_only HB3.out n2 (by omega)
      have HE : Hid (eqT d1 d2 = cmp0 x y) := by show _ = _; unfold eqT; rw [HN1.out, n1]
      have HX4 : Hid (NumIs w4 w2.heap.size x) := HNI.out.only n2 HS3.out (by omega)
      have HY4 : Hid (NumIs w4 (w2.heap.size + 1) y) := n3
      clear n1 n2 n3
      go_wp2_with fail
      refine (compare42 w2.heap.size (w2.heap.size + 1) x y w4 HX4.out HY4.out).mono ?_
      rintro e w5 ⟨r, rfl, hr, hw5⟩
      have HR : Hid ((r == 0) = cmp0 x y) := hr
      have HB5 : Hid (Below w.heap.size w w5) := below_drawn HB4.out hw5
      clear hr hw5
      go_wp2
      go_ret
      exact ⟨by rw [HE.out, ← HR.out]; rfl, HB5.out⟩

set_option maxHeartbeats 1000000 in
theorem eq46_other (c : Ctx) (w : World) (b1 o1 b2 o2 : Nat) (e1 e2 : OpE) (d1 d2 : Dsc) (va vb : Option Addr) (vn vc wn wc : Nat) (hc : CtxIn c w) (h1 : OpIn c w b1 o1 e1 d1 va vn vc) (h2 : OpIn c w b2 o2 e2 d2 vb wn wc) (k12 : ¬ (e1.k = 0 ∧ e2.k = 0)) :
    Calls Try.prog 46 #[.pointer (some ⟨c.pb, 0, none⟩), .slice c.av c.nv c.cv, .pointer (some ⟨b1, o1, none⟩), .pointer (some ⟨b2, o2, none⟩)] w fun e w' => e = .returned (.bool (if d2.k < d1.k then hiLo d2 d1 else hiLo d1 d2)) ∧ Below w.heap.size w w' := by
  have c1 := h1.c0
  have c2 := h2.c0
  have hk1 := h1.hk
  have hk2 := h2.hk
  have H1 : Hid (OpIn c w b1 o1 e1 d1 va vn vc) := h1
  have H2 : Hid (OpIn c w b2 o2 e2 d2 vb wn wc) := h2
  have HC : Hid (CtxIn c w) := hc
  obtain ⟨ka, hka⟩ : ∃ k, k = e1.k := ⟨_, rfl⟩
  obtain ⟨kb, hkb⟩ : ∃ k, k = e2.k := ⟨_, rfl⟩
  have a0 := h1.k0
  have a1 := h1.k1
  have b0 := h2.k0
  have b1' := h2.k1
  rw [← hka] at c1 k12 hk1 a0 a1
  rw [← hkb] at c2 k12 hk2 b0 b1'
  rw [hk1, hk2]
  clear h1 h2 hc hka hkb
  have HD1 : Hid (d1.k = ka) := hk1
  have HD2 : Hid (d2.k = kb) := hk2
  clear hk1 hk2
  have KA : Hid (∀ W, Below w.heap.size w W → W.cell? ⟨b1, o1, none⟩ = some (.int .u8 ka)) := fun W hb => (hb.cell (p := ⟨b1, o1, none⟩) (cell_lt c1)).trans c1
  have KB : Hid (∀ W, Below w.heap.size w W → W.cell? ⟨b2, o2, none⟩ = some (.int .u8 kb)) := fun W hb => (hb.cell (p := ⟨b2, o2, none⟩) (cell_lt c2)).trans c2
  have G : Hid (∀ W, Below w.heap.size w W → Calls Try.prog 57 #[.pointer (some ⟨b1, o1, none⟩), .pointer (some ⟨c.pb, 0, none⟩), .slice c.av c.nv c.cv] W fun e w' => e = .returned (.bool (truthD d1)) ∧ Below w.heap.size w w') := fun W hb => (truth57 c W b1 o1 e1 d1 va vn vc (HC.out.below hb) (H1.out.below hb)).mono fun e w' h => ⟨h.1, hb.trans (h.2.mono hb.size)⟩
  have G' : Hid (∀ W, Below w.heap.size w W → Calls Try.prog 57 #[.pointer (some ⟨b2, o2, none⟩), .pointer (some ⟨c.pb, 0, none⟩), .slice c.av c.nv c.cv] W fun e w' => e = .returned (.bool (truthD d2)) ∧ Below w.heap.size w w') := fun W hb => (truth57 c W b2 o2 e2 d2 vb wn wc (HC.out.below hb) (H2.out.below hb)).mono fun e w' h => ⟨h.1, hb.trans (h.2.mono hb.size)⟩
  have E : Hid (∀ W, Below w.heap.size w W → Calls Try.prog 58 #[.pointer (some ⟨b1, o1, none⟩), .pointer (some ⟨c.pb, 0, none⟩), .slice c.av c.nv c.cv] W fun e w' => e = .returned (.bool (emptyD d1)) ∧ Below w.heap.size w w') := fun W hb => (empty58 c W b1 o1 e1 d1 va vn vc (HC.out.below hb) (H1.out.below hb)).mono fun e w' h => ⟨h.1, hb.trans (h.2.mono hb.size)⟩
  have E' : Hid (∀ W, Below w.heap.size w W → Calls Try.prog 58 #[.pointer (some ⟨b2, o2, none⟩), .pointer (some ⟨c.pb, 0, none⟩), .slice c.av c.nv c.cv] W fun e w' => e = .returned (.bool (emptyD d2)) ∧ Below w.heap.size w w') := fun W hb => (empty58 c W b2 o2 e2 d2 vb wn wc (HC.out.below hb) (H2.out.below hb)).mono fun e w' h => ⟨h.1, hb.trans (h.2.mono hb.size)⟩
  obtain ⟨ta, hta⟩ : ∃ t, t = truthD d1 := ⟨_, rfl⟩
  obtain ⟨tb, htb⟩ : ∃ t, t = truthD d2 := ⟨_, rfl⟩
  obtain ⟨ea, hea⟩ : ∃ t, t = emptyD d1 := ⟨_, rfl⟩
  obtain ⟨eb, heb⟩ : ∃ t, t = emptyD d2 := ⟨_, rfl⟩
  rw [← hta] at G
  rw [← htb] at G'
  rw [← hea] at E
  rw [← heb] at E'
  have HTA : Hid (ta = truthD d1) := hta
  have HTB : Hid (tb = truthD d2) := htb
  have HEA : Hid (ea = emptyD d1) := hea
  have HEB : Hid (eb = emptyD d2) := heb
  clear hta htb hea heb H1 H2 HC
  have z12 : ((ka == 0) && (kb == 0)) = false := by
    cases h : (ka == 0) with
    | false => rfl
    | true =>
      have : ¬ kb = 0 := fun h2 => k12 ⟨by simpa using h, h2⟩
      simp [this]
  by_cases hsw : kb < ka
  · rw [if_pos hsw]
    rcases (show ka = 6 ∨ ka = 5 ∨ ka = 4 ∨ (¬ ka = 6 ∧ ¬ ka = 5 ∧ ¬ ka = 4) from by omega) with q | q | q | ⟨q6, q5, q4⟩
    · have HE : Hid (hiLo d2 d1 = tb) := by show _ = _; unfold hiLo; rw [HD1.out, q, HTB.out]; rfl
      subst q
      go_enter Try.func46, Try.ntmps46
      go_wp2
      all_goals
        go_quiet (fail)
        generalize hW : World.drewN w nq = W1
        have HB1 : Hid (Below w.heap.size w W1) := by show Below _ _ _; rw [← hW]; exact below_drewN (Below.refl _ _) _
        have p1 := KA.out W1 HB1.out
        have p2 := KB.out W1 HB1.out
        clear hW
      all_goals
        go_wp2
        go_region_with (go_at_call 57; refine (G'.out _ ?_).mono ?_; (first | exact HB1.out.drew | exact HB1.out); rintro e w' ⟨rfl, hb⟩; have cc := KA.out w' hb; have HB := hide_of' hb; clear hb)
        all_goals
          (try go_wp2)
          go_ret
          exact ⟨by rw [HE.out]; cases tb <;> rfl, by first | exact HB.out | exact HB.out.drew⟩
    · have HE : Hid (hiLo d2 d1 = !tb) := by show _ = _; unfold hiLo; rw [HD1.out, q, HTB.out]; rfl
      subst q
      go_enter Try.func46, Try.ntmps46
      go_wp2
      all_goals
        go_quiet (fail)
        generalize hW : World.drewN w nq = W1
        have HB1 : Hid (Below w.heap.size w W1) := by show Below _ _ _; rw [← hW]; exact below_drewN (Below.refl _ _) _
        have p1 := KA.out W1 HB1.out
        have p2 := KB.out W1 HB1.out
        clear hW
      all_goals
        go_wp2
        go_region_with (go_at_call 57; refine (G'.out _ ?_).mono ?_; (first | exact HB1.out.drew | exact HB1.out); rintro e w' ⟨rfl, hb⟩; have cc := KA.out w' hb; have HB := hide_of' hb; clear hb)
        all_goals
          (try go_wp2)
          go_ret
          exact ⟨by rw [HE.out]; cases tb <;> rfl, by first | exact HB.out | exact HB.out.drew⟩
    · have HE : Hid (hiLo d2 d1 = eb) := by show _ = _; unfold hiLo; rw [HD1.out, q, HEB.out]; rfl
      subst q
      go_enter Try.func46, Try.ntmps46
      go_wp2
      all_goals
        go_quiet (fail)
        generalize hW : World.drewN w nq = W1
        have HB1 : Hid (Below w.heap.size w W1) := by show Below _ _ _; rw [← hW]; exact below_drewN (Below.refl _ _) _
        have p1 := KA.out W1 HB1.out
        have p2 := KB.out W1 HB1.out
        clear hW
      all_goals
        go_wp2_with fail
        refine (E'.out _ HB1.out).mono ?_
        rintro e w' ⟨rfl, hb⟩
        have HB := hide_of' hb
        clear hb
        go_wp2
        go_ret
        exact ⟨by rw [HE.out]; rfl, HB.out⟩
    · have HE : Hid (hiLo d2 d1 = (kb == ka)) := by show _ = _; unfold hiLo; rw [HD1.out, HD2.out, if_neg q6, if_neg q5, if_neg q4]; by_cases h : kb = ka <;> simp [h]
      have q6' : (ka == 6) = false := by simp [q6]
      have q5' : (ka == 5) = false := by simp [q5]
      have q4' : (ka == 4) = false := by simp [q4]
      clear q6 q5 q4
      go_enter Try.func46, Try.ntmps46
      go_wp2
      all_goals
        go_quiet (fail)
        generalize hW : World.drewN w nq = W1
        have HB1 : Hid (Below w.heap.size w W1) := by show Below _ _ _; rw [← hW]; exact below_drewN (Below.refl _ _) _
        have p1 := KA.out W1 HB1.out
        have p2 := KB.out W1 HB1.out
        clear hW
      all_goals
        go_wp2
        go_quiet (fail)
        go_wp2
        go_ret
        exact ⟨by rw [HE.out]; first | rfl | (rw [show ka = 0 by assumption]; rfl), below_drewN HB1.out _⟩
  · rw [if_neg hsw]
    rcases (show kb = 6 ∨ kb = 5 ∨ kb = 4 ∨ (¬ kb = 6 ∧ ¬ kb = 5 ∧ ¬ kb = 4) from by omega) with q | q | q | ⟨q6, q5, q4⟩
    · have HE : Hid (hiLo d1 d2 = ta) := by show _ = _; unfold hiLo; rw [HD2.out, q, HTA.out]; rfl
      subst q
      go_enter Try.func46, Try.ntmps46
      go_wp2
      all_goals
        go_quiet (fail)
        generalize hW : World.drewN w nq = W1
        have HB1 : Hid (Below w.heap.size w W1) := by show Below _ _ _; rw [← hW]; exact below_drewN (Below.refl _ _) _
        have p1 := KA.out W1 HB1.out
        have p2 := KB.out W1 HB1.out
        clear hW
      all_goals
        go_wp2
        go_region_with (go_at_call 57; refine (G.out _ ?_).mono ?_; (first | exact HB1.out.drew | exact HB1.out); rintro e w' ⟨rfl, hb⟩; have cc := KB.out w' hb; have HB := hide_of' hb; clear hb)
        all_goals
          (try go_wp2)
          go_ret
          exact ⟨by rw [HE.out]; cases ta <;> rfl, by first | exact HB.out | exact HB.out.drew⟩
    · have HE : Hid (hiLo d1 d2 = !ta) := by show _ = _; unfold hiLo; rw [HD2.out, q, HTA.out]; rfl
      subst q
      go_enter Try.func46, Try.ntmps46
      go_wp2
      all_goals
        go_quiet (fail)
        generalize hW : World.drewN w nq = W1
        have HB1 : Hid (Below w.heap.size w W1) := by show Below _ _ _; rw [← hW]; exact below_drewN (Below.refl _ _) _
        have p1 := KA.out W1 HB1.out
        have p2 := KB.out W1 HB1.out
        clear hW
      all_goals
        go_wp2
        go_region_with (go_at_call 57; refine (G.out _ ?_).mono ?_; (first | exact HB1.out.drew | exact HB1.out); rintro e w' ⟨rfl, hb⟩; have cc := KB.out w' hb; have HB := hide_of' hb; clear hb)
        all_goals
          (try go_wp2)
          go_ret
          exact ⟨by rw [HE.out]; cases ta <;> rfl, by first | exact HB.out | exact HB.out.drew⟩
    · have HE : Hid (hiLo d1 d2 = ea) := by show _ = _; unfold hiLo; rw [HD2.out, q, HEA.out]; rfl
      subst q
      go_enter Try.func46, Try.ntmps46
      go_wp2
      all_goals
        go_quiet (fail)
        generalize hW : World.drewN w nq = W1
        have HB1 : Hid (Below w.heap.size w W1) := by show Below _ _ _; rw [← hW]; exact below_drewN (Below.refl _ _) _
        have p1 := KA.out W1 HB1.out
        have p2 := KB.out W1 HB1.out
        clear hW
      all_goals
        go_wp2_with fail
        refine (E.out _ HB1.out).mono ?_
        rintro e w' ⟨rfl, hb⟩
        have HB := hide_of' hb
        clear hb
        go_wp2
        go_ret
        exact ⟨by rw [HE.out]; rfl, HB.out⟩
    · have HE : Hid (hiLo d1 d2 = (ka == kb)) := by show _ = _; unfold hiLo; rw [HD2.out, HD1.out, if_neg q6, if_neg q5, if_neg q4]; by_cases h : ka = kb <;> simp [h]
      have q6' : (kb == 6) = false := by simp [q6]
      have q5' : (kb == 5) = false := by simp [q5]
      have q4' : (kb == 4) = false := by simp [q4]
      clear q6 q5 q4
      go_enter Try.func46, Try.ntmps46
      go_wp2
      all_goals
        go_quiet (fail)
        generalize hW : World.drewN w nq = W1
        have HB1 : Hid (Below w.heap.size w W1) := by show Below _ _ _; rw [← hW]; exact below_drewN (Below.refl _ _) _
        have p1 := KA.out W1 HB1.out
        have p2 := KB.out W1 HB1.out
        clear hW
      all_goals
        go_wp2
        go_quiet (fail)
        go_wp2
        go_ret
        exact ⟨by rw [HE.out]; first | rfl | (rw [show ka = 0 by assumption]; rfl), below_drewN HB1.out _⟩
theorem equal46 (c : Ctx) (w : World) (b1 o1 b2 o2 : Nat) (e1 e2 : OpE) (d1 d2 : Dsc) (va vb : Option Addr) (vn vc wn wc : Nat) (hc : CtxIn c w) (h1 : OpIn c w b1 o1 e1 d1 va vn vc) (h2 : OpIn c w b2 o2 e2 d2 vb wn wc) :
    Calls Try.prog 46 #[.pointer (some ⟨c.pb, 0, none⟩), .slice c.av c.nv c.cv, .pointer (some ⟨b1, o1, none⟩), .pointer (some ⟨b2, o2, none⟩)] w fun e w' => e = .returned (.bool (eqD d1 d2)) ∧ Below w.heap.size w w' := by
  by_cases hk : e1.k = 0 ∧ e2.k = 0
  · have : eqD d1 d2 = eqT d1 d2 := by unfold eqD; rw [h1.hk, h2.hk, if_pos hk]
    rw [this]
    exact eq46_text c w b1 o1 b2 o2 e1 e2 d1 d2 va vb vn vc wn wc hc h1 h2 hk.1 hk.2
  · have : eqD d1 d2 = (if d2.k < d1.k then hiLo d2 d1 else hiLo d1 d2) := by
      unfold eqD
      rw [if_neg (by rw [h1.hk, h2.hk]; exact hk)]
    rw [this]
    exact eq46_other c w b1 o1 b2 o2 e1 e2 d1 d2 va vb vn vc wn wc hc h1 h2 hk
end Go.Proofs.Qxb6616563a
