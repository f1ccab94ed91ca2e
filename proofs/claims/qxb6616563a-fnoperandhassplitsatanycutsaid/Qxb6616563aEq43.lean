import Derived.Test.Qxb6616563aAgree
namespace Go.Proofs.Qxb6616563a
open Go.RowKit

theorem mEq_text {k1 k2 : Int} {l1 l2 : List UInt8} {p1 p2 : Bool} (h1 : k1 = 0) (h2 : k2 = 0) : mEq ⟨k1, l1, p1⟩ ⟨k2, l2, p2⟩ = if p1 && p2 then sameV l1 l2 else eqB l1 l2 := by
  unfold mEq
  rw [if_pos ⟨h1, h2⟩]
theorem mEq_lt {m1 m2 : MD} (h : ¬ (m1.k = 0 ∧ m2.k = 0)) (hlt : m1.k < m2.k) : mEq m1 m2 = mHiLo m1 m2 := by
  unfold mEq
  rw [if_neg h, if_pos hlt]
theorem mEq_ge {m1 m2 : MD} (h : ¬ (m1.k = 0 ∧ m2.k = 0)) (hlt : ¬ m1.k < m2.k) : mEq m1 m2 = mHiLo m2 m1 := by
  unfold mEq
  rw [if_neg h, if_neg hlt]

/-- a text that the model's functions may take -/
structure Txt (w : World) (a : Option Addr) (n c : Nat) (l : List UInt8) : Prop where
  b : Bytes w a n l
  hn : n ≤ 1048576
  hnc : n ≤ c
  hc : c ≤ 9223372036854775807
theorem Txt.below {w w' : World} {a : Option Addr} {n c : Nat} {l : List UInt8} (h : Txt w a n c l) (hb : Below w.heap.size w w') : Txt w' a n c l := ⟨h.b.below hb, h.hn, h.hnc, h.hc⟩

set_option maxRecDepth 100000 in
set_option maxHeartbeats 4000000 in
theorem eq43_text (l1 l2 : List UInt8) (p1 p2 : Bool) (a b : Option Addr) (n c m d : Nat) (w : World) (ha : Txt w a n c l1) (hb : Txt w b m d l2) :
    Calls Try.prog 43 #[.agg #[.int .u8 0, .slice a n c, .bool p1], .agg #[.int .u8 0, .slice b m d, .bool p2]] w fun e w' => e = .returned (.bool (mEq ⟨0, l1, p1⟩ ⟨0, l2, p2⟩)) ∧ Below w.heap.size w w' := by
  have hE : mEq ⟨0, l1, p1⟩ ⟨0, l2, p2⟩ = if p1 && p2 then sameV l1 l2 else eqB l1 l2 := mEq_text rfl rfl
  rw [hE]
  clear hE
  have C49 : Hid (∀ W, Below w.heap.size w W → Calls Try.prog 49 #[.slice a n c, .slice b m d] W fun e w' => e = .returned (.bool (sameV l1 l2)) ∧ W = w') := fun W h => same49 a b n c m d l1 l2 W (ha.b.below h) (hb.b.below h) ha.hnc (by have := ha.hn; omega) ha.hc hb.hnc (by have := hb.hn; omega) hb.hc
  have C37 : Hid (∀ W, Below w.heap.size w W → Calls Try.prog 37 #[.slice a n c, .slice b m d] W fun e w' => e = .returned (.bool (eqB l1 l2)) ∧ Below w.heap.size w w') := fun W h => (bytesEq_any a b n m c d l1 l2 W (ha.b.below h) (hb.b.below h) (by have := ha.hn; omega) (by have := hb.hn; omega)).mono fun e w' hh => ⟨hh.1, below_drawn h hh.2⟩
  clear ha hb
  obtain ⟨sv, hsv⟩ : ∃ x, x = sameV l1 l2 := ⟨_, rfl⟩
  obtain ⟨se, hse⟩ : ∃ x, x = eqB l1 l2 := ⟨_, rfl⟩
  rw [← hsv] at C49 ⊢
  rw [← hse] at C37 ⊢
  clear hsv hse
  cases p1 with
  | false =>
    go_enter Try.func43, Try.ntmps43
    go_wp2_with fail
    refine (C37.out _ (by repeat (first | exact Below.refl _ _ | refine Below.drew ?_ | refine below_alloc' ?_ _))).mono ?_
    rintro e w1 ⟨rfl, hb⟩
    have HB := hide_of' hb
    clear hb
    go_wp2
    go_ret
    exact ⟨rfl, HB.out⟩
  | true =>
  cases p2 with
  | false =>
    go_enter Try.func43, Try.ntmps43
    go_wp2_with fail
    refine (C37.out _ (by repeat (first | exact Below.refl _ _ | refine Below.drew ?_ | refine below_alloc' ?_ _))).mono ?_
    rintro e w1 ⟨rfl, hb⟩
    have HB := hide_of' hb
    clear hb
    go_wp2
    go_ret
    exact ⟨rfl, HB.out⟩
  | true =>
    go_enter Try.func43, Try.ntmps43
    go_wp2_with fail
    refine (C49.out _ (by repeat (first | exact Below.refl _ _ | refine Below.drew ?_ | refine below_alloc' ?_ _))).mono ?_
    rintro e w1 ⟨rfl, rfl⟩
    go_wp2
    go_ret
    exact ⟨rfl, by repeat (first | exact Below.refl _ _ | refine Below.drew ?_ | refine below_alloc' ?_ _)⟩

set_option maxRecDepth 100000 in
set_option maxHeartbeats 8000000 in
theorem eq43_other (k1 k2 : Int) (l1 l2 : List UInt8) (p1 p2 : Bool) (a b : Option Addr) (n c m d : Nat) (w : World) (ha : Txt w a n c l1) (hb : Txt w b m d l2) (hk : ¬ (k1 = 0 ∧ k2 = 0)) :
    Calls Try.prog 43 #[.agg #[.int .u8 k1, .slice a n c, .bool p1], .agg #[.int .u8 k2, .slice b m d, .bool p2]] w fun e w' => e = .returned (.bool (mEq ⟨k1, l1, p1⟩ ⟨k2, l2, p2⟩)) ∧ Below w.heap.size w w' := by
  have T1 : Hid (∀ W, Below w.heap.size w W → Calls Try.prog 50 #[.agg #[.int .u8 k1, .slice a n c, .bool p1]] W fun e w' => e = .returned (.bool (mTruth ⟨k1, l1, p1⟩)) ∧ Below w.heap.size w w') := fun W h => (truth50 ⟨k1, l1, p1⟩ a n c W (ha.b.below h) ha.hn).mono fun e w' hh => ⟨hh.1, below_step h hh.2⟩
  have T2 : Hid (∀ W, Below w.heap.size w W → Calls Try.prog 50 #[.agg #[.int .u8 k2, .slice b m d, .bool p2]] W fun e w' => e = .returned (.bool (mTruth ⟨k2, l2, p2⟩)) ∧ Below w.heap.size w w') := fun W h => (truth50 ⟨k2, l2, p2⟩ b m d W (hb.b.below h) hb.hn).mono fun e w' hh => ⟨hh.1, below_step h hh.2⟩
  have E1 : Hid (∀ W, Below w.heap.size w W → Calls Try.prog 51 #[.agg #[.int .u8 k1, .slice a n c, .bool p1]] W fun e w' => e = .returned (.bool (mEmpty ⟨k1, l1, p1⟩)) ∧ Below w.heap.size w w') := fun W h => (empty51 ⟨k1, l1, p1⟩ a n c W (ha.b.below h)).mono fun e w' hh => ⟨hh.1, below_step h hh.2⟩
  have E2 : Hid (∀ W, Below w.heap.size w W → Calls Try.prog 51 #[.agg #[.int .u8 k2, .slice b m d, .bool p2]] W fun e w' => e = .returned (.bool (mEmpty ⟨k2, l2, p2⟩)) ∧ Below w.heap.size w w') := fun W h => (empty51 ⟨k2, l2, p2⟩ b m d W (hb.b.below h)).mono fun e w' hh => ⟨hh.1, below_step h hh.2⟩
  clear ha hb
  obtain ⟨t1, ht1⟩ : ∃ x, x = mTruth ⟨k1, l1, p1⟩ := ⟨_, rfl⟩
  obtain ⟨t2, ht2⟩ : ∃ x, x = mTruth ⟨k2, l2, p2⟩ := ⟨_, rfl⟩
  obtain ⟨e1, he1⟩ : ∃ x, x = mEmpty ⟨k1, l1, p1⟩ := ⟨_, rfl⟩
  obtain ⟨e2, he2⟩ : ∃ x, x = mEmpty ⟨k2, l2, p2⟩ := ⟨_, rfl⟩
  rw [← ht1] at T1
  rw [← ht2] at T2
  rw [← he1] at E1
  rw [← he2] at E2
  obtain ⟨r, hr⟩ : ∃ x, x = mEq ⟨k1, l1, p1⟩ ⟨k2, l2, p2⟩ := ⟨_, rfl⟩
  rw [← hr]
  have z12 : ((k1 == 0) && (k2 == 0)) = false := by
    cases h : (k1 == 0) with
    | false => rfl
    | true =>
      have : ¬ k2 = 0 := fun h2 => hk ⟨by simpa using h, h2⟩
      simp [this]
  have hR1 : k1 < k2 → r = if k2 = 6 then t1 else if k2 = 5 then !t1 else if k2 = 4 then e1 else decide (k1 = k2) := fun h => by rw [hr, mEq_lt hk h, ht1, he1]; rfl
  have hR2 : ¬ k1 < k2 → r = if k1 = 6 then t2 else if k1 = 5 then !t2 else if k1 = 4 then e2 else decide (k2 = k1) := fun h => by rw [hr, mEq_ge hk h, ht2, he2]; rfl
  clear hr ht1 ht2 he1 he2
  have HR1 := hide_of' hR1
  have HR2 := hide_of' hR2
  clear hR1 hR2 hk
  by_cases hlt : k1 < k2
  · have hlt' : decide (k1 < k2) = true := by simpa using hlt
    rcases (show k2 = 6 ∨ k2 = 5 ∨ k2 = 4 ∨ (¬ k2 = 6 ∧ ¬ k2 = 5 ∧ ¬ k2 = 4) from by omega) with q | q | q | ⟨q6, q5, q4⟩
    · have HE : Hid (r = t1) := by show _ = _; rw [HR1.out hlt, q]; rfl
      subst q
      cases h0 : (k1 == 0)
      all_goals
        go_enter Try.func43, Try.ntmps43
        go_wp2_with fail
        refine (T1.out _ (by repeat (first | exact Below.refl _ _ | refine Below.drew ?_ | refine below_alloc' ?_ _ | refine Below.setCell ?_ (by simp) _))).mono ?_
        rintro e w1 ⟨rfl, hb⟩
        have HB := hide_of' hb
        clear hb
        go_wp2
        go_ret
        exact ⟨by rw [HE.out]; rfl, HB.out⟩
    · have HE : Hid (r = !t1) := by show _ = _; rw [HR1.out hlt, q]; rfl
      subst q
      cases h0 : (k1 == 0)
      all_goals
        go_enter Try.func43, Try.ntmps43
        go_wp2_with fail
        refine (T1.out _ (by repeat (first | exact Below.refl _ _ | refine Below.drew ?_ | refine below_alloc' ?_ _ | refine Below.setCell ?_ (by simp) _))).mono ?_
        rintro e w1 ⟨rfl, hb⟩
        have HB := hide_of' hb
        clear hb
        go_wp2
        go_ret
        exact ⟨by rw [HE.out]; rfl, HB.out⟩
    · have HE : Hid (r = e1) := by show _ = _; rw [HR1.out hlt, q]; rfl
      subst q
      cases h0 : (k1 == 0)
      all_goals
        go_enter Try.func43, Try.ntmps43
        go_wp2_with fail
        refine (E1.out _ (by repeat (first | exact Below.refl _ _ | refine Below.drew ?_ | refine below_alloc' ?_ _ | refine Below.setCell ?_ (by simp) _))).mono ?_
        rintro e w1 ⟨rfl, hb⟩
        have HB := hide_of' hb
        clear hb
        go_wp2
        go_ret
        exact ⟨by rw [HE.out]; rfl, HB.out⟩
    · have HE : Hid (r = decide (k1 = k2)) := by show _ = _; rw [HR1.out hlt, if_neg q6, if_neg q5, if_neg q4]
      have q6' : (k2 == 6) = false := by simpa using q6
      have q5' : (k2 == 5) = false := by simpa using q5
      have q4' : (k2 == 4) = false := by simpa using q4
      have HK : Hid ((k1 == k2) = decide (k1 = k2)) := by show _ = _; rw [Bool.eq_iff_iff]; simp
      clear q6 q5 q4
      cases h0 : (k1 == 0)
      all_goals
        (try (rw [h0] at z12; simp only [Bool.true_and] at z12))
        go_enter Try.func43, Try.ntmps43
        go_wp2
        go_ret
        exact ⟨by rw [HE.out, ← HK.out]; rfl, by repeat (first | exact Below.refl _ _ | refine Below.drew ?_ | refine below_alloc' ?_ _ | refine Below.setCell ?_ (by simp) _)⟩
  · have hlt' : decide (k1 < k2) = false := by simpa using hlt
    rcases (show k1 = 6 ∨ k1 = 5 ∨ k1 = 4 ∨ (¬ k1 = 6 ∧ ¬ k1 = 5 ∧ ¬ k1 = 4) from by omega) with q | q | q | ⟨q6, q5, q4⟩
    · have HE : Hid (r = t2) := by show _ = _; rw [HR2.out hlt, q]; rfl
      subst q
      cases h0 : (k2 == 0)
      all_goals
        go_enter Try.func43, Try.ntmps43
        go_wp2_with fail
        refine (T2.out _ (by repeat (first | exact Below.refl _ _ | refine Below.drew ?_ | refine below_alloc' ?_ _ | refine Below.setCell ?_ (by simp) _))).mono ?_
        rintro e w1 ⟨rfl, hb⟩
        have HB := hide_of' hb
        clear hb
        go_wp2
        go_ret
        exact ⟨by rw [HE.out]; rfl, HB.out⟩
    · have HE : Hid (r = !t2) := by show _ = _; rw [HR2.out hlt, q]; rfl
      subst q
      cases h0 : (k2 == 0)
      all_goals
        go_enter Try.func43, Try.ntmps43
        go_wp2_with fail
        refine (T2.out _ (by repeat (first | exact Below.refl _ _ | refine Below.drew ?_ | refine below_alloc' ?_ _ | refine Below.setCell ?_ (by simp) _))).mono ?_
        rintro e w1 ⟨rfl, hb⟩
        have HB := hide_of' hb
        clear hb
        go_wp2
        go_ret
        exact ⟨by rw [HE.out]; rfl, HB.out⟩
    · have HE : Hid (r = e2) := by show _ = _; rw [HR2.out hlt, q]; rfl
      subst q
      cases h0 : (k2 == 0)
      all_goals
        go_enter Try.func43, Try.ntmps43
        go_wp2_with fail
        refine (E2.out _ (by repeat (first | exact Below.refl _ _ | refine Below.drew ?_ | refine below_alloc' ?_ _ | refine Below.setCell ?_ (by simp) _))).mono ?_
        rintro e w1 ⟨rfl, hb⟩
        have HB := hide_of' hb
        clear hb
        go_wp2
        go_ret
        exact ⟨by rw [HE.out]; rfl, HB.out⟩
    · have HE : Hid (r = decide (k2 = k1)) := by show _ = _; rw [HR2.out hlt, if_neg q6, if_neg q5, if_neg q4]
      have q6' : (k1 == 6) = false := by simpa using q6
      have q5' : (k1 == 5) = false := by simpa using q5
      have q4' : (k1 == 4) = false := by simpa using q4
      have HK : Hid ((k2 == k1) = decide (k2 = k1)) := by show _ = _; rw [Bool.eq_iff_iff]; simp
      clear q6 q5 q4
      cases h0 : (k1 == 0)
      all_goals
        (try (rw [h0] at z12; simp only [Bool.true_and] at z12))
        go_enter Try.func43, Try.ntmps43
        go_wp2
        go_ret
        exact ⟨by rw [HE.out, ← HK.out]; rfl, by repeat (first | exact Below.refl _ _ | refine Below.drew ?_ | refine below_alloc' ?_ _ | refine Below.setCell ?_ (by simp) _)⟩

theorem eq43 (k1 k2 : Int) (l1 l2 : List UInt8) (p1 p2 : Bool) (a b : Option Addr) (n c m d : Nat) (w : World) (ha : Txt w a n c l1) (hb : Txt w b m d l2) :
    Calls Try.prog 43 #[.agg #[.int .u8 k1, .slice a n c, .bool p1], .agg #[.int .u8 k2, .slice b m d, .bool p2]] w fun e w' => e = .returned (.bool (mEq ⟨k1, l1, p1⟩ ⟨k2, l2, p2⟩)) ∧ Below w.heap.size w w' := by
  by_cases h : k1 = 0 ∧ k2 = 0
  · obtain ⟨rfl, rfl⟩ := h
    exact eq43_text l1 l2 p1 p2 a b n c m d w ha hb
  · exact eq43_other k1 k2 l1 l2 p1 p2 a b n c m d w ha hb h
end Go.Proofs.Qxb6616563a
