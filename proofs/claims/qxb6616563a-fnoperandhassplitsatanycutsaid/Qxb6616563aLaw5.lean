/-
  The plain law of the numbers: what the program's own reading and comparing of decimals answers is what the law's model answers.
-/
import Derived.Test.Qxb6616563aModel4
namespace Go.Proofs.Qxb6616563a
open Go.RowKit

/-! ### Lists of digits, stripped of the zeros at their end -/
abbrev dg (c : UInt8) : Bool := digP (c.toNat : Int)
abbrev zr (c : UInt8) : Bool := zerP (c.toNat : Int)
theorem zr_dg {c : UInt8} (h : zr c = true) : dg c = true := by
  simp only [zr, zerP, beq_iff_eq] at h
  simp [dg, digP, h]
theorem zr_iff (c : UInt8) : zr c = true ↔ c = 48 := by
  simp only [zr, zerP, beq_iff_eq]
  constructor
  · intro h; exact UInt8.toNat_inj.1 (by simpa using Int.ofNat_inj.1 h)
  · rintro rfl; rfl

def rs : List UInt8 → List UInt8
  | [] => []
  | a :: t => match rs t with
    | [] => if zr a then [] else [a]
    | b :: s => a :: b :: s
theorem rs_getD (x : List UInt8) : ∀ p, (rs x).getD p 48 = x.getD p 48 := by
  induction x with
  | nil => intro p; rfl
  | cons a t ih =>
    intro p
    unfold rs
    cases hr : rs t with
    | nil =>
      rw [hr] at ih
      have hz : ∀ q, t.getD q 48 = 48 := fun q => by rw [← ih q]; rfl
      cases p with
      | zero =>
        by_cases h : zr a = true
        · simp only [h, if_true]
          rw [(zr_iff a).1 h]; rfl
        · simp [h]
      | succ p =>
        have h2 := hz p
        by_cases h : zr a = true
        · simp only [h, if_true, List.getD_cons_succ]; rw [h2]; rfl
        · simp only [h, Bool.false_eq_true, if_false, List.getD_cons_succ]; rw [h2]; rfl
    | cons b s =>
      rw [hr] at ih
      cases p with
      | zero => rfl
      | succ p => exact ih p
theorem rs_ext (x : List UInt8) : ∀ y, (∀ p, x.getD p 48 = y.getD p 48) → rs x = rs y := by
  induction x with
  | nil =>
    intro y h
    induction y with
    | nil => rfl
    | cons b u ihu =>
      have h1 := ihu (fun p => h (p + 1))
      have h0 : (48 : UInt8) = b := h 0
      show [] = rs (b :: u)
      unfold rs
      rw [← h1, ← h0]
      rfl
  | cons a t ih =>
    intro y h
    cases y with
    | nil =>
      have h0 : a = 48 := h 0
      have h1 := ih [] (fun p => h (p + 1))
      unfold rs
      rw [h1, h0]
      rfl
    | cons b u =>
      have h0 : a = b := h 0
      have h1 := ih u (fun p => h (p + 1))
      unfold rs
      rw [h1, h0]
theorem rs_snoc (x : List UInt8) (b : UInt8) : rs (x ++ [b]) = if zr b then rs x else x ++ [b] := by
  induction x with
  | nil => simp [rs]
  | cons a t ih =>
    show rs (a :: (t ++ [b])) = _
    unfold rs
    rw [ih]
    by_cases h : zr b = true
    · simp only [h, if_true]
    · simp only [h, Bool.false_eq_true, if_false]
      cases t with
      | nil => rfl
      | cons c s => rfl
theorem rs_rev (x : List UInt8) : rs x.reverse = (x.dropWhile zr).reverse := by
  induction x with
  | nil => rfl
  | cons a t ih =>
    rw [List.reverse_cons, rs_snoc]
    by_cases h : zr a = true
    · simp [h, ih]
    · simp [h]
theorem rs_nil (x : List UInt8) : (rs x).isEmpty = x.all zr := by
  induction x with
  | nil => rfl
  | cons a t ih =>
    unfold rs
    cases hr : rs t with
    | nil =>
      rw [hr] at ih
      have : t.all zr = true := ih.symm
      by_cases h : zr a = true
      · simp [h, this]
      · simp [h]
    | cons b s =>
      rw [hr] at ih
      have : t.all zr = false := ih.symm
      simp [this]
theorem dw_nil (x : List UInt8) : (x.dropWhile zr).isEmpty = x.all zr := by
  induction x with
  | nil => rfl
  | cons a t ih =>
    by_cases h : zr a = true
    · simp [h, ih]
    · simp [h]

theorem getD_left (x : List UInt8) (p : Nat) : fromLeft x p = ((x.getD p 48).toNat : Int) := by
  unfold fromLeft
  by_cases h : p < x.length
  · rw [if_pos h, byteAt_get h, List.getD_eq_getElem?_getD, List.getElem?_eq_getElem h]; rfl
  · rw [if_neg h, List.getD_eq_getElem?_getD, List.getElem?_eq_none (by omega)]; rfl
theorem getD_right (x : List UInt8) (p : Nat) : fromRight x p = ((x.reverse.getD p 48).toNat : Int) := by
  unfold fromRight
  by_cases h : p < x.length
  · rw [if_pos h, byteAt_get (by omega), List.getD_eq_getElem?_getD, List.getElem?_eq_getElem (by simpa using h), List.getElem_reverse]; rfl
  · rw [if_neg h, List.getD_eq_getElem?_getD, List.getElem?_eq_none (by simp; omega)]; rfl

theorem toNat_eq {a b : UInt8} (h : (a.toNat : Int) = (b.toNat : Int)) : a = b := UInt8.toNat_inj.1 (by omega)

theorem all_range (f : List UInt8 → Nat → Int) (F : List UInt8 → List UInt8) (hf : ∀ x p, f x p = ((F x).getD p 48 |>.toNat : Int)) (hl : ∀ x, (F x).length = x.length) (x y : List UInt8) :
    ((List.range (max x.length y.length)).all fun p => f x p == f y p) = eqB (rs (F x)) (rs (F y)) := by
  have hiff : (((List.range (max x.length y.length)).all fun p => f x p == f y p) = true) ↔ rs (F x) = rs (F y) := by
    rw [List.all_eq_true]
    constructor
    · intro h
      refine rs_ext _ _ fun p => ?_
      by_cases hp : p < max x.length y.length
      · have := h p (List.mem_range.2 hp)
        rw [beq_iff_eq, hf, hf] at this
        exact toNat_eq this
      · rw [List.getD_eq_getElem?_getD, List.getElem?_eq_none (by rw [hl]; omega), List.getD_eq_getElem?_getD, List.getElem?_eq_none (by rw [hl]; omega)]
    · intro h p _
      rw [beq_iff_eq, hf, hf, ← rs_getD (F x), ← rs_getD (F y), h]
  unfold eqB
  cases hb : ((List.range (max x.length y.length)).all fun p => f x p == f y p) with
  | true => rw [hiff.1 hb]; simp
  | false =>
    symm
    rw [beq_eq_false_iff_ne]
    intro h
    rw [hiff.2 h] at hb
    cases hb
theorem sameL_rs (x y : List UInt8) : sameL x y = eqB (rs x) (rs y) := all_range fromLeft id getD_left (fun _ => rfl) x y
theorem eqB_rev (x y : List UInt8) : eqB x.reverse y.reverse = eqB x y := by
  unfold eqB
  cases h : (x == y) with
  | true => rw [beq_iff_eq] at h; rw [h]; simp
  | false =>
    rw [beq_eq_false_iff_ne] at h ⊢
    exact fun he => h (List.reverse_inj.1 he)
theorem sameR_dw (x y : List UInt8) : sameR x y = eqB (x.dropWhile zr) (y.dropWhile zr) := by
  have := all_range fromRight List.reverse getD_right (fun x => by simp) x y
  rw [rs_rev, rs_rev, eqB_rev] at this
  exact this

/-! ### The parts of a text -/
theorem tw_drop {p : UInt8 → Bool} (r : List UInt8) : r.drop (r.takeWhile p).length = r.dropWhile p := by
  induction r with
  | nil => rfl
  | cons a t ih =>
    by_cases h : p a = true
    · simp [h, ih]
    · simp [h]
theorem tw_take {p : UInt8 → Bool} (r : List UInt8) : r.take (r.takeWhile p).length = r.takeWhile p := by
  induction r with
  | nil => rfl
  | cons a t ih =>
    by_cases h : p a = true
    · simp [h, ih]
    · simp [h]
theorem tw_zero (r : List UInt8) : (r.dropWhile zr).takeWhile dg = (r.takeWhile dg).dropWhile zr ∧ (r.takeWhile zr).length + ((r.dropWhile zr).takeWhile dg).length = (r.takeWhile dg).length := by
  induction r with
  | nil => exact ⟨rfl, rfl⟩
  | cons a t ih =>
    by_cases h : zr a = true
    · have h2 : dg a = true := zr_dg h
      simp only [List.dropWhile_cons, List.takeWhile_cons, h, h2, if_true, List.length_cons]
      exact ⟨ih.1, by omega⟩
    · by_cases h2 : dg a = true
      · simp [h, h2]
      · simp [h, h2]
theorem dw_head {p : UInt8 → Bool} (r : List UInt8) {c : UInt8} {u : List UInt8} (h : r.dropWhile p = c :: u) : p c = false := by
  induction r with
  | nil => simp at h
  | cons a t ih =>
    by_cases ha : p a = true
    · simp only [List.dropWhile_cons, ha, if_true] at h; exact ih h
    · simp only [List.dropWhile_cons, ha, Bool.false_eq_true, if_false, List.cons.injEq] at h
      rw [← h.1]; simpa using ha
theorem tw_all {p : UInt8 → Bool} (r : List UInt8) : (r.takeWhile p).all p = true := by
  induction r with
  | nil => rfl
  | cons a t ih =>
    by_cases ha : p a = true
    · simp [ha, ih]
    · simp [ha]
theorem tw_whole {p : UInt8 → Bool} (x u : List UInt8) (hx : x.all p = true) (hu : ∀ c v, u = c :: v → p c = false) : (x ++ u).takeWhile p = x := by
  induction x with
  | nil =>
    cases u with
    | nil => rfl
    | cons c v => simp [hu c v rfl]
  | cons a t ih =>
    simp only [List.all_cons, Bool.and_eq_true] at hx
    simp [hx.1, ih hx.2]

theorem byteAt_drop {l : List UInt8} {i : Nat} {c : UInt8} {u : List UInt8} (h : l.drop i = c :: u) : byteAt l i = (c.toNat : Int) := by
  have h1 : l[i]? = some c := by
    have := List.getElem?_drop (xs := l) (i := i) (j := 0)
    rw [h] at this
    simpa using this.symm
  unfold byteAt
  rw [List.getD_eq_getElem?_getD, h1]; rfl
theorem len_drop {l : List UInt8} {i : Nat} (hi : i ≤ l.length) : l.length = i + (l.drop i).length := by rw [List.length_drop]; omega

theorem fst_le (l : List UInt8) : fstI l ≤ l.length := by
  unfold fstI
  by_cases h : sgn l = true
  · rw [if_pos h]
    unfold sgn at h
    simp at h
    have := h.1
    cases l with
    | nil => simp at this
    | cons a t => simp
  · rw [if_neg h]; omega
theorem sgn_pre (l : List UInt8) : l = (if sgn l then [45] else []) ++ l.drop (fstI l) := by
  unfold fstI
  by_cases h : sgn l = true
  · rw [if_pos h, if_pos h]
    unfold sgn at h
    cases l with
    | nil => simp at h
    | cons a t =>
      simp [byteAt] at h
      have : a = 45 := UInt8.toNat_inj.1 (by have h45 : (45 : UInt8).toNat = 45 := rfl; omega)
      rw [this]; rfl
  · rw [if_neg h, if_neg h]; rfl

theorem feF_rs (l : List UInt8) (a : Nat) : ∀ t, a + t ≤ l.length → cutL l a (feF l a t) = rs (cutL l a (a + t)) := by
  intro t
  induction t with
  | zero => intro _; unfold cutL feF; simp [rs]
  | succ t ih =>
    intro h
    have h1 : cutL l a (a + (t + 1)) = cutL l a (a + t) ++ [l[a + t]'(by omega)] := by
      unfold cutL
      rw [Nat.add_sub_cancel_left, Nat.add_sub_cancel_left]
      rw [List.take_add_one, List.getElem?_drop, List.getElem?_eq_getElem (by omega)]
      rfl
    rw [h1, rs_snoc]
    unfold feF
    rw [byteAt_get (by omega)]
    show cutL l a (if zr (l[a + t]'(by omega)) = true then feF l a t else a + t + 1) = _
    by_cases hz : zr (l[a + t]'(by omega)) = true
    · rw [if_pos hz, if_pos hz]; exact ih (by omega)
    · rw [if_neg hz, if_neg hz, ← h1]; rfl

/-- a decimal text: its digits ahead of the point and behind it -/
structure Dcm (l d1 d2 : List UInt8) : Prop where
  dec : decB l = true
  num : numOf l = some (negF l, wholeL l, fracL l)
  w : sW l = d1
  f : sF l = d2
  whole : wholeL l = d1.dropWhile zr
  frac : fracL l = rs d2
  z : allZ l = (d1.all zr && d2.all zr)

theorem all_dg {x : List UInt8} (h : x.all dg = true) : (x.all fun c => !(digP (c.toNat : Int)) || (c.toNat : Int) == 48) = x.all zr := by
  induction x with
  | nil => rfl
  | cons a t ih =>
    simp only [List.all_cons, Bool.and_eq_true] at h
    have h1 : digP (a.toNat : Int) = true := h.1
    simp only [List.all_cons, ih h.2, h1]
    rfl
theorem all_nd {x : List UInt8} (h : x.all dg = true) : x.all (fun c => ndotP (c.toNat : Int)) = true := by
  rw [List.all_eq_true] at h ⊢
  intro c hc
  have h1 : digP (c.toNat : Int) = true := h c hc
  simp [digP] at h1
  simp [ndotP]
  omega

theorem dcm (l : List UInt8) : (decB l = false ∧ numOf l = none) ∨ ∃ d1 d2, Dcm l d1 d2 := by
  obtain ⟨r, hr⟩ : ∃ r, r = l.drop (fstI l) := ⟨_, rfl⟩
  obtain ⟨d1, hd1⟩ : ∃ d, d = r.takeWhile dg := ⟨_, rfl⟩
  obtain ⟨t, ht⟩ : ∃ t, t = r.dropWhile dg := ⟨_, rfl⟩
  have hfl := fst_le l
  have hpre := sgn_pre l
  rw [← hr] at hpre
  have hrd : r = d1 ++ t := by rw [hd1, ht, List.takeWhile_append_dropWhile]
  have hll : l.length = fstI l + r.length := by rw [hr]; exact len_drop hfl
  have hd1a : d1.all dg = true := by rw [hd1]; exact tw_all r
  have eE : dEnd l = fstI l + d1.length := by unfold dEnd runEnd; rw [← hr, hd1]
  have eS : sigI l = fstI l + (r.takeWhile zr).length := by unfold sigI runEnd; rw [← hr]
  have eSd : l.drop (sigI l) = r.dropWhile zr := by rw [eS, ← List.drop_drop, ← hr]; exact tw_drop r
  have eI : endI l = dEnd l := by
    have := (tw_zero r).2
    unfold endI runEnd
    rw [eSd, eS, eE, hd1]
    show _ + ((r.dropWhile zr).takeWhile dg).length = _
    omega
  have hW : wholeL l = d1.dropWhile zr := by
    unfold wholeL cutL
    rw [eSd]
    have : endI l - sigI l = ((r.dropWhile zr).takeWhile dg).length := by
      unfold endI runEnd
      rw [eSd]
      show _ + ((r.dropWhile zr).takeWhile dg).length - _ = _
      omega
    rw [this, tw_take, (tw_zero r).1, hd1]
  have eD : l.drop (dEnd l) = t := by rw [eE, ← List.drop_drop, ← hr, ht, hd1]; exact tw_drop r
  have hlen : l.length = dEnd l + t.length := by rw [hll, hrd, eE, List.length_append]; omega
  have allz : ∀ u, t = u → allZ l = (d1.all zr && u.all (fun c => !(digP (c.toNat : Int)) || (c.toNat : Int) == 48)) := by
    intro u hu
    unfold allZ
    rw [hpre, hrd, hu, List.all_append, List.all_append, all_dg hd1a]
    by_cases hs : sgn l = true
    · rw [if_pos hs]; rfl
    · rw [if_neg hs]; rfl
  by_cases h0 : d1 = []
  · left
    have hz : dEnd l = fstI l := by rw [eE, h0]; rfl
    refine ⟨by unfold decB; rw [if_pos hz], ?_⟩
    unfold numOf scanN
    rw [eI, if_pos hz]
    simp
  have h0l : 0 < d1.length := List.length_pos_iff.2 h0
  have hz : ¬ dEnd l = fstI l := by omega
  cases t with
  | nil =>
    right
    have hl2 : dEnd l = l.length := by rw [hlen]; rfl
    have hdot : dotB l = false := by
      have : decide (l.length + 1 < l.length) = false := by simp
      unfold dotB; rw [eI, hl2, this]; rfl
    have hdI : dotI l = l.length := by
      unfold dotI runEnd
      rw [← hr, hrd, tw_whole (p := fun c => ndotP (c.toNat : Int)) d1 [] (all_nd hd1a) (fun c v h => by cases h), ← hl2, eE]
    have hfr : fracL l = [] := by unfold fracL; rw [if_neg (by rw [hdot]; simp)]
    refine ⟨d1, [], ?_, ?_, ?_, ?_, hW, hfr, ?_⟩
    · unfold decB; rw [if_neg hz, if_pos hl2]
    · have hs : scanN l = dEnd l := by unfold scanN; rw [eI, if_neg hz]; simp [hdot]
      unfold numOf; rw [hs, if_neg (by omega)]
    · unfold sW cutL; rw [hdI, ← hr, List.take_of_length_le (by omega), hrd, List.append_nil]
    · unfold sF; rw [if_neg (by omega)]
    · exact allz [] rfl
  | cons c u =>
    have hc : byteAt l (dEnd l) = (c.toNat : Int) := byteAt_drop eD
    have hl2 : l.length = dEnd l + 1 + u.length := by rw [hlen, List.length_cons]; omega
    have eU : l.drop (dEnd l + 1) = u := by rw [← List.drop_drop, eD]; rfl
    by_cases h46 : (c.toNat : Int) = 46
    · obtain ⟨d2, hd2⟩ : ∃ d, d = u.takeWhile dg := ⟨_, rfl⟩
      have e2 : dEnd2 l = dEnd l + 1 + d2.length := by unfold dEnd2 runEnd; rw [eU, hd2]
      have e22 : end2 l = dEnd l + 1 + d2.length := by unfold end2 runEnd; rw [eI, eU, hd2]
      have hdB : dotB l = decide (0 < d2.length) := by
        unfold dotB
        rw [eI, hc, h46]
        cases u with
        | nil => rw [hd2]; simp; intro h; simp at hl2; omega
        | cons x v =>
          have hx : byteAt l (dEnd l + 1) = (x.toNat : Int) := byteAt_drop eU
          rw [hx, hd2]
          have : decide (dEnd l + 1 < l.length) = true := by simp at hl2 ⊢; omega
          rw [this]
          by_cases hdx : dg x = true
          · have hdx' : digP (x.toNat : Int) = true := hdx
            simp [hdx']
          · have hdx' : digP (x.toNat : Int) = false := by simpa using hdx
            simp [hdx']
      have hd2u : u = d2 ++ u.dropWhile dg := by rw [hd2, List.takeWhile_append_dropWhile]
      by_cases hb : d2 = []
      · left
        have hdB' : dotB l = false := by rw [hdB, hb]; rfl
        refine ⟨?_, ?_⟩
        · unfold decB; rw [if_neg hz, if_neg (by omega), hc, h46, if_pos (by rfl), e2, hb]; simp
        · have hs : scanN l = dEnd l := by unfold scanN; rw [eI, if_neg hz]; simp [hdB']
          unfold numOf; rw [hs, if_pos (.inr (by omega))]
      · have hbl : 0 < d2.length := List.length_pos_iff.2 hb
        have hdB' : dotB l = true := by rw [hdB]; simpa using hbl
        cases hv : u.dropWhile dg with
        | cons y v =>
          left
          have hul : u.length = d2.length + (v.length + 1) := by rw [hd2u, hv, List.length_append, List.length_cons]
          refine ⟨?_, ?_⟩
          · unfold decB; rw [if_neg hz, if_neg (by omega), hc, h46, if_pos (by rfl), e2]; simp; omega
          · have hs : scanN l = end2 l := by unfold scanN; rw [eI, if_neg hz]; simp [hdB']
            unfold numOf; rw [hs, e22, if_pos (.inr (by omega))]
        | nil =>
          right
          have hu : u = d2 := by rw [hd2u, hv, List.append_nil]
          have hd2a : d2.all dg = true := by rw [hd2]; exact tw_all u
          have hul : u.length = d2.length := by rw [hu]
          have hdI : dotI l = dEnd l := by
            unfold dotI runEnd
            rw [← hr, hrd, tw_whole (p := fun c => ndotP (c.toNat : Int)) d1 (c :: u) (all_nd hd1a) (fun c' v h => by cases h; simp [ndotP, h46]), eE]
          have hfr : fracL l = rs d2 := by
            unfold fracL
            rw [if_pos hdB']
            unfold fenI
            rw [e22, eI, Nat.add_sub_cancel_left, feF_rs l (dEnd l + 1) d2.length (by omega)]
            unfold cutL
            rw [Nat.add_sub_cancel_left, eU, hu, List.take_length]
          refine ⟨d1, d2, ?_, ?_, ?_, ?_, hW, hfr, ?_⟩
          · unfold decB; rw [if_neg hz, if_neg (by omega), hc, h46, if_pos (by rfl), e2]; simp; omega
          · have hs : scanN l = end2 l := by unfold scanN; rw [eI, if_neg hz]; simp [hdB']
            unfold numOf; rw [hs, e22, if_neg (by omega)]
          · unfold sW cutL; rw [hdI, ← hr, hrd, eE, Nat.add_sub_cancel_left, List.take_left]
          · unfold sF cutL; rw [hdI, if_pos (by omega), eU, List.take_of_length_le (by omega), hu]
          · rw [allz _ rfl, List.all_cons, h46, hu, all_dg hd2a]; rfl
    · left
      have hdB : dotB l = false := by unfold dotB; rw [eI, hc]; simp [h46]
      refine ⟨?_, ?_⟩
      · unfold decB; rw [if_neg hz, if_neg (by omega), hc, if_neg (by simpa using h46)]
      · have hs : scanN l = dEnd l := by unfold scanN; rw [eI, if_neg hz]; simp [hdB]
        unfold numOf; rw [hs, if_pos (.inr (by omega))]

theorem dec_num (l : List UInt8) : decB l = (numOf l).isSome := by
  rcases dcm l with ⟨h1, h2⟩ | ⟨d1, d2, h⟩
  · rw [h1, h2]; rfl
  · rw [h.dec, h.num]; rfl
theorem zero_num {l : List UInt8} {x : NumT} (h : numOf l = some x) : zeroN x = allZ l := by
  rcases dcm l with ⟨_, h2⟩ | ⟨d1, d2, d⟩
  · rw [h2] at h; cases h
  · rw [d.num] at h
    cases h
    unfold zeroN
    show ((wholeL l).isEmpty && (fracL l).isEmpty) = _
    rw [d.whole, d.frac, dw_nil, rs_nil, d.z]
theorem cmp_num {a c : List UInt8} {x y : NumT} (ha : numOf a = some x) (hc : numOf c = some y) : cmp0 x y = sameV a c := by
  have za := zero_num ha
  have zc := zero_num hc
  rcases dcm a with ⟨_, h2⟩ | ⟨d1, d2, da⟩
  · rw [h2] at ha; cases ha
  rcases dcm c with ⟨_, h2⟩ | ⟨e1, e2, dc⟩
  · rw [h2] at hc; cases hc
  rw [da.num] at ha
  rw [dc.num] at hc
  cases ha
  cases hc
  have na : ∀ l : List UInt8, zeroN (negF l, wholeL l, fracL l) = allZ l → negF l = (sgn l && !allZ l) := by
    intro l hz
    unfold negF
    rw [← hz]
    unfold zeroN
    show _ = (sgn l && !((wholeL l).isEmpty && (fracL l).isEmpty))
    cases wholeL l <;> cases fracL l <;> simp
  have ka := na a za
  have kc := na c zc
  unfold sameV cmp0
  show ((negF a == negF c) && (eqB (wholeL a) (wholeL c) && eqB (fracL a) (fracL c))) = _
  unfold zeroN at za zc
  cases ha : allZ a with
  | true =>
    rw [ha] at za ka
    cases hc : allZ c with
    | true =>
      rw [hc] at zc kc
      simp only [Bool.and_eq_true, List.isEmpty_iff] at za zc
      rw [ka, kc, za.1, za.2, zc.1, zc.2]
      simp [eqB]
    | false =>
      rw [hc] at zc
      simp only [Bool.and_eq_true, List.isEmpty_iff] at za
      simp only [Bool.and_eq_false_iff] at zc
      rw [za.1, za.2]
      have : (eqB [] (wholeL c) && eqB [] (fracL c)) = false := by
        rw [Bool.and_eq_false_iff]
        rcases zc with h | h
        · left; unfold eqB; cases hx : wholeL c with
          | nil => rw [hx] at h; cases h
          | cons _ _ => rfl
        · right; unfold eqB; cases hx : fracL c with
          | nil => rw [hx] at h; cases h
          | cons _ _ => rfl
      rw [this]
      simp
  | false =>
    rw [ha] at za ka
    cases hc : allZ c with
    | true =>
      rw [hc] at zc
      simp only [Bool.and_eq_true, List.isEmpty_iff] at zc
      simp only [Bool.and_eq_false_iff] at za
      rw [zc.1, zc.2]
      have : (eqB (wholeL a) [] && eqB (fracL a) []) = false := by
        rw [Bool.and_eq_false_iff]
        rcases za with h | h
        · left; unfold eqB; cases hx : wholeL a with
          | nil => rw [hx] at h; cases h
          | cons _ _ => rfl
        · right; unfold eqB; cases hx : fracL a with
          | nil => rw [hx] at h; cases h
          | cons _ _ => rfl
      rw [this]
      simp
    | false =>
      rw [hc] at kc
      rw [ka, kc, da.w, dc.w, da.f, dc.f, sameR_dw, sameL_rs, ← da.whole, ← dc.whole, ← da.frac, ← dc.frac]
      cases sgn a <;> cases sgn c <;> simp
end Go.Proofs.Qxb6616563a
