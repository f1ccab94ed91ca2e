import Derived.Test.Qxb6616563aLaw5
import Derived.Test.Qxb6616563aSt
namespace Go.Proofs.Qxb6616563a
open Go.RowKit

def mHiLo (lo hi : MD) : Bool := if hi.k = 6 then mTruth lo else if hi.k = 5 then !(mTruth lo) else if hi.k = 4 then mEmpty lo else decide (lo.k = hi.k)
/-- b1Eq -/
def mEq (a c : MD) : Bool :=
  if a.k = 0 ∧ c.k = 0 then (if a.isN && c.isN then sameV a.val c.val else eqB a.val c.val) else if a.k < c.k then mHiLo a c else mHiLo c a

/-- an operand and the model's operand say the same -/
structure Agree (d : Dsc) (m : MD) : Prop where
  k : d.k = m.k
  v : d.val = m.val
  n : d.k = 0 → d.num = if m.isN then numOf m.val else none
  dec : d.k = 0 → m.isN = true → decB m.val = true

theorem Agree.num {d : Dsc} {m : MD} (h : Agree d m) (h0 : d.k = 0) : (m.isN = false ∧ d.num = none) ∨ (m.isN = true ∧ ∃ x, d.num = some x ∧ numOf m.val = some x) := by
  have hn := h.n h0
  have hd := h.dec h0
  cases hi : m.isN with
  | false => rw [hi] at hn; exact .inl ⟨rfl, hn⟩
  | true =>
    rw [hi] at hn hd
    have h2 := hd rfl
    rw [dec_num] at h2
    obtain ⟨x, hx⟩ := Option.isSome_iff_exists.1 h2
    exact .inr ⟨rfl, x, by rw [hn]; exact hx, hx⟩

theorem truth_agree {d : Dsc} {m : MD} (h : Agree d m) : truthD d = mTruth m := by
  unfold truthD mTruth
  rw [h.k, h.v]
  by_cases h6 : m.k = 6
  · rw [if_pos h6, if_pos h6]
  · rw [if_neg h6, if_neg h6]
    by_cases h0 : m.k = 0
    · rw [if_pos h0, if_pos h0]
      rcases h.num (by rw [h.k]; exact h0) with ⟨h1, h2⟩ | ⟨h1, x, h2, h3⟩
      · rw [h1, h2]; rfl
      · rw [h1, h2]
        show (if _ then false else !zeroN x) = (if _ then false else if true = true then !allZ m.val else true)
        rw [zero_num h3]; rfl
    · rw [if_neg h0, if_neg h0]
theorem empty_agree {d : Dsc} {m : MD} (h : Agree d m) : emptyD d = mEmpty m := by
  unfold emptyD mEmpty
  rw [h.k, h.v]
theorem eqT_agree {d1 d2 : Dsc} {m1 m2 : MD} (h1 : Agree d1 m1) (h2 : Agree d2 m2) (k1 : d1.k = 0) (k2 : d2.k = 0) : eqT d1 d2 = if m1.isN && m2.isN then sameV m1.val m2.val else eqB m1.val m2.val := by
  unfold eqT
  rw [← h1.v, ← h2.v]
  rcases h1.num k1 with ⟨a1, a2⟩ | ⟨a1, x, a2, a3⟩
  · rw [a1, a2]; rfl
  · rcases h2.num k2 with ⟨b1, b2⟩ | ⟨b1, y, b2, b3⟩
    · rw [a1, a2, b1, b2]; rfl
    · rw [a1, a2, b1, b2]
      have e1 : (if (true && true) = true then sameV d1.val d2.val else eqB d1.val d2.val) = sameV d1.val d2.val := rfl
      rw [e1, h1.v, h2.v]
      exact cmp_num a3 b3
theorem hiLo_agree {d1 d2 : Dsc} {m1 m2 : MD} (h1 : Agree d1 m1) (h2 : Agree d2 m2) : hiLo d1 d2 = mHiLo m1 m2 := by
  unfold hiLo mHiLo
  rw [truth_agree h1, empty_agree h1, h1.k, h2.k]
theorem mHiLo_same {a c : MD} (h : a.k = c.k) : mHiLo a c = mHiLo c a := by
  unfold mHiLo mTruth mEmpty
  rw [h]
  by_cases h6 : c.k = 6
  · simp [h6]
  · by_cases h5 : c.k = 5
    · simp [h5]
    · by_cases h4 : c.k = 4
      · simp [h4]
      · simp [h6, h5, h4]
theorem eq_agree {d1 d2 : Dsc} {m1 m2 : MD} (h1 : Agree d1 m1) (h2 : Agree d2 m2) : eqD d1 d2 = mEq m1 m2 := by
  unfold eqD mEq
  by_cases h0 : d1.k = 0 ∧ d2.k = 0
  · rw [if_pos h0, if_pos (by rw [← h1.k, ← h2.k]; exact h0)]
    exact eqT_agree h1 h2 h0.1 h0.2
  · have h0' : ¬ (m1.k = 0 ∧ m2.k = 0) := by rw [← h1.k, ← h2.k]; exact h0
    rw [if_neg h0, if_neg h0', h1.k, h2.k]
    by_cases hlt : m2.k < m1.k
    · rw [if_pos hlt, if_neg (by omega)]
      exact hiLo_agree h2 h1
    · rw [if_neg hlt]
      by_cases hgt : m1.k < m2.k
      · rw [if_pos hgt]; exact hiLo_agree h1 h2
      · rw [if_neg hgt, hiLo_agree h1 h2]
        exact mHiLo_same (by omega)

/-- the model's member -/
def memM (h : HArgs) (i : Nat) : MD := ⟨h.K i, h.M i, decide (h.K i = 0) && h.N i && decB (h.M i)⟩
theorem mem_agree (h : HArgs) (i : Nat) : Agree (memD h i) (memM h i) := by
  refine ⟨rfl, rfl, fun h0 => ?_, fun _ h1 => ?_⟩
  · have h0 : h.K i = 0 := h0
    show (if h.K i = 0 ∧ h.N i = true then numOf (h.M i) else none) = if (decide (h.K i = 0) && h.N i && decB (h.M i)) = true then numOf (h.M i) else none
    rw [dec_num]
    cases hn : h.N i with
    | false => simp
    | true =>
      cases hx : numOf (h.M i) with
      | none => simp
      | some x => simp [h0]
  · have h1 : (decide (h.K i = 0) && h.N i && decB (h.M i)) = true := h1
    simp only [Bool.and_eq_true] at h1
    exact h1.2

theorem x_agree {h : HArgs} {va : Option Addr} {vn vc : Nat} {val : List UInt8} {isN : Bool}
    (hv : val = xval h) (d : XDesc h.nf h.nv h.z h.A h.L h.C h.V h.xk h.ax h.nx h.cx h.X h.xn h.xs va vn vc val isN) : Agree (xD h) ⟨h.xk, xval h, isN⟩ := by
  have key : (h.xs < 0 ∧ isN = (decide (h.xk = 0) && h.xn && decB (xval h))) ∨ (0 ≤ h.xs ∧ isN = decB (xval h)) := by
    rcases d.res with ⟨h1, _, _, _, e, h2⟩ | ⟨m, hm, _, _, _, _, _, e, h2⟩ | ⟨m, f, hm, _, _, _, _, _, _, e, h2⟩
    · exact .inl ⟨h1, by rw [h2, ← e, hv]⟩
    · exact .inr ⟨by omega, by rw [h2, ← e, hv]⟩
    · exact .inr ⟨by omega, by rw [h2, ← e, hv]⟩
  refine ⟨rfl, rfl, fun h0 => ?_, fun h0 h1 => ?_⟩
  · have h0 : h.xk = 0 := h0
    show (if 0 ≤ h.xs then numOf (xval h) else xnum h) = if isN = true then numOf (xval h) else none
    rcases key with ⟨k1, k2⟩ | ⟨k1, k2⟩
    · rw [if_neg (by omega), k2, dec_num]
      have hxv : xval h = h.X := by unfold xval; rw [if_neg (by omega)]
      rw [hxv]
      unfold xnum
      cases hn : h.xn with
      | false => simp
      | true =>
        cases hx : numOf h.X with
        | none => simp
        | some x => simp [h0]
    · rw [if_pos k1, k2, dec_num]
      cases hx : numOf (xval h) with
      | none => simp
      | some x => simp
  · have h1 : isN = true := h1
    rcases key with ⟨k1, k2⟩ | ⟨k1, k2⟩
    · rw [k2] at h1; simp only [Bool.and_eq_true] at h1; exact h1.2
    · rw [k2] at h1; exact h1

/-- what the model answers is what the members' comparison answers -/
theorem model_any (h : HArgs) (k : Nat) {m : MD} (hm : Agree (xD h) m) : (List.range k).any (fun i => mEq (memM h i) m) = (memDs h k).any (eqD · (xD h)) := by
  unfold memDs
  rw [List.any_map]
  congr 1
  funext i
  exact (eq_agree (mem_agree h i) hm).symm
theorem cut_any (h : HArgs) (k p : Nat) : (memDs h k).any (eqD · (xD h)) = (((memDs h k).take p).any (eqD · (xD h)) || ((memDs h k).drop p).any (eqD · (xD h))) := by
  rw [← List.any_append, List.take_append_drop]
end Go.Proofs.Qxb6616563a
