/-
  Plain Lean: how a reason is read back.
-/
import Derived.Test.Qxb6616563aPlain1
namespace Go.Proofs.Qxb6616563a
open Go.RowKit

def segs (Nm : Nat → ByteArray) (vs : Nat → List UInt8) : Nat → List UInt8
  | 0 => []
  | j + 1 => segs Nm vs j ++ seg (sepB (decide (j = 0))).data.toList (Nm j).data.toList (vs j)

theorem segs_split (Nm : Nat → ByteArray) (vs : Nat → List UInt8) (j m : Nat) (h : j < m) : ∃ rest, segs Nm vs m = segs Nm vs j ++ seg (sepB (decide (j = 0))).data.toList (Nm j).data.toList (vs j) ++ rest := by
  induction m with
  | zero => omega
  | succ m ih =>
    by_cases hj : j = m
    · subst hj
      exact ⟨[], by simp [segs]⟩
    · obtain ⟨rest, hr⟩ := ih (by omega)
      exact ⟨rest ++ seg (sepB (decide (m = 0))).data.toList (Nm m).data.toList (vs m), by simp [segs, hr]⟩

theorem getElem_data (p : ByteArray) (j : Nat) (h : j < p.size) : p.data.toList[j]'(by simpa using h) = p[j] := rfl

theorem pre_at {l pre rest : List UInt8} {p : ByteArray} {i : Nat} (hl : l = pre ++ p.data.toList ++ rest) (hi : pre.length = i) :
    (i + p.size ≤ l.length) ∧ ∀ j (h : j < p.size), byteAt l (i + j) = (p[j].toNat : Int) := by
  subst hl
  have hs : p.data.toList.length = p.size := by simp
  refine ⟨by simp; omega, fun j h => ?_⟩
  unfold byteAt
  have h1 : i + j < (pre ++ p.data.toList).length := by simp; omega
  rw [List.getD_eq_getElem?_getD, List.getElem?_append_left h1, List.getElem?_append_right (by omega)]
  have h2 : i + j - pre.length = j := by omega
  rw [h2, List.getElem?_eq_getElem (by omega)]
  rfl

theorem byteAt_mid (pre rest : List UInt8) (c : UInt8) (i : Nat) (hi : pre.length = i) : byteAt (pre ++ c :: rest) i = (c.toNat : Int) := by
  unfold byteAt
  rw [List.getD_eq_getElem?_getD, List.getElem?_append_right (by omega)]
  simp [hi]

theorem take_snoc' (l : List UInt8) (t : Nat) (h : t < l.length) : l.take (t + 1) = l.take t ++ [l.getD t 0] := by
  rw [List.take_succ_eq_append_getElem h]
  simp [List.getD_eq_getElem?_getD, h]

/-- where byte t of the value stands in the text -/
theorem mid_split (v : List UInt8) (t : Nat) (h : t < v.length) : ∃ rest, esc v = esc (v.take t) ++ (escOne (v.getD t 0) ++ rest) := by
  refine ⟨esc (v.drop (t + 1)), ?_⟩
  have e : v = v.take (t + 1) ++ v.drop (t + 1) := (List.take_append_drop _ _).symm
  have h1 : esc v = esc (v.take (t + 1)) ++ esc (v.drop (t + 1)) := by rw [← esc_app, ← e]
  rw [h1, esc_take v t h, List.append_assoc]

structure MidFacts (l v : List UInt8) (q0 n t : Nat) : Prop where
  plain : special (v.getD t 0) = false → q0 + (esc (v.take t)).length < n ∧ byteAt l (q0 + (esc (v.take t)).length) = ((v.getD t 0).toNat : Int) ∧ (esc (v.take (t + 1))).length = (esc (v.take t)).length + 1
  quoted : special (v.getD t 0) = true → q0 + (esc (v.take t)).length + 1 < n ∧ byteAt l (q0 + (esc (v.take t)).length) = 92 ∧ byteAt l (q0 + (esc (v.take t)).length + 1) = ((v.getD t 0).toNat : Int) ∧ (esc (v.take (t + 1))).length = (esc (v.take t)).length + 2

theorem mid_facts {l pre v rest : List UInt8} {q0 n t : Nat} (hl : l = pre ++ (esc v ++ (34 :: rest))) (hq : pre.length = q0) (hn : l.length = n) (ht : t < v.length) : MidFacts l v q0 n t := by
  obtain ⟨r, hr⟩ := mid_split v t ht
  have hT := esc_take v t ht
  refine ⟨fun hs => ?_, fun hs => ?_⟩
  · have e1 : escOne (v.getD t 0) = [v.getD t 0] := by unfold escOne; rw [hs]; rfl
    rw [e1] at hr hT
    have e2 : l = (pre ++ esc (v.take t)) ++ v.getD t 0 :: (r ++ 34 :: rest) := by rw [hl, hr]; simp
    refine ⟨?_, ?_, by rw [hT]; simp⟩
    · rw [← hn, e2]; simp; omega
    · rw [e2]; exact byteAt_mid _ _ _ _ (by simp; omega)
  · have e1 : escOne (v.getD t 0) = [92, v.getD t 0] := by unfold escOne; rw [hs]; rfl
    rw [e1] at hr hT
    have e2 : l = (pre ++ esc (v.take t)) ++ 92 :: (v.getD t 0 :: (r ++ 34 :: rest)) := by rw [hl, hr]; simp
    have e3 : l = (pre ++ esc (v.take t) ++ [92]) ++ v.getD t 0 :: (r ++ 34 :: rest) := by rw [hl, hr]; simp
    refine ⟨?_, ?_, ?_, by rw [hT]; simp⟩
    · rw [← hn, e2]; simp; omega
    · rw [e2]; exact byteAt_mid _ _ _ _ (by simp; omega)
    · rw [e3]; exact byteAt_mid _ _ _ _ (by simp; omega)

theorem end_fact {l pre v rest : List UInt8} {q0 n : Nat} (hl : l = pre ++ (esc v ++ (34 :: rest))) (hq : pre.length = q0) (hn : l.length = n) :
    q0 + (esc v).length < n ∧ byteAt l (q0 + (esc v).length) = 34 := by
  have e2 : l = (pre ++ esc v) ++ 34 :: rest := by rw [hl]; simp
  refine ⟨by rw [← hn, e2]; simp; omega, ?_⟩
  rw [e2]; exact byteAt_mid _ _ _ _ (by simp; omega)
end Go.Proofs.Qxb6616563a
