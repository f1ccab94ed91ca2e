/-
  Plain Lean: what scanNumber reads.
-/
import Derived.Test.Qxb6616563aBase
namespace Go.Proofs.Qxb6616563a
open Go.RowKit

theorem tw_len (p : UInt8 → Bool) : ∀ (l : List UInt8) (m : Nat), m ≤ l.length → (∀ j (h : j < l.length), j < m → p l[j] = true) → (∀ h : m < l.length, p l[m] = false) → (l.takeWhile p).length = m
  | [], m, hm, _, _ => by simp at hm; simp [hm]
  | c :: t, 0, _, _, h2 => by
    have := h2 (by simp)
    simp at this
    simp [this]
  | c :: t, m + 1, hm, h1, h2 => by
    have hc : p c = true := h1 0 (by simp) (by omega)
    simp only [List.takeWhile_cons, hc, if_true, List.length_cons]
    rw [tw_len p t m (by simpa using hm) (fun j h hj => by have := h1 (j + 1) (by simpa using h) (by omega); simpa using this) (fun h => by have := h2 (by simpa using h); simpa using this)]

/-- the first place from i on whose byte p does not take -/
def runEnd (p : Int → Bool) (l : List UInt8) (i : Nat) : Nat := i + ((l.drop i).takeWhile (fun c => p (c.toNat : Int))).length

theorem byteAt_get {l : List UInt8} {i : Nat} (h : i < l.length) : byteAt l i = (l[i].toNat : Int) := by
  unfold byteAt
  simp [List.getD_eq_getElem?_getD, h]

theorem runEnd_eq {p : Int → Bool} {l : List UInt8} {i k n : Nat} (hn : l.length = n) (hik : i ≤ k) (hkn : k ≤ n) (hall : ∀ j, i ≤ j → j < k → p (byteAt l j) = true) (hend : k < n → p (byteAt l k) = false) : runEnd p l i = k := by
  unfold runEnd
  rw [tw_len (fun c => p (c.toNat : Int)) (l.drop i) (k - i) (by simp; omega)]
  · omega
  · intro j hj hjk
    have h1 := hall (i + j) (by omega) (by omega)
    simp at hj
    rw [byteAt_get (by omega)] at h1
    simpa using h1
  · intro h
    simp at h
    have h1 := hend (by omega)
    rw [byteAt_get (by omega)] at h1
    have e : i + (k - i) = k := by omega
    simpa [e] using h1

def digP (z : Int) : Bool := decide (48 ≤ z) && decide (z ≤ 57)
def zerP (z : Int) : Bool := z == 48

/-- the end of the fraction's digits that count: behind the last that is no zero -/
def feF (l : List UInt8) (a : Nat) : Nat → Nat
  | 0 => a
  | t + 1 => if (byteAt l (a + t) == 48) = true then feF l a t else a + t + 1
theorem feF_bd (l : List UInt8) (a t : Nat) : a ≤ feF l a t ∧ feF l a t ≤ a + t := by
  induction t with
  | zero => simp [feF]
  | succ t ih =>
    unfold feF
    split <;> omega

def sgn (l : List UInt8) : Bool := decide (0 < l.length) && byteAt l 0 == 45
def fstI (l : List UInt8) : Nat := if sgn l then 1 else 0
def sigI (l : List UInt8) : Nat := runEnd zerP l (fstI l)
def endI (l : List UInt8) : Nat := runEnd digP l (sigI l)
def dotB (l : List UInt8) : Bool := decide (endI l + 1 < l.length) && byteAt l (endI l) == 46 && digP (byteAt l (endI l + 1))
def end2 (l : List UInt8) : Nat := runEnd digP l (endI l + 1)
def fenI (l : List UInt8) : Nat := feF l (endI l + 1) (end2 l - (endI l + 1))
def cutL (l : List UInt8) (a b : Nat) : List UInt8 := (l.drop a).take (b - a)
def wholeL (l : List UInt8) : List UInt8 := cutL l (sigI l) (endI l)
def fracL (l : List UInt8) : List UInt8 := if dotB l then cutL l (endI l + 1) (fenI l) else []
def scanN (l : List UInt8) : Nat := if endI l = fstI l then 0 else if dotB l then end2 l else endI l
def negF (l : List UInt8) : Bool := sgn l && (decide (0 < (wholeL l).length) || decide (0 < (fracL l).length))
abbrev NumT := Bool × List UInt8 × List UInt8
def numOf (l : List UInt8) : Option NumT := if scanN l = 0 ∨ ¬ scanN l = l.length then none else some (negF l, wholeL l, fracL l)

theorem cutL_len {l : List UInt8} {a b : Nat} (hb : b ≤ l.length) (ha : a ≤ b) : (cutL l a b).length = b - a := by
  unfold cutL
  simp
  omega
theorem byteAt_cut {l : List UInt8} {a b i : Nat} (hi : i < b - a) : byteAt (cutL l a b) i = byteAt l (a + i) := by
  unfold byteAt cutL
  simp [List.getD_eq_getElem?_getD, hi]
end Go.Proofs.Qxb6616563a
