/-
  Plain Lean: what (*Bound).failed writes.
-/
import Derived.Test.Qxb6616563aLeaf2
namespace Go.Proofs.Qxb6616563a
open Go.RowKit

def special (c : UInt8) : Bool := c == 34 || c == 92
def escOne (c : UInt8) : List UInt8 := if special c then [92, c] else [c]
def esc : List UInt8 → List UInt8
  | [] => []
  | c :: t => escOne c ++ esc t
theorem esc_app (a b : List UInt8) : esc (a ++ b) = esc a ++ esc b := by
  induction a with
  | nil => rfl
  | cons c t ih => simp [esc, ih]
theorem esc_take (l : List UInt8) (j : Nat) (h : j < l.length) : esc (l.take (j + 1)) = esc (l.take j) ++ escOne (l.getD j 0) := by
  rw [List.take_succ_eq_append_getElem h, esc_app]
  simp [esc, List.getD_eq_getElem?_getD, h]
theorem escOne_len (c : UInt8) : (escOne c).length ≤ 2 := by
  unfold escOne
  split <;> simp

def sepB : Bool → ByteArray
  | true => ⟨#[58, 32]⟩
  | false => ⟨#[44, 32]⟩
theorem sepB_size (b : Bool) : (sepB b).size = 2 := by cases b <;> rfl

def tail5 : List UInt8 := [32, 105, 115, 32, 34]
def seg (sep name val : List UInt8) : List UInt8 := sep ++ name ++ tail5 ++ esc val ++ [34]
def fail7 : List UInt8 := [32, 102, 97, 105, 108, 101, 100]

def skipB (S z : Nat → Int) (k : Nat) : Bool := decide (S k < 0) || decide (z (S k).toNat < 0) || hasI S k (S k)

def Fst (text : List UInt8) (S z : Nat → Int) (W : Nat → ByteArray) (V : Nat → List UInt8) : Nat → List UInt8 × Bool
  | 0 => (text ++ fail7, true)
  | k + 1 =>
    let p := Fst text S z W V k
    if skipB S z k then p else (p.1 ++ seg (sepB p.2).data.toList (W (S k).toNat).data.toList (V (z (S k).toNat).toNat), false)

theorem Fst_skip {text : List UInt8} {S z : Nat → Int} {W : Nat → ByteArray} {V : Nat → List UInt8} {k : Nat} (h : skipB S z k = true) : Fst text S z W V (k + 1) = Fst text S z W V k := by
  simp [Fst, h]
theorem Fst_take {text : List UInt8} {S z : Nat → Int} {W : Nat → ByteArray} {V : Nat → List UInt8} {k : Nat} (h : skipB S z k = false) :
    Fst text S z W V (k + 1) = ((Fst text S z W V k).1 ++ seg (sepB (Fst text S z W V k).2).data.toList (W (S k).toNat).data.toList (V (z (S k).toNat).toNat), false) := by
  simp [Fst, h]
end Go.Proofs.Qxb6616563a
