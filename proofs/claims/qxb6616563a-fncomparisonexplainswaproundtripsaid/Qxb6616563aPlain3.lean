/-
  Plain Lean: what failed writes is what the law reads back.
-/
import Derived.Test.Qxb6616563aPlain2
import Derived.Test.Qxb6616563aExplain
namespace Go.Proofs.Qxb6616563a
open Go.RowKit

/-- the slots that name a field, in the operands' order, once each -/
def ixL (z : Nat → Int) (nf : Nat) (a b : Int) : List Nat := (if namedB z nf a then [a.toNat] else []) ++ (if namedB z nf b && (b != a) then [b.toNat] else [])

theorem ixL_rev (z : Nat → Int) (nf : Nat) (a b : Int) : ixL z nf b a = (ixL z nf a b).reverse := by
  unfold ixL
  by_cases h : a = b
  · subst h
    cases namedB z nf a <;> simp
  · have h1 : (b != a) = true := by simp; omega
    have h2 : (a != b) = true := by simp; omega
    rw [h1, h2]
    cases namedB z nf a <;> cases namedB z nf b <;> simp

theorem ixL_len (z : Nat → Int) (nf : Nat) (a b : Int) : (ixL z nf a b).length ≤ 2 := by
  unfold ixL
  cases namedB z nf a <;> cases (namedB z nf b && (b != a)) <;> simp

theorem skip0 (z : Nat → Int) (nf : Nat) (a b : Int) (h1 : a < nf) : skipB (slots2 a b) z 0 = !namedB z nf a := by
  have h2 : hasI (slots2 a b) 0 (slots2 a b 0) = false := by simp [hasI]
  unfold skipB namedB
  rw [h2]
  simp only [slots2, if_true, Bool.or_false, h1, decide_true, Bool.and_true]
  by_cases h3 : a < 0
  · have h4 : ¬ 0 ≤ a := by omega
    simp [h3, h4]
  · have h4 : 0 ≤ a := by omega
    simp only [h3, h4, decide_false, decide_true, Bool.false_or, Bool.true_and]
    by_cases h5 : z a.toNat < 0
    · have h6 : ¬ 0 ≤ z a.toNat := by omega
      simp [h5, h6]
    · have h6 : 0 ≤ z a.toNat := by omega
      simp [h5, h6]

theorem skip1 (z : Nat → Int) (nf : Nat) (a b : Int) (h1 : b < nf) : skipB (slots2 a b) z 1 = !(namedB z nf b && (b != a)) := by
  have h2 : hasI (slots2 a b) 1 (slots2 a b 1) = (b == a) := by simp [hasI, slots2]
  have h0 := skip0 z nf b b h1
  unfold skipB at h0 ⊢
  rw [h2]
  have h3 : hasI (slots2 b b) 0 (slots2 b b 0) = false := by simp [hasI]
  rw [h3] at h0
  have e1 : slots2 a b 1 = b := rfl
  have e2 : slots2 b b 0 = b := rfl
  rw [e2, Bool.or_false] at h0
  rw [e1, h0]
  cases namedB z nf b <;> simp [bne]

theorem fwd_law (text : List UInt8) (z : Nat → Int) (W : Nat → ByteArray) (V : Nat → List UInt8) (nf : Nat) (a b : Int) (h1 : a < nf) (h2 : b < nf) :
    (Fst text (slots2 a b) z W V 2).1 = text ++ fail7 ++ segs (fun i => ((ixL z nf a b).map W).getD i ⟨#[]⟩) (fun i => ((ixL z nf a b).map (fun m => V (z m).toNat)).getD i []) (ixL z nf a b).length := by
  have s0 := skip0 z nf a b h1
  have s1 := skip1 z nf a b h2
  unfold ixL
  cases hA : namedB z nf a
  · rw [hA] at s0
    have f0 := Fst_skip (text := text) (W := W) (V := V) s0
    cases hB : (namedB z nf b && (b != a))
    · rw [hB] at s1
      rw [Fst_skip s1, f0]
      simp [Fst, segs]
    · rw [hB] at s1
      rw [Fst_take s1, f0]
      simp [Fst, segs, slots2]
  · rw [hA] at s0
    have f0 := Fst_take (text := text) (W := W) (V := V) s0
    cases hB : (namedB z nf b && (b != a))
    · rw [hB] at s1
      rw [Fst_skip s1, f0]
      simp [Fst, segs, slots2]
    · rw [hB] at s1
      rw [Fst_take s1, f0]
      simp [Fst, segs, slots2]

theorem ixL_mem {z : Nat → Int} {nf : Nat} {a b : Int} {m : Nat} (h : m ∈ ixL z nf a b) : m < nf ∧ 0 ≤ z m := by
  unfold ixL at h
  rw [List.mem_append] at h
  rcases h with h | h
  · cases hA : namedB z nf a
    · rw [hA] at h; simp at h
    · rw [hA] at h
      simp at h
      subst h
      simp [namedB] at hA
      omega
  · cases hB : (namedB z nf b && (b != a))
    · rw [hB] at h; simp at h
    · rw [hB] at h
      simp at h
      subst h
      simp [namedB] at hB
      omega
end Go.Proofs.Qxb6616563a
