import Derived.Test.Qxb6616563aModel3
import Derived.Lib.SlBytesConst
namespace Go.Proofs.Qxb6616563a
open Go.RowKit

/-- the model's operand -/
structure MD where
  k : Int
  val : List UInt8
  isN : Bool
def mTruth (d : MD) : Bool :=
  if d.k = 6 then true else if d.k = 0 then (if d.val.isEmpty || d.val == falseL then false else if d.isN then !allZ d.val else true) else false
def mEmpty (d : MD) : Bool := if d.k = 4 then true else if d.k = 0 then d.val.isEmpty else false

abbrev mdV (d : MD) (a : Option Addr) (n c : Nat) : Value := .agg #[.int .u8 d.k, .slice a n c, .bool d.isN]

set_option maxRecDepth 100000 in
set_option maxHeartbeats 1000000 in
theorem empty51 (d : MD) (a : Option Addr) (n c : Nat) (w : World) (ha : Bytes w a n d.val) :
    Calls Try.prog 51 #[mdV d a n c] w fun e w' => e = .returned (.bool (mEmpty d)) ∧ Below w.heap.size w w' := by
  have HL : Hid (d.val.length = n) := ha.1
  cases k4 : (d.k == 4) with
  | true =>
    have HE : Hid (mEmpty d = true) := by show _ = _; unfold mEmpty; rw [if_pos (by simpa using k4)]
    go_enter Try.func51, Try.ntmps51
    go_wp2
    go_ret
    exact ⟨by rw [HE.out]; rfl, below_alloc' (Below.refl _ _) _⟩
  | false =>
    cases k0 : (d.k == 0) with
    | false =>
      have HE : Hid (mEmpty d = false) := by show _ = _; unfold mEmpty; rw [if_neg (by simpa using k4), if_neg (by simpa using k0)]
      go_enter Try.func51, Try.ntmps51
      go_wp2
      go_ret
      exact ⟨by rw [HE.out]; rfl, below_alloc' (Below.refl _ _) _⟩
    | true =>
      have HE : Hid (mEmpty d = ((n : Int) == 0)) := by
        show _ = _
        unfold mEmpty
        rw [if_neg (by simpa using k4), if_pos (by simpa using k0), ← HL.out]
        cases d.val <;> simp
        omega
      go_enter Try.func51, Try.ntmps51
      go_wp2
      go_ret
      exact ⟨by rw [HE.out]; rfl, below_alloc' (Below.refl _ _) _⟩

abbrev falseC : Array Value := #[.int .u8 102, .int .u8 97, .int .u8 108, .int .u8 115, .int .u8 101]
theorem conv_false (w : World) (o : Obj) : (convert 32 32 (.slice (some ⟨w.heap.size + 1, 0, none⟩) 5 5)).run Try.prog ((w.alloc o).alloc (.cells falseC 5)) = .ok (.slice (some ⟨w.heap.size + 1, 0, none⟩) 5 5) ((w.alloc o).alloc (.cells falseC 5 (5, 6))) := by
  have h := Lib.run_convert_bytes_const (P := Try.prog) (w.alloc o) 32 5 falseC 5 5 Try.underlying32 Try.underlying5
  rw [World.size_alloc] at h
  exact h
theorem lit_false (w : World) (o : Obj) : Bytes ((w.alloc o).alloc (.cells falseC 5 (5, 6))) (some ⟨w.heap.size + 1, 0, none⟩) 5 falseL := by
  refine ⟨rfl, fun _ => ⟨_, 0, rfl, fun i hi => ?_⟩⟩
  have e : ((w.alloc o).alloc (.cells falseC 5 (5, 6))).cell? ⟨w.heap.size + 1, 0 + i, none⟩ = falseC[i]? := by
    rw [Nat.zero_add]
    have h2 : ((w.alloc o).alloc (.cells falseC 5 (5, 6))).heap[w.heap.size + 1]? = some (.cells falseC 5 (5, 6)) := by
      show ((w.heap.push o).push (Obj.cells falseC 5 (5, 6)))[w.heap.size + 1]? = _
      have h3 : w.heap.size + 1 = (w.heap.push o).size := by simp
      rw [h3, Array.getElem?_push_size]
    unfold World.cell?
    simp only [h2]
    rfl
  rw [e]
  match i, hi with
  | 0, _ => rfl
  | 1, _ => rfl
  | 2, _ => rfl
  | 3, _ => rfl
  | 4, _ => rfl

set_option maxRecDepth 100000 in
set_option maxHeartbeats 1000000 in
theorem truth50 (d : MD) (a : Option Addr) (n c : Nat) (w : World) (ha : Bytes w a n d.val) (hn : n ≤ 1048576) :
    Calls Try.prog 50 #[mdV d a n c] w fun e w' => e = .returned (.bool (mTruth d)) ∧ Below w.heap.size w w' := by
  have HL : Hid (d.val.length = n) := ha.1
  have HA := hide_of' ha
  clear ha
  cases k6 : (d.k == 6) with
  | true =>
    have HE : Hid (mTruth d = true) := by show _ = _; unfold mTruth; rw [if_pos (by simpa using k6)]
    go_enter Try.func50, Try.ntmps50
    go_wp2
    go_ret
    exact ⟨by rw [HE.out]; rfl, below_alloc' (Below.refl _ _) _⟩
  | false =>
    cases k0 : (d.k == 0) with
    | false =>
      have k0' : (d.k != 0) = true := by simp [bne, k0]
      have HE : Hid (mTruth d = false) := by show _ = _; unfold mTruth; rw [if_neg (by simpa using k6), if_neg (by simpa using k0)]
      go_enter Try.func50, Try.ntmps50
      go_wp2
      go_ret
      exact ⟨by rw [HE.out]; rfl, below_alloc' (Below.refl _ _) _⟩
    | true =>
      have k0' : (d.k != 0) = false := by simp [bne, k0]
      have HE : Hid (mTruth d = (if d.val.isEmpty || d.val == falseL then false else if d.isN then !allZ d.val else true)) := by show _ = _; unfold mTruth; rw [if_neg (by simpa using k6), if_pos (by simpa using k0)]
      by_cases hn0 : n = 0
      · have HE2 : Hid (mTruth d = false) := by
          show _ = _
          have : d.val = [] := List.length_eq_zero_iff.1 (by rw [HL.out]; exact hn0)
          rw [HE.out, this]; rfl
        subst hn0
        go_enter Try.func50, Try.ntmps50
        go_wp2
        go_ret
        exact ⟨by rw [HE2.out]; rfl, below_alloc' (Below.refl _ _) _⟩
      · have hn0' : ((n : Int) == 0) = false := by simp; omega
        have HNE : Hid (d.val.isEmpty = false) := by
          show _ = _
          cases hx : d.val with
          | nil => exact absurd (by rw [← HL.out, hx]; rfl) hn0
          | cons a t => rfl
        obtain ⟨q, hq⟩ : ∃ q, q = eqB d.val falseL := ⟨_, rfl⟩
        have HQ := hide_of' hq
        clear hq
        have hcv := conv_false w (.cells #[.int .u8 d.k, .slice a n c, .bool d.isN] 53)
        go_enter Try.func50, Try.ntmps50
        go_wp2_with fail
        refine (bytesEq_any _ _ _ _ _ _ d.val falseL _ (HA.out.below (below_alloc' (below_alloc' (Below.refl _ _) _) _)) (lit_false _ _) (by omega) (by decide)).mono ?_
        rw [← HQ.out]
        rintro e w1 ⟨rfl, hw1⟩
        have HB1 : Hid (Below w.heap.size w w1) := below_drawn (below_alloc' (below_alloc' (Below.refl _ _) _) _) hw1
        obtain ⟨kq, hw1⟩ := hw1
        have c1 : w1.cell? ⟨w.heap.size, 1, none⟩ = some (.slice a n c) := by rw [hw1]; go_simp
        have c2 : w1.cell? ⟨w.heap.size, 2, none⟩ = some (.bool d.isN) := by rw [hw1]; go_simp
        clear hw1
        cases q with
        | true =>
          have HE2 : Hid (mTruth d = false) := by
            show _ = _
            have : (d.val == falseL) = true := HQ.out.symm
            rw [HE.out, this]; simp
          go_wp2
          go_ret
          exact ⟨by rw [HE2.out]; rfl, HB1.out⟩
        | false =>
          have HE2 : Hid (mTruth d = if d.isN then !allZ d.val else true) := by
            show _ = _
            have : (d.val == falseL) = false := HQ.out.symm
            rw [HE.out, this, HNE.out]; rfl
          obtain ⟨isN, hisN⟩ : ∃ b, b = d.isN := ⟨_, rfl⟩
          rw [← hisN] at c2 HE2
          clear hisN
          cases isN with
          | false =>
            go_wp2
            go_ret
            exact ⟨by rw [HE2.out]; rfl, HB1.out⟩
          | true =>
            go_wp2_with fail
            refine (allZ30 a n c d.val w1 (HA.out.below HB1.out) (by omega)).mono ?_
            rintro e w2 ⟨rfl, hw2⟩
            subst hw2
            go_wp2
            go_ret
            exact ⟨by rw [HE2.out]; rfl, HB1.out⟩
end Go.Proofs.Qxb6616563a
