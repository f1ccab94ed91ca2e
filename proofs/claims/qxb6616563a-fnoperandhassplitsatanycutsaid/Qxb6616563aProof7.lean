import Derived.Test.Qxb6616563aRows
import Derived.Test.Qxb6616563aMain7
import Derived.Test.Qxb6616563aOpen2
import Derived.ShutString
import Derived.ChangeOld
namespace Go.Proofs.Qxb6616563a
open Go.ChangeShapes Go.WideShapes Go.ChangeAt Go.RowKit

theorem own : ownKnob Try.prog.godebug = none := by kernel_rfl
theorem laidOut : laidOutB Try.prog = true := by kernel_rfl

set_option maxRecDepth 100000 in
set_option maxHeartbeats 1000000 in
theorem lifted7 (os : Os) (started : os.Started) (H : Type) (enc : TypeId × Value → H) :
    ReturnsInHanded {} Try.checked os 7 .any (Rows.fnOperandHasSplitsAtAnyCutSpec.pre6 enc Try.prog Try.f7 Rows.fnOperandHasSplitsAtAnyCutRow.domain false) (Rows.fnOperandHasSplitsAtAnyCutSpec.post enc Try.prog Try.f7 false true false false) := by
  refine returnsInHanded_of_change (C := Try.checked) own started (by kernel_rfl) Try.func7
    (ChangeSpec.witness6 (enc := enc) (C := Try.checked) false ⟨#[], #[.slice none 0 0, .slice none 0 0, .slice none 0 0, .slice none 0 0, .slice none 0 0, .int .u8 0, .slice none 0 0, .bool false, .int .i64 0, .int .i64 0], []⟩ 8 (by kernel_rfl) (by kernel_rfl) (by kernel_rfl) (by kernel_rfl)) ?_
  intro W base args ds gs before hval0 hW hcnd _
  have hval : ∀ (j : Nat) t v, Try.f7.params[j]? = some t → args[j]? = some v → Value.okWide Try.prog W .any base t v := hval0
  have hW' := hW
  obtain ⟨p, q, hA0, hV, rfl, hfz, hnd⟩ := hW
  have hA : DataW.TrodAll enc Try.prog W 0 (fun _ => true) true Try.f7.params.toList args.toList ds p := hA0
  rw [Try.params7] at hA hval
  obtain ⟨v0, vs0, d0, ds0, p0, q0, hargs, rfl, rfl, h0, r0⟩ := trodAll_cons hA
  obtain ⟨v1, vs1, d1, ds1, p1, q1, rfl, rfl, rfl, h1, r1⟩ := trodAll_cons r0
  obtain ⟨v2, vs2, d2, ds2, p2, q2, rfl, rfl, rfl, h2, r2⟩ := trodAll_cons r1
  obtain ⟨v3, vs3, d3, ds3, p3, q3, rfl, rfl, rfl, h3, r3⟩ := trodAll_cons r2
  obtain ⟨v4, vs4, d4, ds4, p4, q4, rfl, rfl, rfl, h4, r4⟩ := trodAll_cons r3
  obtain ⟨v5, vs5, d5, ds5, p5, q5, rfl, rfl, rfl, h5, r5⟩ := trodAll_cons r4
  obtain ⟨v6, vs6, d6, ds6, p6, q6, rfl, rfl, rfl, h6, r6⟩ := trodAll_cons r5
  obtain ⟨v7, vs7, d7, ds7, p7, q7, rfl, rfl, rfl, h7, r7⟩ := trodAll_cons r6
  obtain ⟨v8, vs8, d8, ds8, p8, q8, rfl, rfl, rfl, h8, r8⟩ := trodAll_cons r7
  obtain ⟨v9, vs9, d9, ds9, p9, q9, rfl, rfl, rfl, h9, r9⟩ := trodAll_cons r8
  obtain ⟨rfl, rfl, rfl⟩ := trodAll_nil r9
  obtain rfl : args = #[v0, v1, v2, v3, v4, v5, v6, v7, v8, v9] := by cases args; simp_all
  obtain ⟨rfl, rfl⟩ := trodVars_none hV
  obtain ⟨a0, n0, c0, rfl⟩ := okWide_slice Try.underlying32 (hval 0 32 v0 rfl rfl)
  have lt0 : ∀ x ∈ p0, x.block < W.heap.size := by obtain ⟨m, hm⟩ := h0; exact DataW.trod_lt m _ _ _ hm
  obtain ⟨a1, n1, c1, rfl⟩ := okWide_slice Try.underlying24 (hval 1 24 v1 rfl rfl)
  have lt1 : ∀ x ∈ p1, x.block < W.heap.size := by obtain ⟨m, hm⟩ := h1; exact DataW.trod_lt m _ _ _ hm
  obtain ⟨a2, n2, c2, rfl⟩ := okWide_slice Try.underlying45 (hval 2 45 v2 rfl rfl)
  have lt2 : ∀ x ∈ p2, x.block < W.heap.size := by obtain ⟨m, hm⟩ := h2; exact DataW.trod_lt m _ _ _ hm
  obtain ⟨a3, n3, c3, rfl⟩ := okWide_slice Try.underlying22 (hval 3 22 v3 rfl rfl)
  have lt3 : ∀ x ∈ p3, x.block < W.heap.size := by obtain ⟨m, hm⟩ := h3; exact DataW.trod_lt m _ _ _ hm
  obtain ⟨a4, n4, c4, rfl⟩ := okWide_slice Try.underlying24 (hval 4 24 v4 rfl rfl)
  have lt4 : ∀ x ∈ p4, x.block < W.heap.size := by obtain ⟨m, hm⟩ := h4; exact DataW.trod_lt m _ _ _ hm
  obtain ⟨a5, rfl, rfl, rfl, w5⟩ := open_int Try.underlying5 (hval 5 5 v5 rfl rfl) h5
  obtain ⟨a6, n6, c6, rfl⟩ := okWide_slice Try.underlying32 (hval 6 32 v6 rfl rfl)
  have lt6 : ∀ x ∈ p6, x.block < W.heap.size := by obtain ⟨m, hm⟩ := h6; exact DataW.trod_lt m _ _ _ hm
  obtain ⟨a7, rfl, rfl, rfl⟩ := open_bool Try.underlying4 (hval 7 4 v7 rfl rfl) h7
  obtain ⟨a8, rfl, rfl, rfl, w8⟩ := open_int Try.underlying3 (hval 8 3 v8 rfl rfl) h8
  obtain ⟨a9, rfl, rfl, rfl, w9⟩ := open_int Try.underlying3 (hval 9 3 v9 rfl rfl) h9
  obtain ⟨K, s0, l0, k0⟩ : ∃ z : Nat → Int, Sl W a0 n0 (fun i => .int .u8 (z i)) ∧ n0 ≤ maxLen ∧ ∀ i, i < n0 → 0 ≤ z i := by obtain ⟨m, hm⟩ := h0; exact open_U8s (by simpa [Value.cells] using hm)
  obtain ⟨T, S, R, M, s1, l1, b1⟩ : ∃ (A : Nat → Option Addr) (L C : Nat → Nat) (V : Nat → List UInt8), Sl W a1 n1 (fun i => .slice (A i) (L i) (C i)) ∧ n1 ≤ maxLen ∧ ∀ i, i < n1 → Bytes W (A i) (L i) (V i) ∧ L i ≤ C i ∧ C i ≤ maxLen := by obtain ⟨m, hm⟩ := h1; exact open_Rows2 (by simpa [Value.cells] using hm)
  obtain ⟨N, s2, l2⟩ : ∃ B : Nat → Bool, Sl W a2 n2 (fun i => .bool (B i)) ∧ n2 ≤ maxLen := by obtain ⟨m, hm⟩ := h2; exact open_Bools (by simpa [Value.cells] using hm)
  obtain ⟨z, s3, l3⟩ : ∃ z : Nat → Int, Sl W a3 n3 (fun i => .int .i64 (z i)) ∧ n3 ≤ maxLen := by obtain ⟨m, hm⟩ := h3; exact open_Ints (by simpa [Value.cells] using hm)
  obtain ⟨A, L, C, V, s4, l4, b4⟩ : ∃ (A : Nat → Option Addr) (L C : Nat → Nat) (V : Nat → List UInt8), Sl W a4 n4 (fun i => .slice (A i) (L i) (C i)) ∧ n4 ≤ maxLen ∧ ∀ i, i < n4 → Bytes W (A i) (L i) (V i) ∧ L i ≤ C i ∧ C i ≤ maxLen := by obtain ⟨m, hm⟩ := h4; exact open_Rows2 (by simpa [Value.cells] using hm)
  obtain ⟨X, s6, l6, l6'⟩ : ∃ l : List UInt8, Bytes W a6 n6 l ∧ n6 ≤ c6 ∧ c6 ≤ maxLen := by obtain ⟨m, hm⟩ := h6; exact open_Bytes2 (by simpa [Value.cells] using hm)
  have k5 : 0 ≤ a5 := by rw [← byte_of_wf w5]; omega
  clear hA0 hval0
  have hin : HIn ⟨a0, n0, c0, K, a1, n1, c1, T, S, R, M, a2, n2, c2, N, a3, n3, c3, z, a4, n4, c4, A, L, C, V, a5, a6, n6, c6, X, a7, a8⟩ W :=
    ⟨s0, k0, s1, fun i hi => (b1 i hi).1, s2, s3, s4, b4, s6, k5, l0, l1, l2, l3, l4, ⟨l6, l6'⟩, fun i hi => Nat.le_trans (b1 i hi).2.1 (b1 i hi).2.2, fun i hi => Nat.le_trans (b4 i hi).2.1 (b4 i hi).2.2⟩
  refine (main7 _ a9 W hin (fun i hi => ⟨(b1 i hi).2.1, (b1 i hi).2.2⟩)).mono fun e W' ⟨he, bel⟩ => ?_
  subst he
  exact ⟨_, rfl, _, _, _, [], _, [], hW', trodAll_mk1 (shut_bool Try.underlying4 _), (trodAll_cons_mk (Below.trod laidOut (by kernel_rfl) (of_decide_eq_true (by kernel_rfl)) h0 bel lt0) (trodAll_cons_mk (Below.trod laidOut (by kernel_rfl) (of_decide_eq_true (by kernel_rfl)) h1 bel lt1) (trodAll_cons_mk (Below.trod laidOut (by kernel_rfl) (of_decide_eq_true (by kernel_rfl)) h2 bel lt2) (trodAll_cons_mk (Below.trod laidOut (by kernel_rfl) (of_decide_eq_true (by kernel_rfl)) h3 bel lt3) (trodAll_cons_mk (Below.trod laidOut (by kernel_rfl) (of_decide_eq_true (by kernel_rfl)) h4 bel lt4) (trodAll_cons_mk (shut_int Try.underlying5 w5) (trodAll_cons_mk (Below.trod laidOut (by kernel_rfl) (of_decide_eq_true (by kernel_rfl)) h6 bel lt6) (trodAll_cons_mk (shut_bool Try.underlying4 _) (trodAll_cons_mk (shut_int Try.underlying3 w8) (trodAll_cons_mk (shut_int Try.underlying3 w9) trodAll_mk0)))))))))), rfl, bel.frame _, fun h => by cases h⟩

theorem hasSplits : Rows.FnOperandHasSplitsAtAnyCutSaid :=
  OpenClaim.holds_of_wide 7 Try.f7 rfl rfl rfl rfl rfl rfl rfl ⟨rfl, rfl, rfl, rfl, rfl⟩ rfl rfl rfl rfl rfl (by kernel_rfl) Try.func7 (by kernel_rfl)
    (of_decide_eq_true (by kernel_rfl)) (by unfold Func.isWrapper; first | (rw [if_pos (by decide +kernel)]; kernel_rfl) | (rw [if_neg (by decide +kernel)]; exact ⟨rfl, rfl⟩))
    (fun os started H enc _ => lifted7 os started H enc)
#print axioms hasSplits
end Go.Proofs.Qxb6616563a
