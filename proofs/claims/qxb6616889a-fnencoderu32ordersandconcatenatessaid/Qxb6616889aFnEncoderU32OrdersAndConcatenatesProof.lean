import Derived.Test.Qxb6616889aMain
import Derived.WalkKit
import Derived.ProofKit
import Derived.OpenShut
import Derived.ShutString
import Derived.ChangeOld
import Derived.Below
namespace Go.Proofs.Qxb6616889a.fnEncoderU32OrdersAndConcatenates
open Go.ChangeShapes Go.WideShapes Go.ChangeAt Go.RowKit
open Go.ChangeMaps (open_string shut_string)
set_option linter.unusedVariables false

theorem own : ownKnob Try.prog.godebug = none := by kernel_rfl
theorem laidOut : laidOutB Try.prog = true := by kernel_rfl

/-- WHAT THE WALK IS TOLD OF A SLICE OF INTEGERS THAT CAME IN: it is nil; or it leads to a row of 'cap' cells, the numbers 'zs' (the first 'len' are its elements, the rest its spare room), each fitting its kind. -/
def IsRow (k : IntKind) (w : World) (a : Option Addr) (len cap : Nat) (zs : List Int) : Prop :=
  (a = none ∧ len = 0 ∧ cap = 0 ∧ zs = []) ∨
  ∃ x, a = some x ∧ len ≤ cap ∧ cap ≤ maxLen ∧ zs.length = cap ∧ (∀ i, i < zs.length → w.cell? (x.add i) = some (.int k (zs.getD i 0))) ∧ ∀ n ∈ zs, (Lit.int k n).wf = true

theorem isRow_bytes {w : World} {a : Option Addr} {len cap : Nat} {zs : List Int} (h : IsRow .u8 w a len cap zs) : Bytes w a len ((zs.take len).map fun z => z.toNat.toUInt8) := by
  rcases h with ⟨rfl, rfl, rfl, rfl⟩ | ⟨x, rfl, h1, h2, h3, h4, h5⟩
  · exact ⟨rfl, fun h => absurd h (Nat.lt_irrefl 0)⟩
  · refine ⟨by simp; omega, fun hn => ?_⟩
    obtain ⟨b, off, spot⟩ := x
    have hspot : spot = none := by simpa [Addr.add] using World.cell?_spot (h4 0 (by omega))
    subst hspot
    refine ⟨b, off, rfl, fun i hi => ?_⟩
    have hi' : i < zs.length := by omega
    have h6 := h4 i hi'
    have hadd : (⟨b, off, none⟩ : Addr).add i = ⟨b, off + i, none⟩ := by unfold Addr.add; split <;> simp_all
    rw [hadd] at h6
    rw [h6]
    have hm : zs.getD i 0 ∈ zs := by rw [List.getD_eq_getElem?_getD, List.getElem?_eq_getElem hi']; exact List.getElem_mem hi'
    have hw := h5 _ hm
    rw [List.getD_eq_getElem?_getD, List.getElem?_eq_getElem hi'] at hw ⊢
    have hw1 : 0 ≤ zs[i] ∧ zs[i] ≤ 255 := by
      have h0 : IntKind.u8.min ≤ zs[i] ∧ zs[i] ≤ IntKind.u8.max := by simpa [Lit.wf] using hw
      exact h0
    show some (Value.int .u8 zs[i]) = some (Value.int .u8 (byteAt _ i))
    unfold byteAt
    rw [List.getD_eq_getElem?_getD, List.getElem?_map, List.getElem?_take_of_lt hi, List.getElem?_eq_getElem hi']
    show some (Value.int .u8 zs[i]) = some (Value.int .u8 ((zs[i].toNat.toUInt8).toNat : Int))
    have : (zs[i].toNat.toUInt8).toNat = zs[i].toNat := by simp [Nat.toUInt8, UInt8.toNat_ofNat']; omega
    rw [this, Int.toNat_of_nonneg hw1.1]

theorem u32_nat {x : Int} (h : (Lit.int .u32 x).wf = true) : ∃ n : Nat, x = (n : Int) ∧ n < 4294967296 := by
  have h : 0 ≤ x ∧ x ≤ 4294967295 := by
    have h0 : IntKind.u32.min ≤ x ∧ x ≤ IntKind.u32.max := by simpa [Lit.wf] using h
    exact h0
  exact ⟨x.toNat, by omega, by omega⟩

theorem walk (a0 : Option Addr) (len0 cap0 : Nat) (z0 : List Int) (a1 : Int) (a2 : Int) (w : World) (w0 : IsRow .u8 w a0 len0 cap0 z0) (w1 : (Lit.int .u32 a1).wf = true) (w2 : (Lit.int .u32 a2).wf = true) :
    Calls Try.prog 5 #[.slice a0 len0 cap0, .int .u32 a1, .int .u32 a2] w fun e w' => e = .returned (.bool true) ∧ Below w.heap.size w w' := by
  obtain ⟨x1, rfl, h1⟩ := u32_nat w1
  obtain ⟨x2, rfl, h2⟩ := u32_nat w2
  exact main5 a0 len0 cap0 _ x1 x2 h1 h2 w (isRow_bytes w0)

/-! ### THE ROW's STEP: WRITTEN OUT: LEAVE IT -/
set_option maxRecDepth 100000 in
theorem lifted (os : Os) (started : os.Started) (H : Type) (enc : TypeId × Value → H) :
    ReturnsInHanded {} Try.checked os 5 .any (Rows.fnEncoderU32OrdersAndConcatenatesSpec.pre6 enc Try.prog Try.f5 Rows.fnEncoderU32OrdersAndConcatenatesRow.domain false) (Rows.fnEncoderU32OrdersAndConcatenatesSpec.post enc Try.prog Try.f5 false true false false) := by
  refine returnsInHanded_of_change (C := Try.checked) own started (by kernel_rfl) Try.func5
    (ChangeSpec.witness6 (enc := enc) (C := Try.checked) false ⟨#[], #[.slice none 0 0, .int .u32 0, .int .u32 0], []⟩ 8 (by kernel_rfl) (by kernel_rfl) (by kernel_rfl) (by kernel_rfl)) ?_
  intro W base args ds gs before hval0 hW hcnd _
  have hval : ∀ (j : Nat) t v, Try.f5.params[j]? = some t → args[j]? = some v → Value.okWide Try.prog W .any base t v := hval0
  have hW' := hW
  obtain ⟨p, q, hA0, hV, rfl, hfz, hnd⟩ := hW
  have hA : DataW.TrodAll enc Try.prog W 0 (fun _ => true) true Try.f5.params.toList args.toList ds p := hA0
  rw [Try.params5] at hA hval
  obtain ⟨v0, vs0, d0, ds0, p0, q0, hargs, rfl, rfl, h0, r0⟩ := trodAll_cons hA
  obtain ⟨v1, vs1, d1, ds1, p1, q1, rfl, rfl, rfl, h1, r1⟩ := trodAll_cons r0
  obtain ⟨v2, vs2, d2, ds2, p2, q2, rfl, rfl, rfl, h2, r2⟩ := trodAll_cons r1
  obtain ⟨rfl, rfl, rfl⟩ := trodAll_nil r2
  obtain rfl : args = #[v0, v1, v2] := by cases args; simp_all
  obtain ⟨rfl, rfl⟩ := trodVars_none hV
  obtain ⟨a0, len0, cap0, rfl⟩ := okWide_slice Try.underlying25 (hval 0 25 v0 rfl rfl)
  have k0 := h0
  have lt0 : ∀ x ∈ p0, x.block < W.heap.size := by obtain ⟨m, hm⟩ := k0; exact DataW.trod_lt m _ _ _ hm
  obtain ⟨z0, w0⟩ : ∃ zs, IsRow .u8 W a0 len0 cap0 zs := by
    obtain ⟨fuel, hf⟩ := h0
    rcases open_ints Try.underlying25 Try.underlying5 (by kernel_rfl) hf with ⟨hcs, _⟩ | ⟨x, l, c, zs, hcs, _, hl, hm, hz, _, hcell, hwz⟩
    · simp [Value.cells] at hcs
      obtain ⟨rfl, rfl, rfl⟩ := hcs
      exact ⟨[], .inl ⟨rfl, rfl, rfl, rfl⟩⟩
    · simp [Value.cells] at hcs
      obtain ⟨rfl, rfl, rfl⟩ := hcs
      exact ⟨zs, .inr ⟨_, rfl, hl, hm, by simpa using hz, hcell, hwz⟩⟩
  obtain ⟨a1, rfl, rfl, rfl, w1⟩ := open_int Try.underlying26 (hval 1 26 v1 rfl rfl) h1
  obtain ⟨a2, rfl, rfl, rfl, w2⟩ := open_int Try.underlying26 (hval 2 26 v2 rfl rfl) h2
  clear hA0 hval0
  refine (walk a0 len0 cap0 z0 a1 a2 W w0 w1 w2).mono fun e W' ⟨he, bel⟩ => ?_
  subst he
  exact ⟨_, rfl, _, _, _, [], _, [], hW', trodAll_mk1 (shut_bool Try.underlying4 _), (trodAll_cons_mk (Below.trod laidOut (by kernel_rfl) (of_decide_eq_true (by kernel_rfl)) k0 bel lt0) (trodAll_cons_mk (shut_int Try.underlying26 w1) (trodAll_cons_mk (shut_int Try.underlying26 w2) trodAll_mk0))), rfl, bel.frame _, fun h => by cases h⟩

theorem over : Rows.fnEncoderU32OrdersAndConcatenatesRow.holds Try.pinned (OpenSpec.ofChange Rows.fnEncoderU32OrdersAndConcatenatesSpec) :=
  OpenClaim.holds_of_wide 5 Try.f5 rfl rfl rfl rfl rfl rfl rfl ⟨rfl, rfl, rfl, rfl, rfl⟩ rfl rfl rfl rfl rfl (by kernel_rfl) Try.func5 (by kernel_rfl)
    (of_decide_eq_true (by kernel_rfl)) (by unfold Func.isWrapper; first | (rw [if_pos (by decide +kernel)]; kernel_rfl) | (rw [if_neg (by decide +kernel)]; exact ⟨rfl, rfl⟩))
    (fun os started H enc _ => lifted os started H enc)

/-- ████ THE STATEMENT ████ -/
theorem proved : Rows.FnEncoderU32OrdersAndConcatenatesSaid := over
end Go.Proofs.Qxb6616889a.fnEncoderU32OrdersAndConcatenates
namespace Go.Proofs.Qxb6616889a
theorem u32Orders : Rows.FnEncoderU32OrdersAndConcatenatesSaid := fnEncoderU32OrdersAndConcatenates.proved
#print axioms u32Orders
end Go.Proofs.Qxb6616889a
