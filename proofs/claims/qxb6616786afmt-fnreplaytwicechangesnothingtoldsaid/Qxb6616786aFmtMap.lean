/-
  A map from strings to pointers, told by a plain function; what the program's look-up, store and len do with it.
-/
import Derived.Test.Qxb6616786aFmtRows
import Derived.WalkKit
import Derived.WalkSpells
import Derived.WalkLawsBesides
import Derived.Below
import Derived.Maps.Own
import Derived.Maps.OwnOps
import Derived.Maps.OwnSet
import Derived.StringKeys
namespace Go.Proofs.Qxb6616786aFmt
open Go.RowKit Go.WideMaps Go.Maps

abbrev Str := List UInt8
def pd : Option Nat → DataW Unit
  | none => .lit (.int .i64 (-1))
  | some b => .lit (.int .i64 b)
def ptrElem : Value → Option (DataW Unit × List MemPlace)
  | .pointer none => some (pd none, [])
  | .pointer (some ⟨b, 0, none⟩) => some (pd (some b), [])
  | _ => none
abbrev ptrV (o : Option Nat) : Value := .pointer (o.map fun b => ⟨b, 0, none⟩)
theorem ptrElem_V (o : Option Nat) : ptrElem (ptrV o) = some (pd o, []) := by cases o <;> rfl
theorem pd_inj {a b : Option Nat} (h : pd a = pd b) : a = b := by
  cases a <;> cases b <;> simp [pd] at h ⊢
  all_goals omega
theorem ptrElem_inv {v : Value} {o : Option Nat} {ps : List MemPlace} (h : ptrElem v = some (pd o, ps)) : v = ptrV o := by
  unfold ptrElem at h
  split at h
  · simp only [Option.some.injEq, Prod.mk.injEq] at h
    rw [← pd_inj h.1]
    rfl
  · simp only [Option.some.injEq, Prod.mk.injEq] at h
    rw [← pd_inj h.1]
    rfl
  · cases h

theorem law9 : Keyed Tryf.prog 9 := string_keyed Tryf.underlying9
theorem zero82 (w : World) : (zeroValue 82).run Tryf.prog w = .ok (.pointer none) w := by kernel_rfl

/-- block B is a map of n entries that holds, at each key s, the pointer to block f s -/
structure MapP (w : World) (B n : Nat) (f : Str → Option Nat) : Prop where
  ex : ∃ D : DataW Unit, w.ownsMap Tryf.prog 9 ptrElem B n D ∧ Maps.size D = n ∧ (∀ s, D.atKey (.string s) (pd none) = pd (f s)) ∧ ∀ s, Maps.has D (.string s) = (f s).isSome

theorem MapP.made (w : World) : MapP (w.alloc (.map #[] 0)) w.heap.size 0 (fun _ => none) :=
  ⟨.map [], World.ownsMap_made _ _ _ _, rfl, fun _ => rfl, fun _ => rfl⟩
theorem MapP.kept {w w' : World} {B n : Nat} {f : Str → Option Nat} {row : Option Nat} (h : MapP w B n f) (hg : w.grownBy w' row) (hne : some B ≠ row) : MapP w' B n f := by
  obtain ⟨D, h1, h2⟩ := h
  exact ⟨D, h1.kept hg hne, h2⟩
theorem MapP.blk {w w' : World} {B n : Nat} {f : Str → Option Nat} (h : MapP w B n f) (hb : w'.heap[B]? = w.heap[B]?) : MapP w' B n f := by
  obtain ⟨D, ⟨es, clock, h0, h1⟩, h2⟩ := h
  exact ⟨D, ⟨es, clock, by rw [hb]; exact h0, h1⟩, h2⟩
theorem MapP.lt {w : World} {B n : Nat} {f : Str → Option Nat} (h : MapP w B n f) : B < w.heap.size := by
  obtain ⟨D, h1, _⟩ := h
  exact h1.lt

theorem MapP.look {w : World} {B n : Nat} {f : Str → Option Nat} (h : MapP w B n f) (s : ByteArray) (hs : s.size ≤ maxLen) :
    (Instr.lookup 37 (.map (some B)) (.string s) false).run Tryf.prog w = .ok (ptrV (f s.data.toList)) w := by
  obtain ⟨D, h1, _, h3, _⟩ := h
  obtain ⟨v, ps, hrun, hv⟩ := h1.lookup law9 Tryf.underlying37 (zero82 w) (ptrElem_V none) (keyOf_string_mk Tryf.underlying9 hs)
  rw [h3] at hv
  rw [hrun, ptrElem_inv hv]

theorem MapP.len {w : World} {B n : Nat} {f : Str → Option Nat} (h : MapP w B n f) (ty : TypeId) : (Builtin.len_ #[37] ty #[.map (some B)]).run Tryf.prog w = .ok (.int .i64 n) w := by
  obtain ⟨D, h1, h2, _⟩ := h
  rw [h1.len Tryf.underlying37 ty, h2]

theorem isKey_string (s : Str) : WideAt.IsKeyLit (.string s) := by
  first | trivial | exact rfl | (simp [WideAt.IsKeyLit])

theorem MapP.put {w : World} {B n : Nat} {f : Str → Option Nat} (h : MapP w B n f) (hn : n < maxLen) (s : ByteArray) (hs : s.size ≤ maxLen) (b : Nat) (hnew : f s.data.toList = none) :
    ∃ w', (Instr.mapUpdate 37 (.map (some B)) (.string s) (.pointer (some ⟨b, 0, none⟩))).run Tryf.prog w = .ok () w' ∧ MapP w' B (n + 1) (fun k => if k = s.data.toList then some b else f k) ∧ w.grownBy w' (some B) := by
  obtain ⟨D, h1, h2, h3, h4⟩ := h
  obtain ⟨w', hrun, hown, hg⟩ := h1.update law9 Tryf.underlying37 hn (keyOf_string_mk Tryf.underlying9 hs) (ptrElem_V (some b))
  refine ⟨w', hrun, ⟨_, hown, ?_, ?_, ?_⟩, hg⟩
  · rw [size_put (h1.tidy law9), h4, hnew, h2]
    rfl
  · intro k
    by_cases hk : k = s.data.toList
    · rw [hk, if_pos rfl]
      exact atKey_put_same h1.isMap (isKey_string _) _ _
    · rw [if_neg hk, atKey_put_other (fun e => hk (by cases e; rfl)), h3]
  · intro k
    by_cases hk : k = s.data.toList
    · rw [hk, if_pos rfl]
      exact has_put_same h1.isMap (isKey_string _) _
    · rw [if_neg hk, has_put_other (fun e => hk (by cases e; rfl)), h4]
end Go.Proofs.Qxb6616786aFmt
