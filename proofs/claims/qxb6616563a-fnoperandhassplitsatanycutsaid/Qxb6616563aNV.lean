/-
  Two slices that the call itself builds side by side: names ([]string) and values ([][]byte, whose elements lie elsewhere).
-/
import Derived.Test.Qxb6616563aGrowL
namespace Go.Proofs.Qxb6616563a
open Go.RowKit

abbrev Tr := Option Addr × Nat × Nat
def slv (t : Tr) : Value := .slice t.1 t.2.1 t.2.2

structure NV (w0 w : World) (names vals : Value) (ns : List ByteArray) (ts : List Tr) : Prop where
  n : w.ownsRow w0.heap.size 9 1 names ns.length (ns.map Value.string)
  v : w.ownsRow w0.heap.size 32 1 vals ts.length (ts.map slv)
  below : Below w0.heap.size w0 w

theorem NV.start (w : World) : NV w w (.slice none 0 0) (.slice none 0 0) [] [] := ⟨World.ownsRow_nil _ _ _ _, World.ownsRow_nil _ _ _ _, Below.refl _ _⟩

theorem NV.after {w0 w w' : World} {names vals : Value} {ns : List ByteArray} {ts : List Tr} (h : NV w0 w names vals ns ts) (hb : Below w.heap.size w w') : NV w0 w' names vals ns ts :=
  ⟨ownsRow_below h.n hb (Nat.le_refl _), ownsRow_below h.v hb (Nat.le_refl _), h.below.trans (hb.mono h.below.size)⟩

theorem NV.wp_name {w0 w : World} {ops : Array Oper} {rest : List Oper} {o : Oper} {a : Act} {Q : Exit → Act → World → Prop} {names vals : Value} {ns : List ByteArray} {ts : List Tr} (h : NV w0 w names vals ns ts) (s : ByteArray)
    (hgd : o.guard = none) (sl x : Operand) (ho : o.op = .call { callee := .builtin .append, args := #[sl, x], argTypes := #[23, 23] }) (hs : a.eval sl = names) (hx : a.eval x = .slice (some ⟨w.heap.size, 0, none⟩) 1 1)
    (hj : ns.length + 1 ≤ 4294967296)
    (hk : ∀ names' w', NV w0 w' names' vals (ns ++ [s]) ts → wpList Try.prog ops Q rest (a.put o.dst names') w') : wpList Try.prog ops Q (o :: rest) a (w.alloc (.cells #[.string s] 9)) := by
  obtain ⟨h1, h2, h3⟩ := h
  obtain ⟨i0, hi, hz0, hz1, hz2⟩ := info_parts Try.info9
  refine wpList_append_own _ hgd sl x 23 ho w0.heap.size 9 i0 (.string ⟨#[]⟩) 1 16 Try.underlying23 hi hz0 hz1 hz2 rfl (by decide) names _ _ hs (h1.alloc _) ⟨w.heap.size, 0, none⟩ 1 1 [.string s] hx rfl (cell_one_new _ _ _) (by intro u hu; simp at hu; subst hu; rfl) (by simp only [maxLen]; omega) (by omega) (by have := h3.size; simp; omega) ?_
  intro v' w' hown' hgrow _
  refine hk v' w' ⟨?_, (h2.alloc _).kept hgrow (ownsRow_apart h2 h1 (by decide)), grow_below (h3.alloc h3.size _) (h1.alloc _) hgrow⟩
  have e : (ns ++ [s]).map Value.string = ns.map Value.string ++ [Value.string s] := by simp
  rw [e, List.length_append]
  exact hown'

theorem NV.wp_val {w0 w : World} {ops : Array Oper} {rest : List Oper} {o : Oper} {a : Act} {Q : Exit → Act → World → Prop} {names vals : Value} {ns : List ByteArray} {ts : List Tr} (h : NV w0 w names vals ns ts) (t1 : Option Addr) (t2 t3 : Nat)
    (hgd : o.guard = none) (sl x : Operand) (ho : o.op = .call { callee := .builtin .append, args := #[sl, x], argTypes := #[24, 24] }) (hs : a.eval sl = vals) (hx : a.eval x = .slice (some ⟨w.heap.size, 0, none⟩) 1 1)
    (hj : ts.length + 1 ≤ 4294967296)
    (hk : ∀ vals' w', NV w0 w' names vals' ns (ts ++ [(t1, t2, t3)]) → wpList Try.prog ops Q rest (a.put o.dst vals') w') : wpList Try.prog ops Q (o :: rest) a (w.alloc (.cells #[.slice t1 t2 t3] 32)) := by
  obtain ⟨h1, h2, h3⟩ := h
  obtain ⟨i0, hi, hz0, hz1, hz2⟩ := info_parts Try.info32
  refine wpList_append_own _ hgd sl x 24 ho w0.heap.size 32 i0 (.slice none 0 0) 1 24 Try.underlying24 hi hz0 hz1 hz2 rfl (by decide) vals _ _ hs (h2.alloc _) ⟨w.heap.size, 0, none⟩ 1 1 [.slice t1 t2 t3] hx rfl (cell_one_new _ _ _) (by intro u hu; simp at hu; subst hu; rfl) (by simp only [maxLen]; omega) (by omega) (by have := h3.size; simp; omega) ?_
  intro v' w' hown' hgrow _
  refine hk v' w' ⟨(h1.alloc _).kept hgrow (ownsRow_apart h1 h2 (by decide)), ?_, grow_below (h3.alloc h3.size _) (h2.alloc _) hgrow⟩
  have e : (ts ++ [(t1, t2, t3)]).map slv = ts.map slv ++ [Value.slice t1 t2 t3] := by simp [slv]
  rw [e, List.length_append]
  exact hown'

theorem NV.names_shape {w0 w : World} {names vals : Value} {ns : List ByteArray} {ts : List Tr} (h : NV w0 w names vals ns ts) :
    ∃ a c, names = .slice a ns.length c ∧ Sl w a ns.length (fun i => .string (ns.getD i ⟨#[]⟩)) := by
  obtain ⟨_, a, c, e, hsl⟩ := ownsRow_shape h.n
  refine ⟨a, c, e, hsl.congr fun i hi => ?_⟩
  simp [List.getD_eq_getElem?_getD, hi]

theorem NV.vals_shape {w0 w : World} {names vals : Value} {ns : List ByteArray} {ts : List Tr} (h : NV w0 w names vals ns ts) :
    ∃ a c, vals = .slice a ts.length c ∧ Sl w a ts.length (fun i => slv (ts.getD i (none, 0, 0))) := by
  obtain ⟨_, a, c, e, hsl⟩ := ownsRow_shape h.v
  refine ⟨a, c, e, hsl.congr fun i hi => ?_⟩
  simp [List.getD_eq_getElem?_getD, hi]
end Go.Proofs.Qxb6616563a
