/-
  A []byte that the call itself builds by append: its state, and what an append makes of it.
-/
import Derived.Test.Qxb6616563aLeaf2
namespace Go.Proofs.Qxb6616563a
open Go.RowKit

/-- In w, reached from w0, the slice v (nil, or a row of the call's own) holds the bytes l; at most N of them. -/
structure Buf (w0 w : World) (v : Value) (l : List UInt8) (N : Nat) : Prop where
  own : ∃ n, w.ownsRow w0.heap.size 5 1 v n (Lib.byteCells l) ∧ n ≤ N
  below : Below w0.heap.size w0 w

theorem Buf.start (w : World) : Buf w w (.slice none 0 0) [] 0 := ⟨⟨0, World.ownsRow_nil _ _ _ _, Nat.le_refl _⟩, Below.refl _ _⟩

theorem Buf.drew {w0 w : World} {v : Value} {l : List UInt8} {N : Nat} (h : Buf w0 w v l N) : Buf w0 w.drew v l N := by
  obtain ⟨⟨n, h1, h2⟩, h3⟩ := h
  exact ⟨⟨n, h1.drew, h2⟩, h3.drew⟩

theorem Buf.mono {w0 w : World} {v : Value} {l : List UInt8} {N M : Nat} (h : Buf w0 w v l N) (hm : N ≤ M) : Buf w0 w v l M := by
  obtain ⟨⟨n, h1, h2⟩, h3⟩ := h
  exact ⟨⟨n, h1, Nat.le_trans h2 hm⟩, h3⟩

theorem grow_below {w0 w w' : World} {e : TypeId} {v : Value} {n : Nat} {xs : List Value} (hb : Below w0.heap.size w0 w) (hown : w.ownsRow w0.heap.size e 1 v n xs) (hg : w.grownBy w' v.ownBlock) : Below w0.heap.size w0 w' :=
  hb.grown hg hb.size (fun k hk => (hown.lt k hk).1)

theorem strCells_eq (s : ByteArray) : Lib.strCells s = Lib.byteCells s.data.toList := rfl
theorem byteCells_app (a b : List UInt8) : Lib.byteCells (a ++ b) = Lib.byteCells a ++ Lib.byteCells b := by simp [Lib.byteCells]

theorem Buf.wp_str {w0 w : World} {ops : Array Oper} {rest : List Oper} {o : Oper} {a : Act} {Q : Exit → Act → World → Prop} {v : Value} {l : List UInt8} {N : Nat} (hb : Buf w0 w v l N)
    (hgd : o.guard = none) (sl x : Operand) (ho : o.op = .call { callee := .builtin .append, args := #[sl, x], argTypes := #[32, 9] }) (hs : a.eval sl = v) (s : ByteArray) (hx : a.eval x = .string s)
    (hN : N + s.size ≤ 70368744177664)
    (h : ∀ v' w', Buf w0 w' v' (l ++ s.data.toList) (N + s.size) → wpList Try.prog ops Q rest (a.put o.dst v') w') : wpList Try.prog ops Q (o :: rest) a w := by
  obtain ⟨⟨n, h1, h2⟩, h3⟩ := hb
  obtain ⟨i0, hi, hz0, hz1, hz2⟩ := info_parts Try.info5
  refine Lib.wpList_append_own_string w hgd sl x 32 9 ho w0.heap.size 5 i0 Try.underlying32 Try.underlying9 hi hz0 hz1 hz2 v n _ hs h1 s hx (by simp only [maxLen]; omega) (by omega) h3.size ?_
  intro v' w' hown' hgrow _
  rw [strCells_eq, ← byteCells_app] at hown'
  exact h v' w' ⟨⟨_, hown', by omega⟩, grow_below h3 h1 hgrow⟩

theorem Buf.wp_byte {w0 w : World} {ops : Array Oper} {rest : List Oper} {o : Oper} {a : Act} {Q : Exit → Act → World → Prop} {v : Value} {l : List UInt8} {N : Nat} (hb : Buf w0 w v l N) (b : UInt8) (z : Int) (hz : z = (b.toNat : Int))
    (hgd : o.guard = none) (sl x : Operand) (ho : o.op = .call { callee := .builtin .append, args := #[sl, x], argTypes := #[32, 32] }) (hs : a.eval sl = v) (hx : a.eval x = .slice (some ⟨w.heap.size, 0, none⟩) 1 1)
    (hN : N + 1 ≤ 70368744177664)
    (h : ∀ v' w', Buf w0 w' v' (l ++ [b]) (N + 1) → wpList Try.prog ops Q rest (a.put o.dst v') w') : wpList Try.prog ops Q (o :: rest) a (w.alloc (.cells #[.int .u8 z] 5)) := by
  obtain ⟨⟨n, h1, h2⟩, h3⟩ := hb
  obtain ⟨i0, hi, hz0, hz1, hz2⟩ := info_parts Try.info5
  refine wpList_append_own _ hgd sl x 32 ho w0.heap.size 5 i0 (.int .u8 0) 1 1 Try.underlying32 hi hz0 hz1 hz2 rfl (by decide) v n _ hs (h1.alloc _) ⟨w.heap.size, 0, none⟩ 1 1 [.int .u8 z] hx rfl (cell_one_new _ _ _) (by intro u hu; simp at hu; subst hu; rfl) (by simp only [maxLen]; omega) (by omega) (by have := h3.size; simp; omega) ?_
  intro v' w' hown' hgrow _
  have hl : Lib.byteCells l ++ [Value.int .u8 z] = Lib.byteCells (l ++ [b]) := by rw [byteCells_app, hz]; rfl
  rw [hl] at hown'
  exact h v' w' ⟨⟨_, hown', by omega⟩, grow_below (h3.alloc h3.size _) (h1.alloc _) hgrow⟩

theorem ownsRow_shape {w : World} {base : Nat} {e : TypeId} {v : Value} {n : Nat} {xs : List Value} (h : w.ownsRow base e 1 v n xs) :
    xs.length = n ∧ ∃ a c, v = .slice a n c ∧ Sl w a n (fun i => xs.getD i (.int .u8 0)) := by
  refine ⟨by have := h.1; omega, ?_⟩
  rcases h.2 with ⟨rfl, rfl⟩ | ⟨g, cap, cur, rfl, _⟩
  · exact ⟨none, 0, rfl, fun h => absurd h (Nat.lt_irrefl 0)⟩
  · refine ⟨_, _, rfl, fun _ => ⟨g, 0, rfl, fun i hi => ?_⟩⟩
    have hx : i < xs.length := by have := h.1; omega
    have := h.cellAt i (by omega)
    rw [Nat.zero_add, this]
    simp [List.getD_eq_getElem?_getD, hx]

theorem byteCells_getD (l : List UInt8) (i : Nat) : (Lib.byteCells l).getD i (.int .u8 0) = .int .u8 (byteAt l i) := by
  unfold Lib.byteCells byteAt
  rw [List.getD_eq_getElem?_getD, List.getElem?_map, List.getD_eq_getElem?_getD]
  cases l[i]? <;> rfl

theorem ownsRow_bytes {w : World} {base : Nat} {v : Value} {n : Nat} {l : List UInt8} (h : w.ownsRow base 5 1 v n (Lib.byteCells l)) :
    ∃ a c, v = .slice a n c ∧ Bytes w a n l := by
  obtain ⟨h1, a, c, h2, h3⟩ := ownsRow_shape h
  refine ⟨a, c, h2, by simpa [Lib.byteCells] using h1, h3.congr (fun i _ => byteCells_getD l i)⟩

theorem Buf.bytes {w0 w : World} {v : Value} {l : List UInt8} {N : Nat} (h : Buf w0 w v l N) : ∃ a n c, v = .slice a n c ∧ Bytes w a n l ∧ n ≤ N := by
  obtain ⟨⟨n, h1, h2⟩, _⟩ := h
  obtain ⟨a, c, h3, h4⟩ := ownsRow_bytes h1
  exact ⟨a, n, c, h3, h4, h2⟩
end Go.Proofs.Qxb6616563a
