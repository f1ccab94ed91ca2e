/-
  A [][]byte that the call itself builds by append, of rows that it has built itself.
-/
import Derived.Test.Qxb6616563aGrow
namespace Go.Proofs.Qxb6616563a
open Go.RowKit

theorem ownsRow_below {w w' : World} {base B : Nat} {e : TypeId} {s : Nat} {v : Value} {n : Nat} {xs : List Value} (h : w.ownsRow base e s v n xs) (hb : Below B w w') (hB : w.heap.size ≤ B) : w'.ownsRow base e s v n xs := by
  obtain ⟨h1, h2⟩ := h
  refine ⟨h1, ?_⟩
  rcases h2 with h | ⟨g, cap, cur, e1, e2, e3, e4⟩
  · exact .inl h
  · refine .inr ⟨g, cap, cur, e1, e2, ?_, e4⟩
    rw [hb.block g, e3]
    rcases Nat.lt_or_ge g w.heap.size with hg | hg
    · omega
    · rw [Array.getElem?_eq_none hg] at e3
      cases e3

theorem ownsRow_base {w : World} {base B : Nat} {e : TypeId} {s : Nat} {v : Value} {n : Nat} {xs : List Value} (h : w.ownsRow base e s v n xs) (hB : B ≤ base) : w.ownsRow B e s v n xs := by
  obtain ⟨h1, h2⟩ := h
  refine ⟨h1, ?_⟩
  rcases h2 with h | ⟨g, cap, cur, e1, e2, e3⟩
  · exact .inl h
  · exact .inr ⟨g, cap, cur, e1, Nat.le_trans hB e2, e3⟩

theorem ownsRow_apart {w : World} {B B' : Nat} {e e' : TypeId} {s s' : Nat} {v v' : Value} {n n' : Nat} {xs xs' : List Value} (h : w.ownsRow B e s v n xs) (h' : w.ownsRow B' e' s' v' n' xs') (hne : e ≠ e') :
    v.ownBlock = none ∨ v.ownBlock ≠ v'.ownBlock := by
  rcases h.2 with ⟨rfl, _⟩ | ⟨g, cap, cur, rfl, e2, e3, _⟩
  · exact .inl rfl
  · rcases h'.2 with ⟨rfl, _⟩ | ⟨g', cap', cur', rfl, e2', e3', _⟩
    · exact .inr (by simp [Value.ownBlock])
    · refine .inr fun he => ?_
      simp only [Value.ownBlock, Option.some.injEq] at he
      subst he
      rw [e3] at e3'
      simp only [Option.some.injEq, Obj.cells.injEq] at e3'
      exact hne e3'.2.1

structure VL (w0 w : World) (vals : Value) (j : Nat) (vs : Nat → List UInt8) : Prop where
  own : ∃ Vf : Nat → Value, w.ownsRow w0.heap.size 32 1 vals j ((List.range j).map Vf) ∧ ∀ t, t < j → ∃ n, w.ownsRow w0.heap.size 5 1 (Vf t) n (Lib.byteCells (vs t)) ∧ n ≤ 1152921504606846976
  below : Below w0.heap.size w0 w

theorem VL.start (w : World) (vs : Nat → List UInt8) : VL w w (.slice none 0 0) 0 vs :=
  ⟨⟨fun _ => .slice none 0 0, World.ownsRow_nil _ _ _ _, fun _ h => absurd h (Nat.not_lt_zero _)⟩, Below.refl _ _⟩

theorem VL.after {w0 w w' : World} {vals : Value} {j : Nat} {vs : Nat → List UInt8} (h : VL w0 w vals j vs) (hb : Below w.heap.size w w') : VL w0 w' vals j vs := by
  obtain ⟨⟨Vf, h1, h2⟩, h3⟩ := h
  refine ⟨⟨Vf, ownsRow_below h1 hb (Nat.le_refl _), fun t ht => ?_⟩, h3.trans (hb.mono h3.size)⟩
  obtain ⟨n, h4, h5⟩ := h2 t ht
  exact ⟨n, ownsRow_below h4 hb (Nat.le_refl _), h5⟩

theorem Try.info32 : (Try.prog.info? 32).map (fun i => (i.zero, i.size, i.bytes)) = some (some (.slice none 0 0), 1, 24) := by kernel_rfl

theorem VL.wp_app {w0 w : World} {ops : Array Oper} {rest : List Oper} {o : Oper} {a : Act} {Q : Exit → Act → World → Prop} {vals v : Value} {j n : Nat} {vs : Nat → List UInt8} (h : VL w0 w vals j vs)
    (hv : w.ownsRow w0.heap.size 5 1 v n (Lib.byteCells (vs j))) (hn : n ≤ 1152921504606846976)
    (hgd : o.guard = none) (sl x : Operand) (ho : o.op = .call { callee := .builtin .append, args := #[sl, x], argTypes := #[24, 24] }) (hs : a.eval sl = vals) (hx : a.eval x = .slice (some ⟨w.heap.size, 0, none⟩) 1 1)
    (hj : j + 1 ≤ 4294967296)
    (hk : ∀ vals' w', VL w0 w' vals' (j + 1) vs → wpList Try.prog ops Q rest (a.put o.dst vals') w') : wpList Try.prog ops Q (o :: rest) a (w.alloc (.cells #[v] 32)) := by
  obtain ⟨⟨Vf, h1, h2⟩, h3⟩ := h
  obtain ⟨i0, hi, hz0, hz1, hz2⟩ := info_parts Try.info32
  have hone : ∀ u ∈ [v], u.oneCell' = true := by
    intro u hu
    simp at hu
    subst hu
    obtain ⟨_, a', c', rfl, _⟩ := ownsRow_shape hv
    rfl
  refine wpList_append_own _ hgd sl x 24 ho w0.heap.size 32 i0 (.slice none 0 0) 1 24 Try.underlying24 hi hz0 hz1 hz2 rfl (by decide) vals j _ hs (h1.alloc _) ⟨w.heap.size, 0, none⟩ 1 1 [v] hx rfl (cell_one_new _ _ _) hone (by simp only [maxLen]; omega) (by omega) (by have := h3.size; simp; omega) ?_
  intro v' w' hown' hgrow _
  refine hk v' w' ⟨⟨fun t => if t = j then v else Vf t, ?_, fun t ht => ?_⟩, grow_below (h3.alloc h3.size _) (h1.alloc _) hgrow⟩
  · have e : (List.range j).map Vf ++ [v] = (List.range (j + 1)).map (fun t => if t = j then v else Vf t) := by
      rw [List.range_succ, List.map_append]
      congr 1
      · refine List.map_congr_left fun t ht => ?_
        rw [if_neg (by have := List.mem_range.1 ht; omega)]
      · simp
    rw [← e]
    exact hown'
  · by_cases ht' : t = j
    · subst ht'
      show ∃ n, w'.ownsRow w0.heap.size 5 1 (if t = t then v else Vf t) n _ ∧ _
      rw [if_pos rfl]
      exact ⟨n, (hv.alloc _).kept hgrow (ownsRow_apart hv h1 (by decide)), hn⟩
    · show ∃ n, w'.ownsRow w0.heap.size 5 1 (if t = j then v else Vf t) n _ ∧ _
      rw [if_neg ht']
      obtain ⟨m, h4, h5⟩ := h2 t (by omega)
      exact ⟨m, (h4.alloc _).kept hgrow (ownsRow_apart h4 h1 (by decide)), h5⟩

theorem VL.result {w0 w : World} {vals : Value} {m : Nat} {vs : Nat → List UInt8} (h : VL w0 w vals m vs) : ∃ a c, vals = .slice a m c ∧ BList w a m ((List.range m).map vs) := by
  obtain ⟨⟨Vf, h1, h2⟩, h3⟩ := h
  obtain ⟨_, a, c, e, hsl⟩ := ownsRow_shape h1
  have key : ∀ t, ∃ (A : Option Addr) (L C : Nat), t < m → Vf t = .slice A L C ∧ Bytes w A L (vs t) ∧ L ≤ 1152921504606846976 := by
    intro t
    by_cases ht : t < m
    · obtain ⟨n, h4, h5⟩ := h2 t ht
      obtain ⟨A, C, e1, e2⟩ := ownsRow_bytes h4
      exact ⟨A, n, C, fun _ => ⟨e1, e2, h5⟩⟩
    · exact ⟨none, 0, 0, fun h => absurd h ht⟩
  refine ⟨a, c, e, by simp, fun t => (key t).choose, fun t => (key t).choose_spec.choose, fun t => (key t).choose_spec.choose_spec.choose, hsl.congr fun i hi => ?_, fun i hi => ?_⟩
  · have := (key i).choose_spec.choose_spec.choose_spec hi
    rw [← this.1]
    simp [List.getD_eq_getElem?_getD, hi]
  · have := (key i).choose_spec.choose_spec.choose_spec hi
    refine ⟨?_, this.2.2⟩
    have e2 : ((List.range m).map vs).getD i [] = vs i := by simp [List.getD_eq_getElem?_getD, hi]
    rw [e2]
    exact this.2.1
end Go.Proofs.Qxb6616563a
