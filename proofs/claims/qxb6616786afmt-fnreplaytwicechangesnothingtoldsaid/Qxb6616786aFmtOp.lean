import Derived.Test.Qxb6616786aFmtReg
namespace Go.Proofs.Qxb6616786aFmt
open Go.RowKit Go.WideMaps Go.Maps

theorem hid {p : Prop} (h : p) : Hid p := h

/-- a pointer stored at a new key, for the walk -/
theorem wp_put {w : World} {ops : Array Oper} {rest : List Oper} {o : Oper} {a : Act} {Q : Exit → Act → World → Prop} {B n : Nat} {f : Str → Option Nat} (h : MapP w B n f) (hn : n < maxLen)
    (hg : o.guard = none) (m x v : Operand) (hop : o.op = Op.mapUpdate 37 m x v) (hm : a.eval m = .map (some B)) (s : ByteArray) (hx : a.eval x = .string s) (b : Nat) (hv : a.eval v = .pointer (some ⟨b, 0, none⟩))
    (hs : s.size ≤ maxLen) (hnew : f s.data.toList = none)
    (hK : ∀ w', MapP w' B (n + 1) (fset f s.data.toList (some b)) → w.grownBy w' (some B) → wpList Tryf.prog ops Q rest (a.put o.dst undef) w') : wpList Tryf.prog ops Q (o :: rest) a w := by
  refine wpList_plain hg fun K' hK' => ?_
  obtain ⟨w', hrun, r1, r2⟩ := h.put hn s hs b hnew
  unfold Oper.wp
  simp [execOp, hop, hm, hx, hv, hrun, Result.andThen]
  exact hK' _ _ (hK w' r1 r2)

section
variable {B0 : Nat} {w : World} {rb : Nat} {N : List Str} {M : Nat} {f pf ch : Str → Option Nat} {kc : Str → Nat} {kg : Str → Str → Prop} {lk : Int}

theorem op22_old (n q : ByteArray) (hn : n.size ≤ maxLen) (b : Nat) (hb : f n.data.toList = some b) (h : RegG B0 w rb N M f pf ch kc kg lk) :
    Calls Tryf.prog 22 #[.pointer (some ⟨rb, 0, none⟩), .string n, .string q] w fun e w' => e = .returned (.pointer (some ⟨b, 0, none⟩)) ∧ w = w' := by
  have c1 := h.ops
  have hl := h.map.look n hn
  rw [hb] at hl
  simp only [ptrV, Option.map_some] at hl
  clear h hb
  go_enter Tryf.func22, Tryf.ntmps22
  go_wp2
  go_ret
  exact ⟨rfl, rfl⟩

theorem op_new (w : World) (n : ByteArray) : OpBlk ((w.alloc (.map #[] 0)).alloc (.cells #[.string n, .pointer none, .map none, .map (some w.heap.size), .map none, .map none] 86)) (w.heap.size + 1) n.data.toList none none := by
  have hs : (w.alloc (.map #[] 0)).heap.size = w.heap.size + 1 := by simp
  have hc := fun i => World.cell?_alloc_new (w.alloc (.map #[] 0)) #[.string n, .pointer none, .map none, .map (some w.heap.size), .map none, .map none] 86 i
  rw [hs] at hc
  refine ⟨by rw [hc, ← bs_of]; rfl, hc 1, hc 2, ?_, ?_⟩
  all_goals
    have hh := heap_alloc_new (w.alloc (.map #[] 0)) (.cells #[.string n, .pointer none, .map none, .map (some w.heap.size), .map none, .map none] 86)
    rw [hs] at hh
    unfold World.frozen?
    simp only [hh]
    rfl

/-- what operation leaves where the name is new and no parent is named -/
structure New0 (B0 : Nat) (w : World) (rb : Nat) (N : List Str) (M : Nat) (f pf ch : Str → Option Nat) (kc : Str → Nat) (kg : Str → Str → Prop) (lk : Int) (n : Str) (b : Nat) (w' : World) : Prop where
  reg : RegG B0 w' rb (N ++ [n]) M (fset f n (some b)) (fset pf n none) (fset ch n none) (fun k => if k = n then 0 else kc k) kg lk
  below : Below B0 w w'
  fr : Fr rb w w'

set_option maxRecDepth 100000 in
set_option maxHeartbeats 1000000 in
theorem op22_new0 (n q : ByteArray) (hn : n.size ≤ maxLen) (hq : q.toList.isEmpty = true) (hnew : ¬ n.data.toList ∈ N) (hN : N.length < maxLen) (hB : B0 ≤ w.heap.size) (h : RegG B0 w rb N M f pf ch kc kg lk) :
    Calls Tryf.prog 22 #[.pointer (some ⟨rb, 0, none⟩), .string n, .string q] w fun e w' => ∃ b, e = .returned (.pointer (some ⟨b, 0, none⟩)) ∧ New0 B0 w rb N M f pf ch kc kg lk n.data.toList b w' := by
  have hfn : f n.data.toList = none := by
    cases hh : f n.data.toList with
    | none => rfl
    | some x => exact absurd ((h.dom _).1 (by rw [hh]; rfl)) hnew
  have c1 := h.ops
  have hl := h.map.look n hn
  rw [hfn] at hl
  simp only [ptrV, Option.map_none] at hl
  have hmm := @run_makeMap Tryf.prog
  have hrb := cell_lt c1
  have HR := hid h
  clear h
  go_enter Tryf.func22, Tryf.ntmps22
  go_wp2_with (at_mapUpdate; refine wp_put ((HR.out.map.kept (World.grownBy_alloc _ _ none) (by simp)).kept (World.grownBy_alloc _ _ none) (by simp)) hN rfl _ _ _ rfl rfl n rfl (w.heap.size + 1) rfl hn hfn ?_; intro w2 hm2 hg2; have HM2 := hid hm2; have HG2 := hid hg2; clear hm2 hg2)
  go_ret
  refine ⟨_, rfl, ?_, ?_, ?_⟩
  · exact HR.out.add hnew hB (fun k hk => by rw [Below.heap_alloc _ _ _ (by simp; omega), Below.heap_alloc _ _ _ hk]) (by omega) (op_new w n) HM2.out HG2.out
  · exact (((Below.refl B0 w).alloc hB _).alloc (by simp; omega) _).grown HG2.out (by simp; omega) (fun k hk => by cases hk; exact HR.out.low.2.1)
  · exact ((Fr.alloc rb w _).trans (Fr.alloc rb _ _)).trans (Fr.grown ((HR.out.map.kept (World.grownBy_alloc _ _ none) (by simp)).kept (World.grownBy_alloc _ _ none) (by simp)) HG2.out)
end
end Go.Proofs.Qxb6616786aFmt
