/-
  What the law's own readers answer of a register.
-/
import Derived.Test.Qxb6616786aFmtBound
namespace Go.Proofs.Qxb6616786aFmt
open Go.RowKit Go.WideMaps Go.Maps

abbrev regC (M : Nat) : Array Value := #[.map none, .map none, .map (some M), .map none, .slice none 0 0, .map none, .map none, .map none, .int .i64 0, .slice none 0 0, .slice none 0 0, .slice none 0 0, .int .i64 0, .map none, .map none, .slice none 0 0, .int .i64 0, .map none, .map none, .slice none 0 0, .map none, .int .u64 0, .int .i64 0, .pointer none, .int .u64 0, .int .i64 0, .pointer none, .int .i64 0, .int .i64 0, .int .u16 0, .pointer none]

theorem reg_new (w : World) : RegA w.heap.size ((w.alloc (.map #[] 0)).alloc (.cells (regC w.heap.size) 69)) (w.heap.size + 1) s0 := by
  have hs : (w.alloc (.map #[] 0)).heap.size = w.heap.size + 1 := by simp
  have hc := fun i => World.cell?_alloc_new (w.alloc (.map #[] 0)) (regC w.heap.size) 69 i
  rw [hs] at hc
  have hh := heap_alloc_new (w.alloc (.map #[] 0)) (.cells (regC w.heap.size) 69)
  rw [hs] at hh
  refine ⟨w.heap.size, fun _ => none, fun _ => none, fun _ => none, fun _ => 0, fun _ _ => False, 0, ⟨hc 2, hc 27, ?_, (MapP.made w).kept (World.grownBy_alloc _ _ none) (by simp), fun s => ?_, fun s b h => ?_, fun s t b h => ?_, fun s b h => ?_, fun s h => ?_, fun s h => ?_, fun s h => ?_, ⟨by omega, Nat.le_refl _, fun s b h => ?_, fun s h => ?_⟩⟩, ⟨List.nodup_nil, fun n h => ?_, fun n h => ?_, fun n h => ?_, fun t u h => h.elim, rfl⟩⟩
  · unfold World.frozen?
    simp only [hh]
    rfl
  · exact ⟨fun h => by simp at h, fun h => absurd h List.not_mem_nil⟩
  all_goals first | (cases h; done) | exact absurd h List.not_mem_nil

theorem new7 (w : World) : Calls Tryf.prog 7 #[] w fun e w' => ∃ rb, e = .returned (.pointer (some ⟨rb, 0, none⟩)) ∧ RegA w.heap.size w' rb s0 ∧ Below w.heap.size w w' := by
  have hmm := @run_makeMap Tryf.prog
  have HN := hid (reg_new w)
  go_enter Tryf.func7, Tryf.ntmps7
  go_wp2
  go_ret
  exact ⟨_, rfl, HN.out, ((Below.refl _ _).alloc (Nat.le_refl _) _).alloc (by simp) _⟩

section
variable {B0 : Nat} {w : World} {rb : Nat} {s : St}
theorem act16 (h : RegA B0 w rb s) : Calls Tryf.prog 16 #[.pointer (some ⟨rb, 0, none⟩)] w fun e w' => e = .returned (.int .i64 s.1.length) ∧ w = w' := by
  obtain ⟨M, f, pf, ch, kc, kg, lk, hr, ht⟩ := h
  have c1 := hr.ops
  have hl := fun ty => hr.map.len ty
  clear hr ht
  go_enter Tryf.func16, Tryf.ntmps16
  go_wp2
  go_ret
  exact ⟨rfl, rfl⟩
theorem lnk17 (h : RegA B0 w rb s) : Calls Tryf.prog 17 #[.pointer (some ⟨rb, 0, none⟩)] w fun e w' => e = .returned (.int .i64 (lnkN s)) ∧ w = w' := by
  obtain ⟨M, f, pf, ch, kc, kg, lk, hr, ht⟩ := h
  have c1 := hr.lnk
  rw [ht.lk] at c1
  clear hr ht
  go_enter Tryf.func17, Tryf.ntmps17
  go_wp2
  go_ret
  exact ⟨rfl, rfl⟩
theorem isAct18 (h : RegA B0 w rb s) (n : ByteArray) (hn : n.size ≤ maxLen) (hin : n.data.toList ∈ s.1) : Calls Tryf.prog 18 #[.pointer (some ⟨rb, 0, none⟩), .string n] w fun e w' => e = .returned (.bool true) ∧ w = w' := by
  obtain ⟨M, f, pf, ch, kc, kg, lk, hr, ht⟩ := h
  have c1 := hr.ops
  have hl := hr.map.look n hn
  obtain ⟨b, hb⟩ := Option.isSome_iff_exists.1 ((hr.dom _).2 hin)
  rw [hb] at hl
  simp only [ptrV, Option.map_some] at hl
  clear hr ht hb
  go_enter Tryf.func18, Tryf.ntmps18
  go_wp2
  go_ret
  exact ⟨rfl, rfl⟩
theorem parOf19 (h : RegA B0 w rb s) (n : ByteArray) (hn : n.size ≤ maxLen) (hin : n.data.toList ∈ s.1) : Calls Tryf.prog 19 #[.pointer (some ⟨rb, 0, none⟩), .string n] w fun e w' => e = .returned (.string (bs (s.2 n.data.toList))) ∧ w = w' := by
  obtain ⟨M, f, pf, ch, kc, kg, lk, hr, ht⟩ := h
  have c1 := hr.ops
  have hl := hr.map.look n hn
  obtain ⟨b, hb⟩ := Option.isSome_iff_exists.1 ((hr.dom _).2 hin)
  rw [hb] at hl
  simp only [ptrV, Option.map_some] at hl
  have ho := (hr.op _ b hb).c1
  rw [ht.pf _ hin] at ho
  by_cases h0 : s.2 n.data.toList = []
  · rw [if_pos h0] at ho
    simp only [ptrV, Option.map_none] at ho
    have HE : Hid (bs (s.2 n.data.toList) = ⟨#[]⟩) := by show _ = _; rw [h0]
    clear hr ht hb
    go_enter Tryf.func19, Tryf.ntmps19
    go_wp2
    go_ret
    exact ⟨by rw [HE.out]; rfl, rfl⟩
  · rw [if_neg h0] at ho
    obtain ⟨bp, hbp⟩ := Option.isSome_iff_exists.1 ((hr.dom _).2 (ht.parIn _ hin h0))
    rw [hbp] at ho
    simp only [ptrV, Option.map_some] at ho
    have hp := (hr.op _ bp hbp).c0
    obtain ⟨x, hx⟩ : ∃ x, x = bs (s.2 n.data.toList) := ⟨_, rfl⟩
    rw [← hx] at hp ⊢
    clear hr ht hb hbp hx
    go_enter Tryf.func19, Tryf.ntmps19
    go_wp2
    go_ret
    exact ⟨rfl, rfl⟩
theorem kids20 (h : RegA B0 w rb s) (n : ByteArray) (hn : n.size ≤ maxLen) (hin : n.data.toList ∈ s.1) : Calls Tryf.prog 20 #[.pointer (some ⟨rb, 0, none⟩), .string n] w fun e w' => e = .returned (.int .i64 (kid s n.data.toList)) ∧ w = w' := by
  obtain ⟨M, f, pf, ch, kc, kg, lk, hr, ht⟩ := h
  have c1 := hr.ops
  have hl := hr.map.look n hn
  obtain ⟨b, hb⟩ := Option.isSome_iff_exists.1 ((hr.dom _).2 hin)
  rw [hb] at hl
  simp only [ptrV, Option.map_some] at hl
  have ho := (hr.op _ b hb).c2
  have hk := hr.kids _ hin
  rw [ht.kc _ hin] at hk
  have hnil := fun (w : World) (ty : TypeId) => Maps.len_nil (P := Tryf.prog) (w := w) Tryf.underlying37 ty
  cases hc : ch n.data.toList with
  | none =>
    rw [hc] at ho hk
    have HK : Hid (kid s n.data.toList = 0) := hk
    clear hr ht hb hc hk
    go_enter Tryf.func20, Tryf.ntmps20
    go_wp2
    go_ret
    exact ⟨by rw [HK.out]; rfl, rfl⟩
  | some C =>
    rw [hc] at ho hk
    obtain ⟨g, hm, _⟩ := hk
    have hlen := fun ty => hm.len ty
    clear hr ht hb hc hm
    go_enter Tryf.func20, Tryf.ntmps20
    go_wp2
    go_ret
    exact ⟨rfl, rfl⟩
end
end Go.Proofs.Qxb6616786aFmt
