import Derived.Test.Qxb6616786aFmtFmt
import Derived.Deep.CutRange
namespace Go.Proofs.Qxb6616786aFmt
open Go.RowKit Go.WideMaps Go.Maps Go.Extern.Stop Go.Stop Go.Extern

section
variable {B0 : Nat} {w : World} {rb : Nat} {s : St}

/-- an operation's parentName -/
theorem par25 {M : Nat} {f pf ch : Str → Option Nat} {kc : Str → Nat} {kg : Str → Str → Prop} {lk : Int} (hr : RegG B0 w rb s.1 M f pf ch kc kg lk) (ht : Bound s f pf kc kg lk) (n : Str) (hin : n ∈ s.1) (b : Nat) (hb : f n = some b) :
    Calls Tryf.prog 25 #[.pointer (some ⟨b, 0, none⟩)] w fun e w' => e = .returned (.string (bs (s.2 n))) ∧ w = w' := by
  have ho := (hr.op _ b hb).c1
  rw [ht.pf _ hin] at ho
  by_cases h0 : s.2 n = []
  · rw [if_pos h0] at ho
    simp only [ptrV, Option.map_none] at ho
    have HE : Hid (bs (s.2 n) = ⟨#[]⟩) := by show _ = _; rw [h0]
    clear hr ht hb
    go_enter Tryf.func25, Tryf.ntmps25
    go_wp2
    go_ret
    exact ⟨by rw [HE.out]; rfl, rfl⟩
  · rw [if_neg h0] at ho
    obtain ⟨bp, hbp⟩ := Option.isSome_iff_exists.1 ((hr.dom _).2 (ht.parIn _ hin h0))
    rw [hbp] at ho
    simp only [ptrV, Option.map_some] at ho
    have hp := (hr.op _ bp hbp).c0
    obtain ⟨x, hx⟩ : ∃ x, x = bs (s.2 n) := ⟨_, rfl⟩
    rw [← hx] at hp ⊢
    clear hr ht hb hbp hx
    go_enter Tryf.func25, Tryf.ntmps25
    go_wp2
    go_ret
    exact ⟨rfl, rfl⟩

set_option maxRecDepth 100000 in
set_option maxHeartbeats 2000000 in
theorem fits_own (F : Interp) (n q : ByteArray) (hF : F.answers w.tape) (h1 : q.toList.isEmpty = false) (h2 : (n.toList == q.toList) = true) (rb : Nat) :
    Calls Tryf.prog 21 #[.pointer (some ⟨rb, 0, none⟩), .string n, .string q] w fun e w' => (∃ v, e = .returned (.iface 92 v)) ∧ Below w.heap.size w w' := by
  have hF' := answers_open hF
  go_enter Tryf.func21, Tryf.ntmps21
  go_wp2
  go_ret
  refine ⟨⟨_, rfl⟩, ?_⟩
  repeat (first | exact Below.refl _ _ | refine Below.drew ?_ | refine Below.alloc ?_ (by simp; omega) _ | refine Below.alloc ?_ (by simp) _)

/-- the two strings' test as the walk spells it: not 'own parent' -/
def NotOwn (n q : ByteArray) : Prop := q.toList.isEmpty = true ∨ (q.toList.isEmpty = false ∧ (n.toList == q.toList) = false)

set_option maxRecDepth 100000 in
set_option maxHeartbeats 2000000 in
theorem fits_new (n q : ByteArray) (hn : n.size ≤ maxLen) (h1 : NotOwn n q) (hin : ¬ n.data.toList ∈ s.1) (h : RegA B0 w rb s) :
    Calls Tryf.prog 21 #[.pointer (some ⟨rb, 0, none⟩), .string n, .string q] w fun e w' => e = .returned .nilIface ∧ w = w' := by
  obtain ⟨M, f, pf, ch, kc, kg, lk, hr, ht⟩ := h
  have c1 := hr.ops
  have hl := hr.map.look n hn
  have hfn : f n.data.toList = none := by
    cases hh : f n.data.toList with
    | none => rfl
    | some x => exact absurd ((hr.dom _).1 (by rw [hh]; rfl)) hin
  rw [hfn] at hl
  simp only [ptrV, Option.map_none] at hl
  clear hr ht hfn
  rcases h1 with h1 | ⟨h1, h2⟩
  · go_enter Tryf.func21, Tryf.ntmps21
    go_wp2
    go_ret
    exact ⟨rfl, rfl⟩
  · go_enter Tryf.func21, Tryf.ntmps21
    go_wp2
    go_ret
    exact ⟨rfl, rfl⟩

set_option maxRecDepth 100000 in
set_option maxHeartbeats 2000000 in
theorem fits_same (n q : ByteArray) (hn : n.size ≤ maxLen) (h1 : NotOwn n q) (hin : n.data.toList ∈ s.1) (hp : s.2 n.data.toList = q.data.toList) (h : RegA B0 w rb s) :
    Calls Tryf.prog 21 #[.pointer (some ⟨rb, 0, none⟩), .string n, .string q] w fun e w' => e = .returned .nilIface ∧ w = w' := by
  obtain ⟨M, f, pf, ch, kc, kg, lk, hr, ht⟩ := h
  have c1 := hr.ops
  have hl := hr.map.look n hn
  obtain ⟨b, hb⟩ := Option.isSome_iff_exists.1 ((hr.dom _).2 hin)
  rw [hb] at hl
  simp only [ptrV, Option.map_some] at hl
  have C25 := hid (par25 hr ht _ hin b hb)
  obtain ⟨x, hx⟩ : ∃ x, x = bs (s.2 n.data.toList) := ⟨_, rfl⟩
  have hxq : (x.toList == q.toList) = true := by rw [hx, ByteArray.toList_eq, ByteArray.toList_eq, bs_key, hp]; simp
  rw [← hx] at C25
  clear hr ht hb hx
  rcases h1 with h1 | ⟨h1, h2⟩
  all_goals
    go_enter Tryf.func21, Tryf.ntmps21
    go_wp2_with (go_at_call 25; refine C25.out.mono ?_; rintro e w1 ⟨rfl, rfl⟩)
    go_ret
    exact ⟨rfl, rfl⟩

set_option maxRecDepth 100000 in
set_option maxHeartbeats 2000000 in
theorem fits_other (F : Interp) (n q : ByteArray) (hF : F.answers w.tape) (hn : n.size ≤ maxLen) (h1 : NotOwn n q) (hin : n.data.toList ∈ s.1) (hp : ¬ s.2 n.data.toList = q.data.toList) (h : RegA B0 w rb s) :
    Calls Tryf.prog 21 #[.pointer (some ⟨rb, 0, none⟩), .string n, .string q] w fun e w' => (∃ v, e = .returned (.iface 92 v)) ∧ Below w.heap.size w w' := by
  have hF' := answers_open hF
  obtain ⟨M, f, pf, ch, kc, kg, lk, hr, ht⟩ := h
  have c1 := hr.ops
  have hl := hr.map.look n hn
  obtain ⟨b, hb⟩ := Option.isSome_iff_exists.1 ((hr.dom _).2 hin)
  rw [hb] at hl
  simp only [ptrV, Option.map_some] at hl
  have C25 := hid (par25 hr ht _ hin b hb)
  obtain ⟨x, hx⟩ : ∃ x, x = bs (s.2 n.data.toList) := ⟨_, rfl⟩
  have hxq : (x.toList == q.toList) = false := by rw [hx, ByteArray.toList_eq, ByteArray.toList_eq, bs_key, beq_eq_false_iff_ne]; exact hp
  rw [← hx] at C25
  have ho := (hr.op _ b hb).c1
  rw [ht.pf _ hin] at ho
  by_cases h0 : s.2 n.data.toList = []
  · rw [if_pos h0] at ho
    simp only [ptrV, Option.map_none] at ho
    clear hr ht hb hx
    rcases h1 with h1 | ⟨h1, h2⟩
    all_goals
      go_enter Tryf.func21, Tryf.ntmps21
      go_wp2_with (go_at_call 25; refine C25.out.mono ?_; rintro e w1 ⟨rfl, rfl⟩)
      go_wp2
      go_ret
      refine ⟨⟨_, rfl⟩, ?_⟩
      repeat (first | exact Below.refl _ _ | refine Below.drew ?_ | refine Below.alloc ?_ (by simp; omega) _ | refine Below.alloc ?_ (by simp) _)
  · rw [if_neg h0] at ho
    obtain ⟨bp, hbp⟩ := Option.isSome_iff_exists.1 ((hr.dom _).2 (ht.parIn _ hin h0))
    rw [hbp] at ho
    simp only [ptrV, Option.map_some] at ho
    have hpn := (hr.op _ bp hbp).c0
    rw [← hx] at hpn
    clear hr ht hb hbp hx
    rcases h1 with h1 | ⟨h1, h2⟩
    all_goals
      go_enter Tryf.func21, Tryf.ntmps21
      go_wp2_with (go_at_call 25; refine C25.out.mono ?_; rintro e w1 ⟨rfl, rfl⟩)
      go_wp2
      go_ret
      refine ⟨⟨_, rfl⟩, ?_⟩
      repeat (first | exact Below.refl _ _ | refine Below.drew ?_ | refine Below.alloc ?_ (by simp; omega) _ | refine Below.alloc ?_ (by simp) _)

theorem notOwn_of {n q : ByteArray} (h : ¬ (¬ q.data.toList = [] ∧ n.data.toList = q.data.toList)) : NotOwn n q := by
  unfold NotOwn
  rw [ByteArray.toList_eq, ByteArray.toList_eq]
  by_cases h0 : q.data.toList = []
  · left; rw [h0]; rfl
  · right
    refine ⟨?_, ?_⟩
    · cases hh : q.data.toList with
      | nil => exact absurd hh h0
      | cons _ _ => rfl
    · rw [beq_eq_false_iff_ne]; exact fun e => h ⟨h0, e⟩

theorem fits_ok (n q : ByteArray) (hn : n.size ≤ maxLen) (hb : stepBad s (n.data.toList, q.data.toList) = false) (h : RegA B0 w rb s) :
    Calls Tryf.prog 21 #[.pointer (some ⟨rb, 0, none⟩), .string n, .string q] w fun e w' => e = .returned .nilIface ∧ w = w' := by
  unfold stepBad at hb
  simp only [Bool.or_eq_false_iff, Bool.and_eq_false_iff, Bool.not_eq_false', beq_iff_eq, beq_eq_false_iff_ne, ne_eq, decide_eq_false_iff_not] at hb
  have h1 : NotOwn n q := notOwn_of (fun ⟨a, b⟩ => by rcases hb.1 with h | h; exact a h; exact h b)
  by_cases hin : n.data.toList ∈ s.1
  · rcases hb.2 with h2 | h2
    · exact absurd hin h2
    · exact fits_same n q hn h1 hin h2 h
  · exact fits_new n q hn h1 hin h

theorem fits_bad (F : Interp) (n q : ByteArray) (hF : F.answers w.tape) (hn : n.size ≤ maxLen) (hb : stepBad s (n.data.toList, q.data.toList) = true) (h : RegA B0 w rb s) :
    Calls Tryf.prog 21 #[.pointer (some ⟨rb, 0, none⟩), .string n, .string q] w fun e w' => (∃ v, e = .returned (.iface 92 v)) ∧ Below w.heap.size w w' := by
  by_cases h1 : ¬ q.data.toList = [] ∧ n.data.toList = q.data.toList
  · refine fits_own F n q hF ?_ ?_ rb
    · rw [ByteArray.toList_eq]
      cases hh : q.data.toList with
      | nil => exact absurd hh h1.1
      | cons _ _ => rfl
    · rw [ByteArray.toList_eq, ByteArray.toList_eq, h1.2]; simp
  · have h2 := notOwn_of h1
    unfold stepBad at hb
    simp only [Bool.or_eq_true, Bool.and_eq_true, Bool.not_eq_true', beq_iff_eq, beq_eq_false_iff_ne, ne_eq, decide_eq_true_eq] at hb
    rcases hb with hb | hb
    · exact absurd hb h1
    · exact fits_other F n q hF hn h2 hb.1 hb.2 h
end
end Go.Proofs.Qxb6616786aFmt
