import Derived.Test.Qxb6616786aFmtPuts
namespace Go.Proofs.Qxb6616786aFmt
open Go.RowKit Go.WideMaps Go.Maps Go.Extern.Stop Go.Stop Go.Extern

theorem Rep.err {B0 : Nat} {w w' : World} {rb : Nat} {s t : St} {ls : List Lk} {e : Ending} (h : Rep B0 w rb s ls e w') (hr : replay s ls = (t, true)) : (∃ v, e = .returned (.iface 92 v)) ∧ RegA B0 w' rb t := by
  have hg := h.reg
  rcases h.ans with ⟨_, h2⟩ | ⟨h1, _⟩
  · rw [hr] at hg; exact ⟨h2, hg⟩
  · rw [hr] at h1; cases h1
theorem Rep.ok {B0 : Nat} {w w' : World} {rb : Nat} {s t : St} {ls : List Lk} {e : Ending} (h : Rep B0 w rb s ls e w') (hr : replay s ls = (t, false)) : e = .returned .nilIface ∧ RegA B0 w' rb t := by
  have hg := h.reg
  rcases h.ans with ⟨h1, _⟩ | ⟨_, h2⟩
  · rw [hr] at h1; cases h1
  · rw [hr] at hg; exact ⟨h2, hg⟩

theorem RegA.lt {B0 : Nat} {w : World} {rb : Nat} {s : St} (h : RegA B0 w rb s) : rb < w.heap.size := by
  obtain ⟨M, f, pf, ch, kc, kg, lk, h1, _⟩ := h
  exact cell_lt h1.ops

theorem PR.puts {w w' : World} {n : Nat} {L : LkF} {rb : Nat} (h : PR w w' w.heap.size n n L) (hr : rb < w.heap.size) : Puts w' rb (some ⟨w.heap.size, 0, none⟩) n L :=
  fun _ => ⟨_, rfl, by omega, fun i hi => h.c i hi⟩

set_option maxRecDepth 100000 in
theorem rep8 (F : Interp) {B0 : Nat} {w : World} {rb : Nat} {s : St} (a : Option Addr) (n c : Nat) (L : LkF) (hF : F.answers w.tape) (hB : B0 ≤ w.heap.size) (hn : n ≤ 4096) (hN : s.1.length ≤ 1048576) (hL : ∀ i, (L i).1.size ≤ maxLen ∧ (L i).2.size ≤ maxLen)
    (hp : Puts w rb a n L) (h : RegA B0 w rb s) :
    Calls Tryf.prog 8 #[.slice a n c, .pointer (some ⟨rb, 0, none⟩)] w fun e w' => Rep B0 w rb s (lsOf L n) e w' := by
  have C := hid (rep13 F a n c L hF hB hn hN hL hp h)
  clear hp h hF
  cases hr : (replay s (lsOf L n)).2 with
  | true =>
    go_enter Tryf.func8, Tryf.ntmps8
    go_wp2_with (go_at_call 13; refine C.out.mono ?_; rintro e w1 hrep; obtain ⟨⟨v, rfl⟩, hg⟩ := hrep.err (t := (replay s (lsOf L n)).1) (Prod.ext rfl hr); have HREP := hid hrep; have HG := hid hg; clear hrep hg)
    go_ret
    exact ⟨.inl ⟨hr, v, rfl⟩, HG.out, HREP.out.below, HREP.out.fr⟩
  | false =>
    go_enter Tryf.func8, Tryf.ntmps8
    go_wp2_with (go_at_call 13; refine C.out.mono ?_; rintro e w1 hrep; obtain ⟨rfl, hg⟩ := hrep.ok (t := (replay s (lsOf L n)).1) (Prod.ext rfl hr); have HREP := hid hrep; have HG := hid hg; clear hrep hg)
    go_ret
    exact ⟨.inr ⟨hr, rfl⟩, HG.out, HREP.out.below, HREP.out.fr⟩

theorem lsOf_cut (L : LkF) (p r : Nat) : lsOf L (p + r) = lsOf L p ++ lsOf (fun i => L (p + i)) r := by
  induction r with
  | zero => simp [lsOf]
  | succ r ih => rw [← Nat.add_assoc, lsOf_succ, ih, lsOf_succ, List.append_assoc]; rfl
theorem lsOf_take (L : LkF) {f n : Nat} (h : f ≤ n) : (lsOf L n).take f = lsOf L f := by
  obtain ⟨r, hr⟩ := lsOf_split L h
  rw [hr, List.take_left' (lsOf_len L f)]

theorem replay_len (s : St) (ls : List Lk) : (replay s ls).1.1.length ≤ s.1.length + 2 * ls.length := by
  induction ls generalizing s with
  | nil => exact Nat.le_refl _
  | cons l r ih =>
    rw [replay_cons]
    split
    · simp
    · have h1 := ih (addOp s l)
      have h2 := addOp_len s l
      simp
      omega

theorem mem_addName {N : List Str} {n t : Str} (h : t ∈ addName N n) : t ∈ N ∨ t = n := by
  unfold addName at h
  split at h
  · exact .inl h
  · rcases List.mem_append.1 h with h1 | h1
    · exact .inl h1
    · exact .inr (by simpa using h1)
theorem names_size {L : LkF} (hL : ∀ i, (L i).1.size ≤ maxLen ∧ (L i).2.size ≤ maxLen) (k : Nat) : ∀ t, t ∈ namesF (lsOf L k) → t.length ≤ maxLen := by
  have hs : ∀ x : ByteArray, x.data.toList.length = x.size := fun x => by rw [Array.length_toList]; rfl
  induction k with
  | zero => intro t ht; cases ht
  | succ k ih =>
    intro t ht
    rw [lsOf_succ, namesF_snoc] at ht
    have h1 : (lk L k).1.length ≤ maxLen := by show ((L k).1.data.toList).length ≤ _; rw [hs]; exact (hL k).1
    have h2 : (lk L k).2.length ≤ maxLen := by show ((L k).2.data.toList).length ≤ _; rw [hs]; exact (hL k).2
    unfold nameStep at ht
    split at ht
    · rcases mem_addName ht with h | rfl
      · exact ih t h
      · exact h1
    · rcases mem_addName ht with h | rfl
      · rcases mem_addName h with h | rfl
        · exact ih t h
        · exact h1
      · exact h2

/-- what the plain law says of the whole list -/
structure Whole (L : LkF) (n : Nat) (t : St) (r : Bool) (f : Nat) : Prop where
  run : replay s0 (lsOf L n) = (t, r)
  at' : refAt (lsOf L n) = f
  le : f ≤ n
  dec : decide ((f : Int) < (n : Int)) = r
  inv : Inv (lsOf L f) t
  sz : ∀ x, x ∈ t.1 → x.length ≤ maxLen
theorem whole_of {L : LkF} (hL : ∀ i, (L i).1.size ≤ maxLen ∧ (L i).2.size ≤ maxLen) (n : Nat) : ∃ t r f, Whole L n t r f := by
  obtain ⟨h1, h2⟩ := replay_whole (lsOf L n)
  have hle : refAt (lsOf L n) ≤ n := by have := (refFrom_le [] (lsOf L n)).2; rw [lsOf_len] at this; simpa [refAt] using this
  rw [lsOf_take L hle] at h1
  refine ⟨(replay s0 (lsOf L n)).1, (replay s0 (lsOf L n)).2, refAt (lsOf L n), rfl, rfl, hle, ?_, h1, ?_⟩
  · rw [h2, lsOf_len]
    simp
  · rw [h1.names]
    exact names_size hL _
end Go.Proofs.Qxb6616786aFmt
