/-
  The plain law: links replayed into a state (the names, each name's parent); the first-mention rule.
-/
import Derived.Test.Qxb6616786aFmtMap
namespace Go.Proofs.Qxb6616786aFmt

abbrev Lk := Str × Str
abbrev St := List Str × (Str → Str)
def upd (par : Str → Str) (s p : Str) : Str → Str := fun k => if k = s then p else par k
/-- fits refuses -/
def stepBad (s : St) (l : Lk) : Bool := (!(l.2 == []) && l.1 == l.2) || (decide (l.1 ∈ s.1) && !(s.2 l.1 == l.2))
/-- operation -/
def addOp (s : St) (l : Lk) : St :=
  if l.1 ∈ s.1 then s
  else if l.2 = [] then (s.1 ++ [l.1], upd s.2 l.1 l.2)
  else if l.2 ∈ s.1 ++ [l.1] then (s.1 ++ [l.1], upd s.2 l.1 l.2)
  else (s.1 ++ [l.1] ++ [l.2], upd (upd s.2 l.1 l.2) l.2 [])
def replay (s : St) : List Lk → St × Bool
  | [] => (s, false)
  | l :: r => if stepBad s l then (s, true) else replay (addOp s l) r
theorem replay_cons (s : St) (l : Lk) (r : List Lk) : replay s (l :: r) = if stepBad s l then (s, true) else replay (addOp s l) r := rfl
theorem replay_app (s : St) (a b : List Lk) : replay s (a ++ b) = if (replay s a).2 then replay s a else replay (replay s a).1 b := by
  induction a generalizing s with
  | nil => rfl
  | cons l r ih =>
    rw [List.cons_append, replay_cons, replay_cons]
    by_cases h : stepBad s l = true
    · simp [h]
    · simp only [h, Bool.false_eq_true, if_false]
      exact ih _

def addName (N : List Str) (n : Str) : List Str := if n ∈ N then N else N ++ [n]
def nameStep (N : List Str) (l : Lk) : List Str := if l.2 = [] then addName N l.1 else addName (addName N l.1) l.2
def namesF (ls : List Lk) : List Str := ls.foldl nameStep []
def fm : List Lk → Str → Bool × Str
  | [], _ => (false, [])
  | l :: r, n => if l.1 = n then (true, l.2) else if ¬ l.2 = [] ∧ l.2 = n then (true, []) else fm r n
/-- the link l is refused behind the links pre -/
def bad (pre : List Lk) (l : Lk) : Bool := (!(l.2 == []) && l.1 == l.2) || ((fm pre l.1).1 && !((fm pre l.1).2 == l.2))
def refFrom (pre : List Lk) : List Lk → Nat
  | [] => pre.length
  | l :: r => if bad pre l then pre.length else refFrom (pre ++ [l]) r
def refAt (ls : List Lk) : Nat := refFrom [] ls

theorem fm_cons (l : Lk) (r : List Lk) (n : Str) : fm (l :: r) n = if l.1 = n then (true, l.2) else if ¬ l.2 = [] ∧ l.2 = n then (true, []) else fm r n := rfl
theorem fm_app (a b : List Lk) (n : Str) : fm (a ++ b) n = if (fm a n).1 then fm a n else fm b n := by
  induction a with
  | nil => rfl
  | cons l r ih =>
    rw [List.cons_append, fm_cons, fm_cons]
    by_cases h1 : l.1 = n
    · simp [h1]
    · by_cases h2 : ¬ l.2 = [] ∧ l.2 = n
      · rw [if_neg h1, if_pos h2, if_neg h1, if_pos h2]; rfl
      · rw [if_neg h1, if_neg h2, if_neg h1, if_neg h2]
        exact ih

/-- the state is what the links pre leave -/
structure Inv (pre : List Lk) (s : St) : Prop where
  names : s.1 = namesF pre
  seen : ∀ n, (fm pre n).1 = decide (n ∈ s.1)
  par : ∀ n, n ∈ s.1 → (fm pre n).2 = s.2 n
  nd : s.1.Nodup
  parIn : ∀ n, n ∈ s.1 → ¬ s.2 n = [] → s.2 n ∈ s.1
def s0 : St := ([], fun _ => [])
theorem Inv.start : Inv [] s0 := ⟨rfl, fun _ => rfl, fun n (h : n ∈ ([] : List Str)) => absurd h List.not_mem_nil, List.nodup_nil, fun n (h : n ∈ ([] : List Str)) => absurd h List.not_mem_nil⟩

theorem bad_step {pre : List Lk} {s : St} (h : Inv pre s) (l : Lk) : bad pre l = stepBad s l := by
  unfold bad stepBad
  rw [h.seen]
  by_cases hn : l.1 ∈ s.1
  · rw [h.par _ hn]
  · simp [hn]

theorem nodup_snoc {N : List Str} {n : Str} (h : N.Nodup) (hn : ¬ n ∈ N) : (N ++ [n]).Nodup := by
  rw [List.nodup_append]
  refine ⟨h, by simp, ?_⟩
  intro a ha b hb e
  rw [List.mem_singleton] at hb
  exact hn (by rw [← hb, ← e]; exact ha)
theorem namesF_snoc (pre : List Lk) (l : Lk) : namesF (pre ++ [l]) = nameStep (namesF pre) l := by unfold namesF; rw [List.foldl_append]; rfl

theorem Inv.step {pre : List Lk} {s : St} (h : Inv pre s) (l : Lk) (hb : stepBad s l = false) : Inv (pre ++ [l]) (addOp s l) := by
  have hf : ∀ n, fm (pre ++ [l]) n = if n ∈ s.1 then (true, s.2 n) else if l.1 = n then (true, l.2) else if ¬ l.2 = [] ∧ l.2 = n then (true, []) else (false, []) := by
    intro n
    rw [fm_app, h.seen]
    by_cases hn : n ∈ s.1
    · have e1 : fm pre n = (true, s.2 n) := Prod.ext (by rw [h.seen]; simpa using hn) (h.par n hn)
      simp [hn, e1]
    · simp only [hn, decide_false, Bool.false_eq_true, if_false]
      rfl
  unfold stepBad at hb
  simp only [Bool.or_eq_false_iff, Bool.and_eq_false_iff, Bool.not_eq_false', beq_iff_eq, decide_eq_false_iff_not] at hb
  obtain ⟨hb1, hb2⟩ := hb
  have hne : ¬ l.2 = [] → ¬ l.1 = l.2 := fun h1 h2 => by
    rcases hb1 with h | h
    · exact h1 h
    · simp [h2] at h
  unfold addOp
  by_cases hin : l.1 ∈ s.1
  · rw [if_pos hin]
    have hpar : s.2 l.1 = l.2 := by
      rcases hb2 with h | h
      · exact absurd hin h
      · exact h
    have hin2 : ¬ l.2 = [] → l.2 ∈ s.1 := fun h2 => by rw [← hpar]; exact h.parIn _ hin (by rw [hpar]; exact h2)
    refine ⟨?_, fun n => ?_, fun n hn => ?_, h.nd, h.parIn⟩
    · rw [namesF_snoc, ← h.names]
      unfold nameStep addName
      by_cases h2 : l.2 = []
      · simp [h2, hin]
      · simp [h2, hin, hin2 h2]
    · rw [hf]
      by_cases hn : n ∈ s.1
      · simp [hn]
      · rw [if_neg hn, if_neg (fun e => hn (by rw [← e]; exact hin)), if_neg (fun e => hn (by rw [← e.2]; exact hin2 e.1))]
        simp [hn]
    · rw [hf, if_pos hn]
  · rw [if_neg hin]
    by_cases h2 : l.2 = []
    · rw [if_pos h2]
      refine ⟨?_, fun n => ?_, fun n hn => ?_, ?_, ?_⟩
      · show s.1 ++ [l.1] = _
        rw [namesF_snoc, ← h.names]
        unfold nameStep addName
        simp [h2, hin]
      · rw [hf]
        by_cases hn : n ∈ s.1
        · simp [hn]
        · rw [if_neg hn]
          by_cases hl : l.1 = n
          · simp [hl]
          · simp [hl, h2, hn, Ne.symm hl]
      · rw [hf]
        show _ = upd s.2 l.1 l.2 n
        unfold upd
        by_cases hn' : n ∈ s.1
        · have : ¬ n = l.1 := fun e => hin (by rw [← e]; exact hn')
          rw [if_pos hn', if_neg this]
        · have : n = l.1 := by
            have := List.mem_append.1 hn
            simpa [hn'] using this
          rw [if_neg hn', if_pos this.symm, if_pos this]
      · show (s.1 ++ [l.1]).Nodup
        exact nodup_snoc h.nd hin
      · intro n hn hp
        show upd s.2 l.1 l.2 n ∈ s.1 ++ [l.1]
        have hp : ¬ upd s.2 l.1 l.2 n = [] := hp
        unfold upd at hp ⊢
        by_cases e : n = l.1
        · rw [if_pos e] at hp; exact absurd h2 hp
        · rw [if_neg e] at hp ⊢
          have hn' : n ∈ s.1 := by have := List.mem_append.1 hn; simpa [e] using this
          exact List.mem_append_left _ (h.parIn n hn' hp)
    · rw [if_neg h2]
      have hne' := hne h2
      have hsame : l.2 ∈ s.1 ++ [l.1] ↔ l.2 ∈ s.1 := by simp [Ne.symm hne']
      have hnames : namesF (pre ++ [l]) = addName (s.1 ++ [l.1]) l.2 := by
        rw [namesF_snoc, ← h.names]
        unfold nameStep
        rw [if_neg h2]
        have : addName s.1 l.1 = s.1 ++ [l.1] := by unfold addName; rw [if_neg hin]
        rw [this]
      by_cases hin2 : l.2 ∈ s.1 ++ [l.1]
      · rw [if_pos hin2]
        have hin3 := hsame.1 hin2
        refine ⟨?_, fun n => ?_, fun n hn => ?_, nodup_snoc h.nd hin, ?_⟩
        · rw [hnames]; unfold addName; rw [if_pos hin2]
        · rw [hf]
          by_cases hn : n ∈ s.1
          · simp [hn]
          · rw [if_neg hn]
            by_cases hl : l.1 = n
            · simp [hl]
            · have : ¬ l.2 = n := fun e => hn (by rw [← e]; exact hin3)
              simp [hl, this, hn, Ne.symm hl]
        · rw [hf]
          show _ = upd s.2 l.1 l.2 n
          unfold upd
          by_cases hn' : n ∈ s.1
          · have : ¬ n = l.1 := fun e => hin (by rw [← e]; exact hn')
            rw [if_pos hn', if_neg this]
          · have : n = l.1 := by
              have := List.mem_append.1 hn
              simpa [hn'] using this
            rw [if_neg hn', if_pos this.symm, if_pos this]
        · intro n hn hp
          show upd s.2 l.1 l.2 n ∈ s.1 ++ [l.1]
          have hp : ¬ upd s.2 l.1 l.2 n = [] := hp
          unfold upd at hp ⊢
          by_cases e : n = l.1
          · rw [if_pos e]; exact hin2
          · rw [if_neg e] at hp ⊢
            have hn' : n ∈ s.1 := by have := List.mem_append.1 hn; simpa [e] using this
            exact List.mem_append_left _ (h.parIn n hn' hp)
      · rw [if_neg hin2]
        have hin3 : ¬ l.2 ∈ s.1 := fun e => hin2 (hsame.2 e)
        refine ⟨?_, fun n => ?_, fun n hn => ?_, nodup_snoc (nodup_snoc h.nd hin) hin2, ?_⟩
        · rw [hnames]; unfold addName; rw [if_neg hin2]
        · rw [hf]
          by_cases hn : n ∈ s.1
          · simp [hn]
          · rw [if_neg hn]
            by_cases hl : l.1 = n
            · simp [hl]
            · by_cases hl2 : l.2 = n
              · have h2' : ¬ n = [] := by rw [← hl2]; exact h2
                rw [if_neg hl, if_pos ⟨h2, hl2⟩]
                simp [hl2]
              · simp [hl, hl2, hn, Ne.symm hl, Ne.symm hl2]
        · rw [hf]
          show _ = upd (upd s.2 l.1 l.2) l.2 [] n
          unfold upd
          by_cases hn' : n ∈ s.1
          · have e1 : ¬ n = l.1 := fun e => hin (by rw [← e]; exact hn')
            have e2 : ¬ n = l.2 := fun e => hin3 (by rw [← e]; exact hn')
            rw [if_pos hn', if_neg e2, if_neg e1]
          · rw [if_neg hn']
            by_cases hl : n = l.1
            · rw [if_pos hl.symm, if_neg (by rw [hl]; exact hne'), if_pos hl]
            · have : n = l.2 := by
                have := List.mem_append.1 hn
                simpa [hn', hl] using this
              rw [if_neg (Ne.symm hl), if_pos ⟨h2, this.symm⟩, if_pos this]
        · intro n hn hp
          show upd (upd s.2 l.1 l.2) l.2 [] n ∈ s.1 ++ [l.1] ++ [l.2]
          have hp : ¬ upd (upd s.2 l.1 l.2) l.2 [] n = [] := hp
          unfold upd at hp ⊢
          by_cases e2 : n = l.2
          · rw [if_pos e2] at hp; exact absurd rfl hp
          · rw [if_neg e2] at hp ⊢
            by_cases e : n = l.1
            · rw [if_pos e]; simp
            · rw [if_neg e] at hp ⊢
              have hn' : n ∈ s.1 := by
                have := List.mem_append.1 hn
                simpa [e, e2] using this
              exact List.mem_append_left _ (List.mem_append_left _ (h.parIn n hn' hp))

theorem refFrom_le (pre ls : List Lk) : pre.length ≤ refFrom pre ls ∧ refFrom pre ls ≤ pre.length + ls.length := by
  induction ls generalizing pre with
  | nil => exact ⟨Nat.le_refl _, Nat.le_refl _⟩
  | cons l r ih =>
    unfold refFrom
    by_cases h : bad pre l = true
    · rw [if_pos h]; simp
    · rw [if_neg h]
      have := ih (pre ++ [l])
      simp at this ⊢
      omega

/-- THE LAW: a replay from what pre leaves -/
theorem replay_law (ls : List Lk) : ∀ (pre : List Lk) (s : St), Inv pre s → Inv ((pre ++ ls).take (refFrom pre ls)) (replay s ls).1 ∧ (replay s ls).2 = decide (refFrom pre ls < pre.length + ls.length) := by
  induction ls with
  | nil =>
    intro pre s h
    have e : (pre ++ []).take (refFrom pre []) = pre := by simp [refFrom]
    rw [e]
    exact ⟨h, by simp [replay, refFrom]⟩
  | cons l r ih =>
    intro pre s h
    rw [replay_cons]
    unfold refFrom
    rw [bad_step h l]
    by_cases hb : stepBad s l = true
    · rw [if_pos hb, if_pos hb]
      rw [List.take_left]
      exact ⟨h, by simp⟩
    · rw [if_neg hb, if_neg hb]
      have := ih (pre ++ [l]) (addOp s l) (h.step l (by simpa using hb))
      rw [List.append_assoc] at this
      refine ⟨this.1, ?_⟩
      rw [this.2]
      simp [Nat.add_comm, Nat.add_left_comm]
theorem replay_whole (ls : List Lk) : Inv (ls.take (refAt ls)) (replay s0 ls).1 ∧ (replay s0 ls).2 = decide (refAt ls < ls.length) := by
  have h := replay_law ls [] s0 Inv.start
  rw [List.nil_append, List.length_nil, Nat.zero_add] at h
  exact h

theorem _root_.List.take_append_of_le_length' {α : Type} {a b : List α} {n : Nat} (h : a.length ≤ n) : (a ++ b).take n = a ++ b.take (n - a.length) := by
  rw [List.take_append]
  rw [List.take_of_length_le h]

theorem replay_again (rest : List Lk) : ∀ (pre : List Lk) (s1 : St), Inv ((pre ++ rest).take (refFrom pre rest)) s1 → replay s1 rest = (s1, decide (refFrom pre rest < pre.length + rest.length)) := by
  induction rest with
  | nil => intro pre s1 _; simp [replay, refFrom]
  | cons l r ih =>
    intro pre s1 h
    rw [replay_cons]
    by_cases hb : bad pre l = true
    · have e : refFrom pre (l :: r) = pre.length := by
        show (if bad pre l then pre.length else refFrom (pre ++ [l]) r) = _
        rw [if_pos hb]
      rw [e, List.take_left] at h
      rw [← bad_step h l, if_pos hb, e]
      simp
    · have e : refFrom pre (l :: r) = refFrom (pre ++ [l]) r := by
        show (if bad pre l then pre.length else refFrom (pre ++ [l]) r) = _
        rw [if_neg hb]
      have hle := refFrom_le (pre ++ [l]) r
      rw [e] at h ⊢
      have e2 : pre ++ l :: r = (pre ++ [l]) ++ r := by simp
      rw [e2] at h
      have hfm : fm (((pre ++ [l]) ++ r).take (refFrom (pre ++ [l]) r)) l.1 = (true, l.2) := by
        rw [List.take_append_of_le_length' hle.1, fm_app]
        have h1 : fm (pre ++ [l]) l.1 = (true, l.2) := by
          rw [fm_app]
          unfold bad at hb
          simp only [Bool.or_eq_true, Bool.and_eq_true, not_or, not_and, Bool.not_eq_true', beq_eq_false_iff_ne, ne_eq, Classical.not_not] at hb
          by_cases hs : (fm pre l.1).1 = true
          · rw [if_pos hs]; exact Prod.ext hs (hb.2 hs)
          · rw [if_neg hs, fm_cons, if_pos rfl]
        rw [h1]; rfl
      have hin : l.1 ∈ s1.1 := by
        have := h.seen l.1
        rw [hfm] at this
        simpa using this.symm
      have hpar : s1.2 l.1 = l.2 := by rw [← h.par _ hin, hfm]
      have hsb : stepBad s1 l = false := by
        unfold stepBad
        rw [hpar]
        unfold bad at hb
        simp only [Bool.or_eq_true, not_or, Bool.not_eq_true] at hb
        rw [hb.1]
        simp
      have hadd : addOp s1 l = s1 := by unfold addOp; rw [if_pos hin]
      rw [hsb, hadd]
      have := ih (pre ++ [l]) s1 h
      simp only [Bool.false_eq_true, if_false]
      rw [this]
      simp [Nat.add_comm, Nat.add_left_comm]
theorem replay_twice (ls : List Lk) : replay (replay s0 ls).1 ls = ((replay s0 ls).1, decide (refAt ls < ls.length)) := by
  have h := replay_again ls [] (replay s0 ls).1 (by rw [List.nil_append]; exact (replay_whole ls).1)
  rw [List.length_nil, Nat.zero_add] at h
  exact h
end Go.Proofs.Qxb6616786aFmt
