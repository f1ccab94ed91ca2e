/-
  The register in memory is what the plain state says.
-/
import Derived.Test.Qxb6616786aFmtOp2
namespace Go.Proofs.Qxb6616786aFmt
open Go.RowKit Go.WideMaps Go.Maps

def kid (s : St) (n : Str) : Nat := if n = [] then 0 else (s.1.filter (fun t => s.2 t == n)).length
def lnkN (s : St) : Nat := (s.1.filter (fun t => !(s.2 t == []))).length

structure Bound (s : St) (f pf : Str → Option Nat) (kc : Str → Nat) (kg : Str → Str → Prop) (lk : Int) : Prop where
  nd : s.1.Nodup
  parIn : ∀ n, n ∈ s.1 → ¬ s.2 n = [] → s.2 n ∈ s.1
  pf : ∀ n, n ∈ s.1 → pf n = if s.2 n = [] then none else f (s.2 n)
  kc : ∀ n, n ∈ s.1 → kc n = kid s n
  kg : ∀ t u, kg t u → u ∈ s.1 ∧ s.2 u = t ∧ ¬ t = []
  lk : lk = lnkN s

theorem kid_le (s : St) (n : Str) : kid s n ≤ s.1.length := by
  unfold kid
  split
  · exact Nat.zero_le _
  · exact List.length_filter_le _ _
theorem lnkN_le (s : St) : lnkN s ≤ s.1.length := List.length_filter_le _ _

theorem filter_congr' {N : List Str} {p q : Str → Bool} (h : ∀ t, t ∈ N → p t = q t) : N.filter p = N.filter q := List.filter_congr h

theorem Bound.congr {s : St} {f f' pf pf' : Str → Option Nat} {kc kc' : Str → Nat} {kg : Str → Str → Prop} {lk : Int} (h : Bound s f pf kc kg lk)
    (e1 : ∀ n, n ∈ s.1 → f' n = f n) (e2 : ∀ n, n ∈ s.1 → pf' n = pf n) (e3 : ∀ n, n ∈ s.1 → kc' n = kc n) : Bound s f' pf' kc' kg lk := by
  refine ⟨h.nd, h.parIn, fun n hn => ?_, fun n hn => by rw [e3 n hn]; exact h.kc n hn, h.kg, h.lk⟩
  rw [e2 n hn, h.pf n hn]
  by_cases h0 : s.2 n = []
  · rw [if_pos h0, if_pos h0]
  · rw [if_neg h0, if_neg h0, e1 _ (h.parIn n hn h0)]

theorem Bound.add {s : St} {f pf : Str → Option Nat} {kc : Str → Nat} {kg : Str → Str → Prop} {lk : Int} (h : Bound s f pf kc kg lk) {n : Str} (hn : ¬ n ∈ s.1) (b : Nat) :
    Bound (s.1 ++ [n], upd s.2 n []) (fset f n (some b)) (fset pf n none) (fun k => if k = n then 0 else kc k) kg lk := by
  have hne : ∀ t, t ∈ s.1 → ¬ t = n := fun t ht e => hn (by rw [← e]; exact ht)
  have hu : ∀ t, t ∈ s.1 → upd s.2 n [] t = s.2 t := fun t ht => by unfold upd; rw [if_neg (hne t ht)]
  have hun : upd s.2 n [] n = [] := by unfold upd; rw [if_pos rfl]
  have hmem : ∀ t, t ∈ s.1 ++ [n] → t = n ∨ (¬ t = n ∧ t ∈ s.1) := by
    intro t ht
    rcases List.mem_append.1 ht with h1 | h1
    · exact .inr ⟨hne t h1, h1⟩
    · exact .inl (by simpa using h1)
  refine ⟨nodup_snoc h.nd hn, ?_, ?_, ?_, ?_, ?_⟩
  · intro t ht hp
    show upd s.2 n [] t ∈ s.1 ++ [n]
    have hp : ¬ upd s.2 n [] t = [] := hp
    rcases hmem t ht with rfl | ⟨_, h1⟩
    · exact absurd hun hp
    · rw [hu t h1] at hp ⊢; exact List.mem_append_left _ (h.parIn t h1 hp)
  · intro t ht
    show fset pf n none t = if upd s.2 n [] t = [] then none else fset f n (some b) (upd s.2 n [] t)
    rcases hmem t ht with rfl | ⟨e, h1⟩
    · rw [fset_same, hun, if_pos rfl]
    · rw [fset_other e, hu t h1, h.pf t h1]
      by_cases h0 : s.2 t = []
      · rw [if_pos h0, if_pos h0]
      · rw [if_neg h0, if_neg h0, fset_other (hne _ (h.parIn t h1 h0))]
  · intro t ht
    show (if t = n then 0 else kc t) = kid (s.1 ++ [n], upd s.2 n []) t
    have hk : kid (s.1 ++ [n], upd s.2 n []) t = kid s t := by
      unfold kid
      by_cases h0 : t = []
      · rw [if_pos h0, if_pos h0]
      · rw [if_neg h0, if_neg h0]
        show ((s.1 ++ [n]).filter (fun u => upd s.2 n [] u == t)).length = _
        rw [List.filter_append, filter_congr' (q := fun u => s.2 u == t) (fun u hu' => by rw [hu u hu'])]
        have : ([n].filter (fun u => upd s.2 n [] u == t)) = [] := by
          simp [hun, Ne.symm h0]
        rw [this, List.append_nil]
    rw [hk]
    rcases hmem t ht with rfl | ⟨e, h1⟩
    · rw [if_pos rfl]
      unfold kid
      by_cases h0 : t = []
      · rw [if_pos h0]
      · rw [if_neg h0]
        symm
        rw [List.length_eq_zero_iff, List.filter_eq_nil_iff]
        intro u hu' he
        rw [beq_iff_eq] at he
        exact hn (by rw [← he]; exact h.parIn u hu' (by rw [he]; exact h0))
    · rw [if_neg e, h.kc t h1]
  · intro t u hg
    obtain ⟨h1, h2, h3⟩ := h.kg t u hg
    exact ⟨List.mem_append_left _ h1, by show upd s.2 n [] u = t; rw [hu u h1]; exact h2, h3⟩
  · rw [h.lk]
    unfold lnkN
    show _ = (((s.1 ++ [n]).filter (fun t => !(upd s.2 n [] t == []))).length : Int)
    rw [List.filter_append, (filter_congr' (fun u hu' => by rw [hu u hu']) : s.1.filter (fun t => !(upd s.2 n [] t == [])) = s.1.filter (fun t => !(s.2 t == [])))]
    have : ([n].filter (fun t => !(upd s.2 n [] t == []))) = [] := by simp [hun]
    rw [this, List.append_nil]

theorem count_set {N : List Str} (hnd : N.Nodup) {n : Str} (hn : n ∈ N) {p q : Str → Bool} (hp : p n = false) (hq : q n = true) (h : ∀ t, t ∈ N → ¬ t = n → p t = q t) : (N.filter q).length = (N.filter p).length + 1 := by
  induction N with
  | nil => cases hn
  | cons a t ih =>
    obtain ⟨ha, hnd'⟩ := List.nodup_cons.1 hnd
    by_cases e : a = n
    · subst e
      have : t.filter q = t.filter p := filter_congr' (fun u hu => (h u (List.mem_cons_of_mem _ hu) (fun e => ha (by rw [← e]; exact hu))).symm)
      simp [hp, hq, this]
    · have hn' : n ∈ t := by
        rcases List.mem_cons.1 hn with h1 | h1
        · exact absurd h1.symm e
        · exact h1
      have := ih hnd' hn' (fun u hu => h u (List.mem_cons_of_mem _ hu))
      have ha' := h a List.mem_cons_self e
      simp only [List.filter_cons, ← ha']
      split <;> simp [this]

theorem Bound.link {s : St} {f pf : Str → Option Nat} {kc : Str → Nat} {kg : Str → Str → Prop} {lk : Int} (h : Bound s f pf kc kg lk) {n q : Str} (hn : n ∈ s.1) (hq : q ∈ s.1) (hq0 : ¬ q = []) (hpar : s.2 n = []) {bq : Nat} (hb : f q = some bq) :
    Bound (s.1, upd s.2 n q) f (fset pf n (some bq)) (fun k => if k = q then kc q + 1 else kc k) (fun k u => kg k u ∨ (k = q ∧ u = n)) (lk + 1) := by
  have hu : ∀ t, ¬ t = n → upd s.2 n q t = s.2 t := fun t ht => by unfold upd; rw [if_neg ht]
  have hun : upd s.2 n q n = q := by unfold upd; rw [if_pos rfl]
  refine ⟨h.nd, ?_, ?_, ?_, ?_, ?_⟩
  · intro t ht hp
    show upd s.2 n q t ∈ s.1
    have hp : ¬ upd s.2 n q t = [] := hp
    by_cases e : t = n
    · subst e; rw [hun]; exact hq
    · rw [hu t e] at hp ⊢; exact h.parIn t ht hp
  · intro t ht
    show fset pf n (some bq) t = if upd s.2 n q t = [] then none else f (upd s.2 n q t)
    by_cases e : t = n
    · subst e; rw [fset_same, hun, if_neg hq0, hb]
    · rw [fset_other e, hu t e]; exact h.pf t ht
  · intro t ht
    show (if t = q then kc q + 1 else kc t) = kid (s.1, upd s.2 n q) t
    by_cases e : t = q
    · subst e
      rw [if_pos rfl, h.kc t hq]
      unfold kid
      rw [if_neg hq0, if_neg hq0]
      symm
      refine count_set h.nd hn ?_ ?_ (fun u _ hne => ?_)
      · rw [hpar, beq_eq_false_iff_ne]; exact Ne.symm hq0
      · show (upd s.2 n t n == t) = true
        rw [hun]; simp
      · show (s.2 u == t) = (upd s.2 n t u == t)
        rw [hu u hne]
    · rw [if_neg e, h.kc t ht]
      unfold kid
      by_cases h0 : t = []
      · rw [if_pos h0, if_pos h0]
      · rw [if_neg h0, if_neg h0]
        show _ = (s.1.filter (fun u => upd s.2 n q u == t)).length
        rw [filter_congr' (fun u _ => ?_)]
        by_cases hun' : u = n
        · subst hun'
          rw [hun, hpar, beq_eq_false_iff_ne.2 (Ne.symm h0), beq_eq_false_iff_ne.2 (Ne.symm e)]
        · rw [hu u hun']
  · intro t u hg
    rcases hg with hg | ⟨rfl, rfl⟩
    · obtain ⟨h1, h2, h3⟩ := h.kg t u hg
      refine ⟨h1, ?_, h3⟩
      show upd s.2 n q u = t
      by_cases e : u = n
      · subst e
        exact absurd (by rw [← h2]; exact hpar) h3
      · rw [hu u e]; exact h2
    · exact ⟨hn, hun, hq0⟩
  · rw [h.lk]
    unfold lnkN
    have := count_set h.nd hn (p := fun t => !(s.2 t == [])) (q := fun t => !(upd s.2 n q t == [])) (by simp [hpar]) (by show (!(upd s.2 n q n == [])) = true; rw [hun]; simp [hq0]) (fun u _ hne => by show _ = (!(upd s.2 n q u == [])); rw [hu u hne])
    show _ = ((s.1.filter (fun t => !(upd s.2 n q t == []))).length : Int)
    rw [this]
    simp

/-- the register at block rb holds the state s -/
structure RegA (B0 : Nat) (w : World) (rb : Nat) (s : St) : Prop where
  ex : ∃ M f pf ch kc kg lk, RegG B0 w rb s.1 M f pf ch kc kg lk ∧ Bound s f pf kc kg lk
theorem RegA.below {B0 : Nat} {w w' : World} {rb : Nat} {s : St} (h : RegA B0 w rb s) (hb : Below w.heap.size w w') : RegA B0 w' rb s := by
  obtain ⟨M, f, pf, ch, kc, kg, lk, h1, h2⟩ := h
  exact ⟨M, f, pf, ch, kc, kg, lk, h1.below hb, h2⟩

theorem key_ne {a b : ByteArray} (h : (a.toList == b.toList) = false) : ¬ a.data.toList = b.data.toList := by
  rw [ByteArray.toList_eq, ByteArray.toList_eq, beq_eq_false_iff_ne] at h
  exact h

/-- operation, whatever fits -/
theorem op22 {B0 : Nat} {w : World} {rb : Nat} {s : St} (n q : ByteArray) (hn : n.size ≤ maxLen) (hq : q.size ≤ maxLen) (hB : B0 ≤ w.heap.size) (hN : s.1.length ≤ 1099511627776) (hbad : stepBad s (n.data.toList, q.data.toList) = false) (h : RegA B0 w rb s) :
    Calls Tryf.prog 22 #[.pointer (some ⟨rb, 0, none⟩), .string n, .string q] w fun e w' => (∃ b, e = .returned (.pointer (some ⟨b, 0, none⟩))) ∧ RegA B0 w' rb (addOp s (n.data.toList, q.data.toList)) ∧ Below B0 w w' ∧ Fr rb w w' := by
  obtain ⟨M, f, pf, ch, kc, kg, lk, hr, ht⟩ := h
  by_cases hin : n.data.toList ∈ s.1
  · obtain ⟨b, hb⟩ := Option.isSome_iff_exists.1 ((hr.dom _).2 hin)
    refine (op22_old n q hn b hb hr).mono ?_
    rintro e w' ⟨rfl, rfl⟩
    have ha : addOp s (n.data.toList, q.data.toList) = s := by unfold addOp; rw [if_pos hin]
    rw [ha]
    exact ⟨⟨b, rfl⟩, ⟨M, f, pf, ch, kc, kg, lk, hr, ht⟩, Below.refl _ _, Fr.refl _ _⟩
  · by_cases hq0 : q.data.toList = []
    · refine (op22_new0 n q hn (by rw [ByteArray.toList_eq, hq0]; rfl) hin (by unfold maxLen; omega) hB hr).mono ?_
      rintro e w' ⟨b, rfl, h1, h2, hfr⟩
      have ha : addOp s (n.data.toList, q.data.toList) = (s.1 ++ [n.data.toList], upd s.2 n.data.toList []) := by
        unfold addOp; rw [if_neg hin, if_pos hq0]
        show (_, upd s.2 n.data.toList q.data.toList) = _
        rw [hq0]
      rw [ha]
      exact ⟨⟨b, rfl⟩, ⟨M, _, _, _, _, kg, lk, h1, ht.add hin b⟩, h2, hfr⟩
    · have hne : ¬ q.data.toList = n.data.toList := by
        intro e
        unfold stepBad at hbad
        simp only [Bool.or_eq_false_iff, Bool.and_eq_false_iff] at hbad
        rcases hbad.1 with h1 | h1
        · have : (q.data.toList == []) = true := by simpa using h1
          exact hq0 (beq_iff_eq.1 this)
        · simp [e] at h1
      refine (op22_new n q hn hq (by rw [ByteArray.toList_eq]; simpa using hq0) hne hin hN hB (by rw [ht.lk]; have := lnkN_le s; omega) (fun t h' => by rw [ht.kc t h']; exact kid_le s t) (fun t u h' => (ht.kg t u h').1) hr).mono ?_
      rintro e w' ⟨b0, rfl, ⟨b, bq, N3, f3, pf3, ch3, kc3, h1, rfl, h3, h4, h5⟩, h6, hfr⟩
      refine ⟨⟨b0, rfl⟩, ?_, h6, hfr⟩
      have t1 := ht.add hin b
      by_cases hq1 : q.data.toList ∈ s.1 ++ [n.data.toList]
      · have ea : addName (s.1 ++ [n.data.toList]) q.data.toList = s.1 ++ [n.data.toList] := by unfold addName; rw [if_pos hq1]
        rw [ea] at h1
        have t2 := t1.congr (f' := f3) (pf' := pf3) (kc' := kc3) (fun t h' => (h4 t h').1) (fun t h' => (h4 t h').2.1) (fun t h' => (h4 t h').2.2)
        have t3 := t2.link (n := n.data.toList) (q := q.data.toList) (by simp) hq1 hq0 (by show upd s.2 n.data.toList [] n.data.toList = []; unfold upd; rw [if_pos rfl]) h3
        have ha : addOp s (n.data.toList, q.data.toList) = (s.1 ++ [n.data.toList], upd (upd s.2 n.data.toList []) n.data.toList q.data.toList) := by
          unfold addOp; rw [if_neg hin, if_neg hq0, if_pos hq1]
          refine Prod.ext rfl ?_
          funext k
          show upd s.2 n.data.toList q.data.toList k = upd (upd s.2 n.data.toList []) n.data.toList q.data.toList k
          unfold upd
          by_cases e : k = n.data.toList
          · rw [if_pos e, if_pos e]
          · rw [if_neg e, if_neg e, if_neg e]
        rw [ha]
        exact ⟨M, _, _, _, _, _, _, h1, t3⟩
      · have ea : addName (s.1 ++ [n.data.toList]) q.data.toList = s.1 ++ [n.data.toList] ++ [q.data.toList] := by unfold addName; rw [if_neg hq1]
        rw [ea] at h1
        have hneq : ∀ t, t ∈ s.1 ++ [n.data.toList] → ¬ t = q.data.toList := fun t h' e => hq1 (by rw [← e]; exact h')
        have hmem : ∀ t, t ∈ s.1 ++ [n.data.toList] ++ [q.data.toList] → t = q.data.toList ∨ t ∈ s.1 ++ [n.data.toList] := by
          intro t h'
          rcases List.mem_append.1 h' with hh | hh
          · exact .inr hh
          · exact .inl (by simpa using hh)
        have t2 := (t1.add hq1 bq).congr (f' := f3) (pf' := pf3) (kc' := kc3)
          (fun t h' => by rcases hmem t h' with rfl | hh
                          · rw [h3, fset_same]
                          · rw [fset_other (hneq t hh)]; exact (h4 t hh).1)
          (fun t h' => by rcases hmem t h' with rfl | hh
                          · rw [(h5 hq1).1, fset_same]
                          · rw [fset_other (hneq t hh)]; exact (h4 t hh).2.1)
          (fun t h' => by rcases hmem t h' with rfl | hh
                          · rw [(h5 hq1).2, if_pos rfl]
                          · show kc3 t = if t = q.data.toList then 0 else _
                            rw [if_neg (hneq t hh)]; exact (h4 t hh).2.2)
        have t3 := t2.link (n := n.data.toList) (q := q.data.toList) (by simp) (by simp) hq0 (by show upd (upd s.2 n.data.toList []) q.data.toList [] n.data.toList = []; unfold upd; rw [if_neg (fun e => hne e.symm), if_pos rfl]) h3
        have ha : addOp s (n.data.toList, q.data.toList) = (s.1 ++ [n.data.toList] ++ [q.data.toList], upd (upd (upd s.2 n.data.toList []) q.data.toList []) n.data.toList q.data.toList) := by
          unfold addOp; rw [if_neg hin, if_neg hq0, if_neg hq1]
          refine Prod.ext rfl ?_
          funext k
          show upd (upd s.2 n.data.toList q.data.toList) q.data.toList [] k = upd (upd (upd s.2 n.data.toList []) q.data.toList []) n.data.toList q.data.toList k
          unfold upd
          by_cases e : k = n.data.toList
          · rw [if_neg (by rw [e]; exact fun e' => hne e'.symm), if_pos e, if_pos e]
          · by_cases e2 : k = q.data.toList
            · rw [if_pos e2, if_neg e, if_pos e2]
            · rw [if_neg e2, if_neg e, if_neg e, if_neg e2, if_neg e]
        rw [ha]
        exact ⟨M, _, _, _, _, _, _, h1, t3⟩
end Go.Proofs.Qxb6616786aFmt
