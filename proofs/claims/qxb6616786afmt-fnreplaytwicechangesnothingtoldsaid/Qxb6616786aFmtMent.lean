import Derived.Test.Qxb6616786aFmtReplay
import Derived.Deep.QuietTactic
import Derived.BigQuiet
namespace Go.Proofs.Qxb6616786aFmt
open Go.RowKit Go.WideMaps Go.Maps

/-- the links that came in -/
def Ins (w : World) (a : Option Addr) (n : Nat) (L : LkF) : Prop :=
  0 < n → ∃ b o, a = some ⟨b, o, none⟩ ∧ ∀ i, i < n → w.cell? ⟨b, o + i * 2, none⟩ = some (.string (L i).1) ∧ w.cell? ⟨b, o + i * 2 + 1, none⟩ = some (.string (L i).2)
theorem Ins.below {w w' : World} {a : Option Addr} {n : Nat} {L : LkF} (h : Ins w a n L) (hb : Below w.heap.size w w') : Ins w' a n L := by
  intro hn
  obtain ⟨b, o, e, hc⟩ := h hn
  refine ⟨b, o, e, fun i hi => ⟨?_, ?_⟩⟩
  · rw [hb.cell (p := ⟨b, o + i * 2, none⟩) (cell_lt (hc i hi).1)]; exact (hc i hi).1
  · rw [hb.cell (p := ⟨b, o + i * 2 + 1, none⟩) (cell_lt (hc i hi).2)]; exact (hc i hi).2
theorem Ins.drawn {w wr : World} {a : Option Addr} {n : Nat} {L : LkF} (h : Ins w a n L) (hq : ∃ q, wr = w.drewN q) : Ins wr a n L := by
  obtain ⟨q, rfl⟩ := hq
  intro hn
  obtain ⟨b, o, e, hc⟩ := h hn
  exact ⟨b, o, e, fun i hi => ⟨by simpa using (hc i hi).1, by simpa using (hc i hi).2⟩⟩
theorem drew_more {w wr : World} {n : Nat} (h : ∃ q, wr = w.drewN q) : ∃ k, wr.drewN n = w.drewN k := by
  obtain ⟨q, rfl⟩ := h
  exact ⟨_, World.drewN_drewN w q n⟩
theorem drawn_trans {a b c : World} (h : ∃ q, b = a.drewN q) (g : ∃ q, c = b.drewN q) : ∃ q, c = a.drewN q := by
  obtain ⟨q, rfl⟩ := h
  obtain ⟨r, rfl⟩ := g
  exact ⟨_, World.drewN_drewN a q r⟩
theorem below_drawn {B : Nat} {w0 w wr : World} (h : Below B w0 w) (hq : ∃ q, wr = w.drewN q) : Below B w0 wr := by
  obtain ⟨q, rfl⟩ := hq
  exact h.trans ⟨rfl, rfl, rfl, Nat.le_refl _, fun _ _ => rfl⟩

theorem lsOf_at (L : LkF) {k n : Nat} (h : k < n) : ∃ r, lsOf L n = lsOf L k ++ lk L k :: r := by
  obtain ⟨r, hr⟩ := lsOf_split L (show k + 1 ≤ n from h)
  exact ⟨r, by rw [hr, lsOf_succ, List.append_assoc]; rfl⟩
theorem fm_hit {L : LkF} {k e : Nat} {n : Str} {p : Str} (h : (fm (lsOf L k) n).1 = false) (hk : k < e) (h1 : fm [lk L k] n = (true, p)) : fm (lsOf L e) n = (true, p) := by
  obtain ⟨r, hr⟩ := lsOf_at L hk
  have e1 : lsOf L e = lsOf L k ++ ([lk L k] ++ r) := by rw [hr]; rfl
  rw [e1, fm_app, h, fm_app, h1]
  rfl
theorem fm_miss {L : LkF} {k : Nat} {n : Str} (h : (fm (lsOf L k) n).1 = false) (h1 : (fm [lk L k] n).1 = false) : (fm (lsOf L (k + 1)) n).1 = false := by
  rw [lsOf_succ, fm_app, h]
  exact h1
theorem fm_no {a : List Lk} {n : Str} (h : (fm a n).1 = false) : fm a n = (false, []) := by
  induction a with
  | nil => rfl
  | cons l r ih =>
    rw [fm_cons] at h ⊢
    by_cases h1 : l.1 = n
    · rw [if_pos h1] at h; cases h
    · rw [if_neg h1] at h ⊢
      by_cases h2 : ¬ l.2 = [] ∧ l.2 = n
      · rw [if_pos h2] at h; cases h
      · rw [if_neg h2] at h ⊢
        exact ih h
theorem fm_one (l : Lk) (n : Str) : fm [l] n = if l.1 = n then (true, l.2) else if ¬ l.2 = [] ∧ l.2 = n then (true, []) else (false, []) := rfl
theorem eq_key {a b : ByteArray} (h : (a.toList == b.toList) = true) : a.data.toList = b.data.toList := by
  rw [ByteArray.toList_eq, ByteArray.toList_eq, beq_iff_eq] at h
  exact h
theorem emp_key {a : ByteArray} (h : a.toList.isEmpty = true) : a.data.toList = [] := by
  rw [ByteArray.toList_eq] at h
  exact List.isEmpty_iff.1 h
theorem nemp_key {a : ByteArray} (h : a.toList.isEmpty = false) : ¬ a.data.toList = [] := by
  rw [ByteArray.toList_eq] at h
  intro e
  rw [e] at h
  cases h

/-- what zzFirstMention hands back -/
def fmV (r : Bool × Str) : Value := .tuple #[.bool r.1, .string (bs r.2)]

set_option maxRecDepth 100000 in
set_option maxHeartbeats 2000000 in
theorem fm14 (a : Option Addr) (m c e : Nat) (L : LkF) (n : ByteArray) (w : World) (h : Ins w a m L) (he : e ≤ m) (hm : m ≤ 1099511627776) :
    Calls Tryf.prog 14 #[.slice a m c, .int .i64 e, .string n] w fun r w' => r = .returned (fmV (fm (lsOf L e) n.data.toList)) ∧ ∃ q, w' = w.drewN q := by
  have HI := hid h
  clear h
  go_enter Tryf.func14, Tryf.ntmps14
  go_wp2
  go_loop [8] (fun i => ∃ k : Nat, k ≤ e ∧ i = .int .i64 k ∧ (fm (lsOf L k) n.data.toList).1 = false) (fun i => e - (intOf i).toNat)
  case atStart => exact ⟨0, Nat.zero_le _, rfl, rfl⟩
  case round =>
    obtain ⟨k, hk, rfl, hno⟩ := hrel
    have HNO := hid hno
    clear hno
    by_cases hlt : k < e
    · obtain ⟨b, o, rfl, hc⟩ := HI.out (by omega)
      obtain ⟨d1, d2⟩ := hc k (by omega)
      clear hc
      obtain ⟨x, hx⟩ : ∃ x, x = (L k).1 := ⟨_, rfl⟩
      obtain ⟨y, hy⟩ : ∃ x, x = (L k).2 := ⟨_, rfl⟩
      rw [← hx] at d1
      rw [← hy] at d2
      have HLK : Hid (lk L k = (x.data.toList, y.data.toList)) := by show _ = _; unfold lk; rw [hx, hy]
      clear hx hy
      have hkm : (k : Int) < (m : Int) := by omega
      cases h1 : (x.toList == n.toList) with
      | true =>
        have HE : Hid (fm (lsOf L e) n.data.toList = (true, y.data.toList)) := fm_hit HNO.out hlt (by rw [fm_one, HLK.out, if_pos (eq_key h1)])
        go_wp2
        go_quiet (fail)
        go_wp2
        refine bodyPost_ret (v := .tuple #[.bool true, .string y]) (by simp [results, Tryf.results14, go_sem]) rfl ⟨?_, _, rfl⟩
        rw [HE.out]
        unfold fmV
        rw [← bs_of]
      | false =>
        have hne := key_ne h1
        cases h2 : y.toList.isEmpty with
        | true =>
          have HE : Hid ((fm (lsOf L (k + 1)) n.data.toList).1 = false) := fm_miss HNO.out (by rw [fm_one, HLK.out, if_neg hne, if_neg (fun e => e.1 (emp_key h2))])
          go_wp2
          go_round
          case rel => exact ⟨k + 1, by omega, by go_num, HE.out⟩
          case measure => simp [intOf]; omega
        | false =>
          cases h3 : (y.toList == n.toList) with
          | true =>
            have HE : Hid (fm (lsOf L e) n.data.toList = (true, [])) := fm_hit HNO.out hlt (by rw [fm_one, HLK.out, if_neg hne, if_pos ⟨nemp_key h2, eq_key h3⟩])
            go_wp2
            refine bodyPost_ret (v := .tuple #[.bool true, .string ⟨#[]⟩]) (by simp [results, Tryf.results14, go_sem]) rfl ⟨?_, 0, rfl⟩
            rw [HE.out]
            rfl
          | false =>
            have HE : Hid ((fm (lsOf L (k + 1)) n.data.toList).1 = false) := fm_miss HNO.out (by rw [fm_one, HLK.out, if_neg hne, if_neg (fun e => key_ne h3 e.2)])
            go_wp2
            go_round
            case rel => exact ⟨k + 1, by omega, by go_num, HE.out⟩
            case measure => simp [intOf]; omega
    · have hke : k = e := by omega
      subst hke
      have HE := hid (fm_no HNO.out)
      go_wp2
      refine bodyPost_ret (v := .tuple #[.bool false, .string ⟨#[]⟩]) (by simp [results, Tryf.results14, go_sem]) rfl ⟨?_, 0, rfl⟩
      rw [HE.out]
      rfl

theorem ref_pre (L : LkF) {n : Nat} : ∀ k, (∀ i, i < k → bad (lsOf L i) (lk L i) = false) → k ≤ n → ∀ r, lsOf L n = lsOf L k ++ r → refAt (lsOf L n) = refFrom (lsOf L k) r := by
  intro k
  induction k with
  | zero => intro _ _ r hr; rw [hr]; rfl
  | succ k ih =>
    intro hb hk r hr
    have e : lsOf L n = lsOf L k ++ (lk L k :: r) := by rw [hr, lsOf_succ, List.append_assoc]; rfl
    rw [ih (fun i hi => hb i (by omega)) (by omega) _ e]
    show (if bad (lsOf L k) (lk L k) then (lsOf L k).length else refFrom (lsOf L k ++ [lk L k]) r) = _
    rw [hb k (by omega), lsOf_succ]
    rfl
theorem ref_hit {L : LkF} {k n : Nat} (h : ∀ i, i < k → bad (lsOf L i) (lk L i) = false) (hb : bad (lsOf L k) (lk L k) = true) (hk : k < n) : refAt (lsOf L n) = k := by
  obtain ⟨r, hr⟩ := lsOf_at L hk
  rw [ref_pre L k h (by omega) _ hr]
  show (if bad (lsOf L k) (lk L k) then (lsOf L k).length else _) = _
  rw [if_pos hb, lsOf_len]
theorem ref_all {L : LkF} {n : Nat} (h : ∀ i, i < n → bad (lsOf L i) (lk L i) = false) : refAt (lsOf L n) = n := by
  rw [ref_pre L n h (Nat.le_refl _) [] (by simp)]
  show (lsOf L n).length = n
  exact lsOf_len L n

set_option maxRecDepth 100000 in
set_option maxHeartbeats 2000000 in
theorem ref10 (a : Option Addr) (n c : Nat) (L : LkF) (w : World) (h : Ins w a n L) (hn : n ≤ 1099511627776) :
    Calls Tryf.prog 10 #[.slice a n c] w fun r w' => r = .returned (.int .i64 (refAt (lsOf L n))) ∧ ∃ q, w' = w.drewN q := by
  have HI := hid h
  clear h
  go_enter Tryf.func10, Tryf.ntmps10
  go_wp2
  go_loopw [3] (fun i wr => ∃ k : Nat, k ≤ n ∧ i = .int .i64 k ∧ (∀ i, i < k → bad (lsOf L i) (lk L i) = false) ∧ ∃ q, wr = w.drewN q) (fun i _ => n - (intOf i).toNat)
  case atStart => exact ⟨0, Nat.zero_le _, rfl, fun i h => absurd h (Nat.not_lt_zero _), 0, rfl⟩
  case round =>
    obtain ⟨k, hk, rfl, hno, hq⟩ := hrel
    have HNO := hid hno
    have HQ := hid hq
    clear hno hq
    by_cases hlt : k < n
    · have C14 := hid (fm14 a n c k L (L k).1 wr (HI.out.drawn HQ.out) (by omega) hn)
      obtain ⟨b, o, rfl, hc⟩ := (HI.out.drawn HQ.out) (by omega)
      obtain ⟨d1, d2⟩ := hc k hlt
      clear hc
      obtain ⟨x, hx⟩ : ∃ x, x = (L k).1 := ⟨_, rfl⟩
      obtain ⟨y, hy⟩ : ∃ x, x = (L k).2 := ⟨_, rfl⟩
      rw [← hx] at d1 C14
      rw [← hy] at d2
      have HLK : Hid (lk L k = (x.data.toList, y.data.toList)) := by show _ = _; unfold lk; rw [hx, hy]
      clear hx hy
      have hkm : (k : Int) < (n : Int) := by omega
      obtain ⟨sn, hsn⟩ : ∃ v, v = (fm (lsOf L k) x.data.toList).1 := ⟨_, rfl⟩
      obtain ⟨pp, hpp⟩ : ∃ v, v = bs (fm (lsOf L k) x.data.toList).2 := ⟨_, rfl⟩
      unfold fmV at C14
      rw [← hsn, ← hpp] at C14
      have HSN := hid hsn
      have HPP : Hid (pp.data.toList = (fm (lsOf L k) x.data.toList).2) := by show _ = _; rw [hpp, bs_key]
      clear hsn hpp
      have HBAD : Hid (bad (lsOf L k) (lk L k) = ((!(y.data.toList == []) && x.data.toList == y.data.toList) || (sn && !(pp.data.toList == y.data.toList)))) := by
        show _ = _
        unfold bad
        rw [HLK.out, HSN.out, HPP.out]
      have hown : ∀ t : Bool, ((!(y.data.toList == []) && x.data.toList == y.data.toList) = t) → (t = true → y.toList.isEmpty = false ∧ (x.toList == y.toList) = true) ∧ (t = false → NotOwn x y) := by
        intro t ht
        constructor
        · rintro rfl
          simp only [Bool.and_eq_true, Bool.not_eq_true', beq_eq_false_iff_ne, ne_eq, beq_iff_eq] at ht
          refine ⟨?_, by rw [ByteArray.toList_eq, ByteArray.toList_eq, ht.2]; simp⟩
          rw [ByteArray.toList_eq]
          cases hh : y.data.toList with
          | nil => exact absurd hh ht.1
          | cons _ _ => rfl
        · rintro rfl
          refine notOwn_of (fun ⟨a1, a2⟩ => ?_)
          rw [a2, beq_eq_false_iff_ne.2 a1] at ht
          simp at ht
      cases ht : (!(y.data.toList == []) && x.data.toList == y.data.toList) with
      | true =>
        obtain ⟨h1, h2⟩ := (hown true ht).1 rfl
        have HE := hid (ref_hit HNO.out (by rw [HBAD.out, ht]; rfl) hlt)
        clear hown ht
        go_wp2
        go_ret
        exact ⟨by rw [HE.out]; rfl, HQ.out⟩
      | false =>
        have h1 := (hown false ht).2 rfl
        rw [ht] at HBAD
        clear hown ht
        rcases h1 with h1 | ⟨h1, h2⟩
        all_goals
          cases sn with
          | false =>
            have HE : Hid (bad (lsOf L k) (lk L k) = false) := HBAD.out
            go_wp2_with (go_at_call 14; refine C14.out.mono ?_; rintro e w3 ⟨rfl, hq3⟩; have HQ3 := hid hq3; clear hq3)
            go_roundw
            case rel => exact ⟨k + 1, by omega, by go_num, fun i hi => by rcases Nat.lt_succ_iff_lt_or_eq.1 hi with hh | rfl; exact HNO.out i hh; exact HE.out, drawn_trans HQ.out HQ3.out⟩
            case measure => simp [intOf]; omega
          | true =>
            cases h4 : (pp.toList == y.toList) with
            | true =>
              have HE : Hid (bad (lsOf L k) (lk L k) = false) := by
                show _ = _
                rw [HBAD.out, eq_key h4]; simp
              go_wp2_with (go_at_call 14; refine C14.out.mono ?_; rintro e w3 ⟨rfl, hq3⟩; have HQ3 := hid hq3; clear hq3)
              go_roundw
              case rel => exact ⟨k + 1, by omega, by go_num, fun i hi => by rcases Nat.lt_succ_iff_lt_or_eq.1 hi with hh | rfl; exact HNO.out i hh; exact HE.out, drawn_trans HQ.out HQ3.out⟩
              case measure => simp [intOf]; omega
            | false =>
              have HE := hid (ref_hit HNO.out (by rw [HBAD.out]; simpa using key_ne h4) hlt)
              go_wp2_with (go_at_call 14; refine C14.out.mono ?_; rintro e w3 ⟨rfl, hq3⟩; have HQ3 := hid hq3; clear hq3)
              go_ret
              exact ⟨by rw [HE.out]; rfl, drawn_trans HQ.out HQ3.out⟩
    · have hkn : k = n := by omega
      subst hkn
      have HE := hid (ref_all HNO.out)
      go_wp2
      go_ret
      exact ⟨by rw [HE.out]; rfl, HQ.out⟩
end Go.Proofs.Qxb6616786aFmt
