import Derived.Test.Qxb6616786aFmtZz
import Derived.OwnWalk
import Derived.Deep.OwnRows
namespace Go.Proofs.Qxb6616786aFmt
open Go.RowKit Go.WideMaps Go.Maps

theorem Tryf.info9' : (Tryf.prog.info? 9).map (fun i => (i.zero, i.size, i.bytes)) = some (some (.string ⟨#[]⟩), 1, 16) := by kernel_rfl

theorem ownsRow_below {w w' : World} {base B : Nat} {e : TypeId} {s : Nat} {v : Value} {n : Nat} {xs : List Value} (h : w.ownsRow base e s v n xs) (hb : Below B w w') (hB : w.heap.size ≤ B) : w'.ownsRow base e s v n xs := by
  obtain ⟨h1, h2⟩ := h
  refine ⟨h1, ?_⟩
  rcases h2 with h | ⟨g, cap, cur, e1, e2, e3, e4⟩
  · exact .inl h
  · refine .inr ⟨g, cap, cur, e1, e2, ?_, e4⟩
    rw [hb.block g, e3]
    rcases Nat.lt_or_ge g w.heap.size with hg | hg
    · omega
    · rw [Array.getElem?_eq_none hg] at e3
      cases e3

/-- the strings N in a slice of the call's own -/
structure Nm (B : Nat) (w : World) (v : Value) (N : List Str) : Prop where
  own : w.ownsRow B 9 1 v N.length (N.map fun s => .string (bs s))
theorem Nm.shape {B : Nat} {w : World} {v : Value} {N : List Str} (h : Nm B w v N) :
    ∃ a c, v = .slice a N.length c ∧ (0 < N.length → ∃ b, a = some ⟨b, 0, none⟩ ∧ ∀ i, i < N.length → w.cell? ⟨b, i, none⟩ = some (.string (bs (N.getD i [])))) := by
  rcases h.own.2 with ⟨h1, h2⟩ | ⟨g, cap, cur, h1, _⟩
  · exact ⟨none, 0, by rw [h1, h2], fun h => by omega⟩
  · subst h1
    refine ⟨_, cap, rfl, fun _ => ⟨g, rfl, fun i hi => ?_⟩⟩
    have := h.own.cellAt i (by simpa using hi)
    rw [this]
    simp [List.getD_eq_getElem?_getD, hi]

set_option maxRecDepth 100000 in
set_option maxHeartbeats 2000000 in
theorem add23 (B : Nat) (w : World) (a : Option Addr) (c : Nat) (N : List Str) (n : ByteArray) (hB : B ≤ w.heap.size) (hN : N.length ≤ 1048576) (h : Nm B w (.slice a N.length c) N) :
    Calls Tryf.prog 23 #[.slice a N.length c, .string n] w fun e w' => (∃ a' c', e = .returned (.slice a' (addName N n.data.toList).length c') ∧ Nm B w' (.slice a' (addName N n.data.toList).length c') (addName N n.data.toList)) ∧ Below B w w' := by
  have HO := hid h
  obtain ⟨a0, c0, h1, h2⟩ := h.shape
  simp only [Value.slice.injEq] at h1
  obtain ⟨rfl, _, rfl⟩ := h1
  have HS := hid h2
  clear h h2
  obtain ⟨m, hm⟩ : ∃ m, m = N.length := ⟨_, rfl⟩
  rw [← hm] at HS hN ⊢
  have HM := hid hm
  clear hm
  go_enter Tryf.func23, Tryf.ntmps23
  go_wp2
  go_loop [5] (fun i => ∃ k : Nat, k ≤ m ∧ i = .int .i64 k ∧ ∀ j, j < k → ¬ N.getD j [] = n.data.toList) (fun i => m - (intOf i).toNat)
  case atStart => exact ⟨0, Nat.zero_le _, rfl, fun j h => absurd h (Nat.not_lt_zero _)⟩
  case round =>
    obtain ⟨k, hk, rfl, hno⟩ := hrel
    have HNO := hid hno
    clear hno
    by_cases hlt : k < m
    · obtain ⟨b, rfl, hc⟩ := HS.out (by omega)
      have d1 := hc k hlt
      clear hc
      obtain ⟨x, hx⟩ : ∃ x, x = bs (N.getD k []) := ⟨_, rfl⟩
      rw [← hx] at d1
      have HX : Hid (x.data.toList = N.getD k []) := by show _ = _; rw [hx, bs_key]
      clear hx
      cases h1 : (x.toList == n.toList) with
      | true =>
        have HE : Hid (addName N n.data.toList = N) := by
          show _ = _
          unfold addName
          rw [if_pos]
          rw [← eq_key h1, HX.out, List.getD_eq_getElem?_getD, List.getElem?_eq_getElem (by rw [← HM.out]; exact hlt)]
          exact List.getElem_mem _
        go_wp2
        go_ret
        exact ⟨⟨_, _, by rw [HE.out, HM.out]; rfl, by rw [HE.out]; exact HO.out⟩, Below.refl _ _⟩
      | false =>
        have hne := key_ne h1
        go_wp2
        go_round
        case rel => exact ⟨k + 1, by omega, by go_num, fun j hj => by rcases Nat.lt_succ_iff_lt_or_eq.1 hj with hh | rfl; exact HNO.out j hh; rw [← HX.out]; exact hne⟩
        case measure => simp [intOf]; omega
    · have hkm : k = m := by omega
      subst hkm
      have HE : Hid (addName N n.data.toList = N ++ [n.data.toList]) := by
        show _ = _
        unfold addName
        rw [if_neg]
        intro hin
        obtain ⟨j, hj, e⟩ := List.mem_iff_getElem.1 hin
        refine HNO.out j (by rw [HM.out]; exact hj) ?_
        rw [List.getD_eq_getElem?_getD, List.getElem?_eq_getElem hj]
        exact e
      obtain ⟨i0, hi, hz0, hz1, hz2⟩ := info_parts Tryf.info9'
      have HOW : Hid (w.ownsRow B 9 1 (.slice a k c) k (N.map fun s => .string (bs s))) := by have := HO.out.own; rw [← HM.out] at this; exact this
      go_wp2_with (at_builtin; refine wpList_append_own _ rfl _ _ 75 rfl B 9 i0 (.string ⟨#[]⟩) 1 16 Tryf.underlying75 hi hz0 hz1 hz2 rfl (by decide) _ _ _ rfl (HOW.out.alloc _) ⟨w.heap.size, 0, none⟩ 1 1 [.string n] rfl rfl (cell_one_new _ _ _) (by intro u hu; simp at hu; subst hu; rfl) (by simp only [maxLen]; omega) (by omega) (by simp; omega) ?_; intro v' w' hown' hgrow hnil; have HO' := hid hown'; have HG' := hid hgrow; clear hown' hgrow hnil)
      go_ret
      obtain ⟨a', c', hv', _⟩ : ∃ a' c', v' = .slice a' (k + 1) c' ∧ True := by
        rcases HO'.out.2 with ⟨_, h2⟩ | ⟨g, cap, cur, h1, _⟩
        · omega
        · exact ⟨_, _, h1, trivial⟩
      subst hv'
      refine ⟨⟨a', c', ?_, ?_⟩, ?_⟩
      · rw [HE.out, List.length_append, ← HM.out]; rfl
      · rw [HE.out]
        refine ⟨?_⟩
        rw [List.length_append, ← HM.out, List.map_append]
        have e1 : ([n.data.toList].map fun s => Value.string (bs s)) = [.string n] := by rw [List.map_singleton, ← bs_of]
        rw [e1]
        exact HO'.out
      · exact ((Below.refl B w).alloc hB _).grown HG'.out (by simp; omega) (fun j hj => (HOW.out.lt j hj).1)

theorem addName_len (N : List Str) (n : Str) : (addName N n).length ≤ N.length + 1 := by
  unfold addName
  split
  · omega
  · simp
theorem nameStep_len (N : List Str) (l : Lk) : (nameStep N l).length ≤ N.length + 2 := by
  unfold nameStep
  split
  · have := addName_len N l.1; omega
  · have h1 := addName_len N l.1
    have h2 := addName_len (addName N l.1) l.2
    omega

set_option maxRecDepth 100000 in
set_option maxHeartbeats 2000000 in
theorem names15 (a : Option Addr) (m c e : Nat) (L : LkF) (w : World) (h : Ins w a m L) (he : e ≤ m) (hm : m ≤ 4096) :
    Calls Tryf.prog 15 #[.slice a m c, .int .i64 e] w fun r w' => (∃ a' c', r = .returned (.slice a' (namesF (lsOf L e)).length c') ∧ Nm w.heap.size w' (.slice a' (namesF (lsOf L e)).length c') (namesF (lsOf L e))) ∧ Below w.heap.size w w' := by
  have HI := hid h
  clear h
  go_enter Tryf.func15, Tryf.ntmps15
  go_wp2
  go_loopw [5, 6] (fun v i wr => ∃ (k : Nat) (a' : Option Addr) (c' : Nat) (N : List Str), k ≤ e ∧ N = namesF (lsOf L k) ∧ N.length ≤ 2 * k ∧ v = .slice a' N.length c' ∧ i = .int .i64 k ∧ Nm w.heap.size wr (.slice a' N.length c') N ∧ Below w.heap.size w wr) (fun _ i _ => e - (intOf i).toNat)
  case atStart => exact ⟨0, none, 0, [], Nat.zero_le _, rfl, Nat.le_refl _, rfl, rfl, ⟨World.ownsRow_nil _ _ _ _⟩, Below.refl _ _⟩
  case round =>
    obtain ⟨k, a', c', N, hk, hN, hlen, rfl, rfl, hnm, hbel⟩ := hrel
    have HNN := hid hN
    have HNM := hid hnm
    have HBEL := hid hbel
    clear hN hnm hbel
    by_cases hlt : k < e
    · obtain ⟨b, o, rfl, hc⟩ := (HI.out.below HBEL.out) (by omega)
      obtain ⟨d1, d2⟩ := hc k (by omega)
      clear hc
      obtain ⟨x, hx⟩ : ∃ x, x = (L k).1 := ⟨_, rfl⟩
      obtain ⟨y, hy⟩ : ∃ x, x = (L k).2 := ⟨_, rfl⟩
      rw [← hx] at d1
      rw [← hy] at d2
      have HLK : Hid (lk L k = (x.data.toList, y.data.toList)) := by show _ = _; unfold lk; rw [hx, hy]
      clear hx hy
      have hkm : (k : Int) < (m : Int) := by omega
      have C1 := hid (add23 w.heap.size wr a' c' N x HBEL.out.size (by omega) HNM.out)
      have HST : Hid (namesF (lsOf L (k + 1)) = nameStep N (x.data.toList, y.data.toList)) := by show _ = _; rw [lsOf_succ, namesF_snoc, ← HNN.out, HLK.out]
      have hb' : b < w.heap.size := by
        obtain ⟨b2, o2, e2, hc2⟩ := HI.out (by omega)
        cases e2
        exact cell_lt (hc2 k (by omega)).1
      have D : Hid (∀ W, Below w.heap.size wr W → W.cell? ⟨b, o + k * 2, none⟩ = some (.string x) ∧ W.cell? ⟨b, o + k * 2 + 1, none⟩ = some (.string y)) := fun W hW => ⟨(hW.cell (p := ⟨b, o + k * 2, none⟩) hb').trans d1, (hW.cell (p := ⟨b, o + k * 2 + 1, none⟩) hb').trans d2⟩
      have hl1 := addName_len N x.data.toList
      cases h2 : y.toList.isEmpty with
      | true =>
        have HE : Hid (nameStep N (x.data.toList, y.data.toList) = addName N x.data.toList) := by show _ = _; unfold nameStep; rw [if_pos (emp_key h2)]
        go_wp2_with (go_at_call 23; refine C1.out.mono ?_; rintro r w3 ⟨⟨a3, c3, rfl, hn3⟩, hb3⟩; have HN3 := hid hn3; have HB3 := hid hb3; clear hn3 hb3; have g2 := (D.out w3 HB3.out).2)
        go_roundw
        case rel => exact ⟨k + 1, a3, c3, addName N x.data.toList, by omega, by rw [HST.out, HE.out], by omega, rfl, by go_num, HN3.out, HBEL.out.trans HB3.out⟩
        case measure => simp [intOf]; omega
      | false =>
        have HE : Hid (nameStep N (x.data.toList, y.data.toList) = addName (addName N x.data.toList) y.data.toList) := by show _ = _; unfold nameStep; rw [if_neg (nemp_key h2)]
        have hl2 := addName_len (addName N x.data.toList) y.data.toList
        go_wp2_with (first
          | (go_at_call 23; refine (add23 w.heap.size w3 a3 c3 (addName N x.data.toList) y (HBEL.out.trans HB3.out).size (by omega) HN3.out).mono ?_; rintro r w4 ⟨⟨a4, c4, rfl, hn4⟩, hb4⟩; have HN4 := hid hn4; have HB4 := hid hb4; clear hn4 hb4)
          | (go_at_call 23; refine C1.out.mono ?_; rintro r w3 ⟨⟨a3, c3, rfl, hn3⟩, hb3⟩; have HN3 := hid hn3; have HB3 := hid hb3; clear hn3 hb3; have g2 := (D.out w3 HB3.out).2))
        go_roundw
        case rel => exact ⟨k + 1, a4, c4, addName (addName N x.data.toList) y.data.toList, by omega, by rw [HST.out, HE.out], by omega, rfl, by go_num, HN4.out, (HBEL.out.trans HB3.out).trans HB4.out⟩
        case measure => simp [intOf]; omega
    · have hke : k = e := by omega
      subst hke
      go_wp2
      go_ret
      exact ⟨⟨a', c', by rw [HNN.out]; rfl, by rw [← HNN.out]; exact HNM.out⟩, HBEL.out⟩
end Go.Proofs.Qxb6616786aFmt
