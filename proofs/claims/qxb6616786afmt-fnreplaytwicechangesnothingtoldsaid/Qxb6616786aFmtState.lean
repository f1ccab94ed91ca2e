import Derived.Test.Qxb6616786aFmtNames
namespace Go.Proofs.Qxb6616786aFmt
open Go.RowKit Go.WideMaps Go.Maps

def cnt (N : List Str) (p : Str → Bool) (k : Nat) : Nat := ((N.take k).filter p).length
theorem cnt_succ {N : List Str} {p : Str → Bool} {k : Nat} (h : k < N.length) : cnt N p (k + 1) = cnt N p k + if p (N.getD k []) then 1 else 0 := by
  unfold cnt
  rw [List.take_add_one, List.getElem?_eq_getElem h, List.filter_append, List.length_append, List.getD_eq_getElem?_getD, List.getElem?_eq_getElem h]
  show _ + (List.filter p [N[k]]).length = _
  by_cases hp : p N[k] = true
  · simp [hp]
  · simp [hp]
theorem cnt_all (N : List Str) (p : Str → Bool) : cnt N p N.length = (N.filter p).length := by unfold cnt; rw [List.take_length]
theorem cnt_le (N : List Str) (p : Str → Bool) (k : Nat) : cnt N p k ≤ k := by
  unfold cnt
  exact Nat.le_trans (List.length_filter_le _ _) (by simp; omega)
theorem getD_mem {N : List Str} {k : Nat} (h : k < N.length) : N.getD k [] ∈ N := by
  rw [List.getD_eq_getElem?_getD, List.getElem?_eq_getElem h]
  exact List.getElem_mem _

/-- the names' slice in a world -/
def Row (w : World) (a : Option Addr) (m : Nat) (g : Nat → Str) : Prop := 0 < m → ∃ b, a = some ⟨b, 0, none⟩ ∧ ∀ i, i < m → w.cell? ⟨b, i, none⟩ = some (.string (bs (g i)))
theorem Row.below {w w' : World} {a : Option Addr} {m : Nat} {g : Nat → Str} (h : Row w a m g) (hb : Below w.heap.size w w') : Row w' a m g := by
  intro hm
  obtain ⟨b, e, hc⟩ := h hm
  exact ⟨b, e, fun i hi => by rw [hb.cell (p := ⟨b, i, none⟩) (cell_lt (hc i hi))]; exact hc i hi⟩

set_option maxRecDepth 100000 in
set_option maxHeartbeats 4000000 in
theorem state11 {B0 : Nat} {w : World} {rb : Nat} {s : St} (a : Option Addr) (m c e : Nat) (L : LkF) (h : Ins w a m L) (he : e ≤ m) (hm : m ≤ 4096) (hsz : ∀ n, n ∈ s.1 → n.length ≤ maxLen) (hi : Inv (lsOf L e) s) (hr : RegA B0 w rb s) :
    Calls Tryf.prog 11 #[.pointer (some ⟨rb, 0, none⟩), .slice a m c, .int .i64 e] w fun r w' => r = .returned (.bool true) ∧ Below w.heap.size w w' := by
  have C15 := hid (names15 a m c e L w h he hm)
  rw [← hi.names] at C15
  have HI := hid h
  have HV := hid hi
  have HR := hid hr
  have HSZ := hid hsz
  have hlen : s.1.length ≤ 2 * e := by
    rw [hi.names]
    clear C15 HI HV HR HSZ hi hr hsz h
    induction e with
    | zero => exact Nat.le_refl _
    | succ e ih => rw [lsOf_succ, namesF_snoc]; have h1 := nameStep_len (namesF (lsOf L e)) (lk L e); have h2 := ih (by omega); omega
  clear h hi hr hsz
  obtain ⟨N, hN⟩ : ∃ N, N = s.1 := ⟨_, rfl⟩
  obtain ⟨par, hpar⟩ : ∃ p, p = s.2 := ⟨_, rfl⟩
  rw [← hN] at C15 HSZ hlen
  have HNN := hid hN
  have HPP := hid hpar
  clear hN hpar
  have hmk := run_make_row' (P := Tryf.prog) 75 9 (.string ⟨#[]⟩) 16 Tryf.underlying75 Tryf.info9' rfl .i64 .i64 N.length (by omega) (by omega)
  go_enter Tryf.func11, Tryf.ntmps11
  go_wp2_with (go_at_call 15; refine C15.out.mono ?_; rintro r w1 ⟨⟨a1, c1, rfl, hn1⟩, hb1⟩; have HN1 := hid hn1; have HB1 := hid hb1; clear hn1 hb1)
  have HRW : Hid (Row w1 a1 N.length (fun i => N.getD i [])) := by
    show Row _ _ _ _
    obtain ⟨a0, c0, e1, e2⟩ := HN1.out.shape
    simp only [Value.slice.injEq] at e1
    obtain ⟨rfl, _, rfl⟩ := e1
    exact e2
  have HI1 := hid (HI.out.below HB1.out)
  have HR1 := hid (HR.out.below HB1.out)
  clear HN1 C15 HI HR hmk
  go_loopw [9, 10] (fun zv i wr => ∃ (k z : Nat), k ≤ N.length ∧ i = .int .i64 k ∧ zv = .int .i64 z ∧ Hid (z = cnt N (fun t => !(par t == [])) k) ∧ wr.rowIs w1.heap.size 9 N.length (fun j => if j < k then .string (bs (par (N.getD j []))) else .string ⟨#[]⟩) ∧ Below w1.heap.size w1 wr) (fun _ i _ => N.length - (intOf i).toNat)
  case atStart => exact ⟨0, 0, Nat.zero_le _, rfl, rfl, rfl, (World.rowIs_made w1 _ N.length 9).congr (fun i _ => by simp), (Below.refl _ _).alloc (Nat.le_refl _) _⟩
  case round =>
    obtain ⟨k, z, hk, rfl, rfl, HZ, hrow, hbel⟩ := hrel
    have HRO := hid hrow
    have HBE := hid hbel
    clear hrow hbel
    by_cases hlt : k < N.length
    · have hcs := cnt_succ (N := N) (p := fun t => !(par t == [])) hlt
      have hcl : z ≤ k := by rw [HZ.out]; exact cnt_le N (fun t => !(par t == [])) k
      obtain ⟨b, rfl, hc⟩ := (HRW.out.below HBE.out) (by omega)
      have d1 : wr.cell? ⟨b, k, none⟩ = some (.string (bs (N.getD k []))) := hc k hlt
      clear hc
      have hnk := getD_mem hlt
      obtain ⟨nk, hnk'⟩ : ∃ x, x = N.getD k [] := ⟨_, rfl⟩
      rw [← hnk'] at d1 hnk
      have HFM : Hid (fm (lsOf L e) nk = (true, par nk)) := by
        show _ = _
        have hin : nk ∈ s.1 := by rw [← HNN.out]; exact hnk
        exact Prod.ext (by rw [HV.out.seen]; simpa using hin) (by rw [HV.out.par _ hin, HPP.out])
      have C14 := hid (fm14 a m c e L (bs nk) wr (HI1.out.below HBE.out) he (by omega))
      rw [bs_key, HFM.out] at C14
      unfold fmV at C14
      obtain ⟨y, hy⟩ : ∃ y, y = bs (par nk) := ⟨_, rfl⟩
      simp only [← hy] at C14
      obtain ⟨x, hx⟩ : ∃ x, x = bs nk := ⟨_, rfl⟩
      rw [← hx] at d1 C14
      have d2 := HRO.out.cell hlt
      have d3 := HRO.out.frozen k
      simp only [Nat.lt_irrefl, if_false] at d2
      rw [← hnk'] at hcs
      have HCS := hid hcs
      have HY := hid hy
      have HNK := hid hnk'
      clear hy hx hnk' hcs hnk
      have HST : Hid (∀ W, (∃ q, W = wr.drewN q) → (W.setCell ⟨w1.heap.size, k, none⟩ (.string y)).rowIs w1.heap.size 9 N.length (fun j => if j < k + 1 then .string (bs (par (N.getD j []))) else .string ⟨#[]⟩) ∧ Below w1.heap.size w1 (W.setCell ⟨w1.heap.size, k, none⟩ (.string y))) := by
        show ∀ _, _
        rintro W ⟨q, rfl⟩
        have hr0 : (wr.drewN q).rowIs w1.heap.size 9 N.length (fun j => if j < k then .string (bs (par (N.getD j []))) else .string ⟨#[]⟩) := HRO.out.of_block rfl
        refine ⟨(hr0.set k _).congr (fun i _ => ?_), (below_drawn HBE.out ⟨q, rfl⟩).setCell (Nat.le_refl _) _⟩
        by_cases h1 : i = k
        · subst h1; simp only [if_true, Nat.lt_succ_self]; rw [HY.out, HNK.out]
        · by_cases h2 : i < k
          · simp [h1, h2, Nat.lt_succ_of_lt h2]
          · have h3 : ¬ i < k + 1 := by omega
            simp [h1, h2, h3]
      cases h2 : y.toList.isEmpty with
      | true =>
        have HC2 : Hid (cnt N (fun t => !(par t == [])) (k + 1) = cnt N (fun t => !(par t == [])) k) := by
          show _ = _
          have hp0 : par nk = [] := by rw [← bs_key (par nk), ← HY.out]; exact emp_key h2
          rw [HCS.out, hp0]; simp
        go_wp2_with (go_at_call 14; refine C14.out.mono ?_; rintro r w3 ⟨rfl, hq3⟩; have HQ3 := hid hq3; obtain ⟨q3, hq3⟩ := hq3; have g2 : w3.cell? ⟨w1.heap.size, k, none⟩ = some (.string ⟨#[]⟩) := (by rw [hq3]; simpa using d2); have g3 : w3.frozen? ⟨w1.heap.size, k, none⟩ = false := (by rw [hq3]; exact d3); clear hq3)
        go_roundw
        case rel => exact ⟨k + 1, z, by omega, by go_num, rfl, HZ.out.trans HC2.out.symm, (HST.out _ HQ3.out).1, (HST.out _ HQ3.out).2⟩
        case measure => simp [intOf]; omega
      | false =>
        have HC2 : Hid (cnt N (fun t => !(par t == [])) (k + 1) = cnt N (fun t => !(par t == [])) k + 1) := by
          show _ = _
          have hp0 : ¬ par nk = [] := by rw [← bs_key (par nk), ← HY.out]; exact nemp_key h2
          rw [HCS.out]
          have : (!(par nk == [])) = true := by simpa using hp0
          simp only [this, if_true]
        go_wp2_with (go_at_call 14; refine C14.out.mono ?_; rintro r w3 ⟨rfl, hq3⟩; have HQ3 := hid hq3; obtain ⟨q3, hq3⟩ := hq3; have g2 : w3.cell? ⟨w1.heap.size, k, none⟩ = some (.string ⟨#[]⟩) := (by rw [hq3]; simpa using d2); have g3 : w3.frozen? ⟨w1.heap.size, k, none⟩ = false := (by rw [hq3]; exact d3); clear hq3)
        go_roundw
        case rel => exact ⟨k + 1, z + 1, by omega, by go_num, by go_num, by show z + 1 = _; rw [HC2.out, ← HZ.out], (HST.out _ HQ3.out).1, (HST.out _ HQ3.out).2⟩
        case measure => simp [intOf]; omega
    · have hkn : k = N.length := by omega
      subst hkn
      have HRA := hid (HR1.out.below HBE.out)
      have HRW2 := hid (HRW.out.below HBE.out)
      have HB2 := hid (HB1.out.trans (HBE.out.mono HB1.out.size))
      have HPR : Hid (Row wr (some ⟨w1.heap.size, 0, none⟩) N.length (fun i => par (N.getD i []))) := by
        show Row _ _ _ _
        intro _
        refine ⟨_, rfl, fun i hi => ?_⟩
        have := HRO.out.cell hi
        rw [if_pos hi] at this
        exact this
      have C16 := hid (act16 HRA.out)
      rw [← HNN.out] at C16
      have C17 := hid (lnk17 HRA.out)
      have HLZ : Hid (lnkN s = z) := by show _ = _; rw [HZ.out, cnt_all]; unfold lnkN; rw [HNN.out, HPP.out]
      rw [HLZ.out] at C17
      clear HRO HBE HZ HRW HI1 HR1 HB1
      obtain ⟨W2, hW2⟩ : ∃ W, W = wr := ⟨_, rfl⟩
      subst hW2
      go_wp2_with (first
        | (go_at_call 16; refine C16.out.mono ?_; rintro r w4 ⟨rfl, rfl⟩)
        | (go_at_call 17; refine C17.out.mono ?_; rintro r w4 ⟨rfl, rfl⟩))
      go_loopw [13] (fun i wr => ∃ k : Nat, k ≤ N.length ∧ i = .int .i64 k ∧ ∃ q, wr = W2.drewN q) (fun i _ => N.length - (intOf i).toNat)
      case atStart => exact ⟨0, Nat.zero_le _, rfl, 0, rfl⟩
      case round =>
      obtain ⟨k, hk, rfl, hq⟩ := hrel
      have HQ := hid hq
      clear hq
      by_cases hlt : k < N.length
      · have HD : Hid (∀ W, (∃ q, W = wr.drewN q) → Below W2.heap.size W2 W) := fun W hW => below_drawn (below_drawn (Below.refl _ _) HQ.out) hW
        obtain ⟨b, rfl, hc⟩ := (HRW2.out.below (HD.out wr ⟨0, rfl⟩)) (by omega)
        have d1 : wr.cell? ⟨b, k, none⟩ = some (.string (bs (N.getD k []))) := hc k hlt
        clear hc
        obtain ⟨b2, e2, hc2⟩ := (HPR.out.below (HD.out wr ⟨0, rfl⟩)) (by omega)
        cases e2
        have HPC : Hid (∀ i, i < N.length → wr.cell? ⟨w1.heap.size, i, none⟩ = some (.string (bs (par (N.getD i []))))) := hc2
        have d2 := HPC.out k hlt
        clear hc2
        have hnk := getD_mem hlt
        obtain ⟨nk, hnk'⟩ : ∃ x, x = N.getD k [] := ⟨_, rfl⟩
        rw [← hnk'] at d1 d2 hnk
        have HIN : Hid (nk ∈ s.1) := by show _ ∈ _; rw [← HNN.out]; exact hnk
        have hsx : (bs nk).size ≤ maxLen := by rw [bs_size]; exact HSZ.out _ hnk
        have C18 := hid (isAct18 (HRA.out.below (HD.out wr ⟨0, rfl⟩)) (bs nk) hsx (by rw [bs_key]; exact HIN.out))
        have C19 := hid (fun W hW => (parOf19 (w := W) (HRA.out.below (HD.out W hW)) (bs nk) hsx (by rw [bs_key]; exact HIN.out)).mono fun e w' hh => (show e = _ ∧ w' = W from ⟨hh.1, hh.2.symm⟩))
        have C20 := hid (fun W hW => kids20 (w := W) (HRA.out.below (HD.out W hW)) (bs nk) hsx (by rw [bs_key]; exact HIN.out))
        rw [bs_key] at C19 C20
        rw [← HPP.out] at C19
        obtain ⟨y, hy⟩ : ∃ y, y = bs (par nk) := ⟨_, rfl⟩
        rw [← hy] at d2 C19
        obtain ⟨x, hx⟩ : ∃ x, x = bs nk := ⟨_, rfl⟩
        rw [← hx] at d1 C18 C19 C20
        have HXK : Hid (x.data.toList = nk) := by show _ = _; rw [hx, bs_key]
        have HKID : Hid (kid s nk = if nk = [] then 0 else cnt N (fun t => par t == nk) N.length) := by show _ = _; rw [cnt_all]; unfold kid; rw [HNN.out, HPP.out]
        clear hy hx hnk' hnk hsx
        have hyy : (y.toList == y.toList) = true := by simp
        cases h0 : x.toList.isEmpty with
        | true =>
          have HK0 : Hid (kid s nk = 0) := by show _ = _; rw [HKID.out, if_pos (by rw [← HXK.out]; exact emp_key h0)]
          rw [HK0.out] at C20
          go_upto_region 21 with (go_at_call 18; refine C18.out.mono ?_; rintro r w5 ⟨rfl, rfl⟩)
          go_quiet (first | (go_at_call 19; refine Calls.quiet_of_same (C19.out _ ?_); exact ⟨_, rfl⟩))
          go_wp2_with (go_at_call 20; refine (C20.out _ ?_).mono ?_; exact ⟨_, rfl⟩; rintro r w6 ⟨rfl, rfl⟩)
          go_roundw
          case rel => exact ⟨k + 1, by omega, by go_num, drew_more HQ.out⟩
          case measure => simp [intOf]; omega
        | false =>
          have HK1 : Hid (kid s nk = cnt N (fun t => par t == nk) N.length) := by show _ = _; rw [HKID.out, if_neg (by rw [← HXK.out]; exact nemp_key h0)]
          go_upto_region 21 with (go_at_call 18; refine C18.out.mono ?_; rintro r w5 ⟨rfl, rfl⟩)
          go_quiet (first | (go_at_call 19; refine Calls.quiet_of_same (C19.out _ ?_); exact ⟨_, rfl⟩))
          go_wp2
          go_loop [15, 16] (fun zv i => ∃ (j z : Nat), j ≤ N.length ∧ i = .int .i64 j ∧ zv = .int .i64 z ∧ Hid (z = cnt N (fun t => par t == nk) j)) (fun _ i => N.length - (intOf i).toNat)
          case atStart => exact ⟨0, 0, Nat.zero_le _, rfl, rfl, rfl⟩
          case round =>
          obtain ⟨j, z2, hj, rfl, rfl, HZ2⟩ := hrel
          by_cases hjl : j < N.length
          · have hcl : z2 ≤ j := by rw [HZ2.out]; exact cnt_le N (fun t => par t == nk) j
            have d5 := HPC.out j hjl
            have HCS := hid (cnt_succ (N := N) (p := fun t => par t == nk) hjl)
            obtain ⟨y2, hy2⟩ : ∃ y, y = bs (par (N.getD j [])) := ⟨_, rfl⟩
            rw [← hy2] at d5
            have HY2 : Hid (y2.data.toList = par (N.getD j [])) := by show _ = _; rw [hy2, bs_key]
            clear hy2
            cases h5 : (y2.toList == x.toList) with
            | true =>
              have HC2 : Hid (cnt N (fun t => par t == nk) (j + 1) = cnt N (fun t => par t == nk) j + 1) := by
                show _ = _
                rw [HCS.out, ← HY2.out, eq_key h5, HXK.out]; simp
              go_wp2
              go_round
              case rel => exact ⟨j + 1, z2 + 1, by omega, by go_num, by go_num, by show z2 + 1 = _; rw [HC2.out, ← HZ2.out]⟩
              case measure => simp [intOf]; omega
            | false =>
              have HC2 : Hid (cnt N (fun t => par t == nk) (j + 1) = cnt N (fun t => par t == nk) j) := by
                show _ = _
                have hne := key_ne h5
                rw [HY2.out, HXK.out] at hne
                rw [HCS.out, if_neg (by rw [beq_iff_eq]; exact hne), Nat.add_zero]
              go_wp2
              go_round
              case rel => exact ⟨j + 1, z2, by omega, by go_num, rfl, HZ2.out.trans HC2.out.symm⟩
              case measure => simp [intOf]; omega
          · have hjn : j = N.length := by omega
            subst hjn
            have HK2 : Hid (kid s nk = z2) := by show _ = _; rw [HK1.out, HZ2.out]
            rw [HK2.out] at C20
            go_wp2_with (go_at_call 20; refine (C20.out _ ?_).mono ?_; exact ⟨_, rfl⟩; rintro r w6 ⟨rfl, rfl⟩)
            go_roundw
            case rel => exact ⟨k + 1, by omega, by go_num, drew_more HQ.out⟩
            case measure => simp [intOf]; omega
      · go_wp2
        go_ret
        exact ⟨rfl, below_drawn HB2.out HQ.out⟩
end Go.Proofs.Qxb6616786aFmt
