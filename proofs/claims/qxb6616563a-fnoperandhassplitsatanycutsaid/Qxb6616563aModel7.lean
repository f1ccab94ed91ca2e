import Derived.Test.Qxb6616563aEq43
import Derived.BigRegion
import Derived.Deep.RegionHeld3
import Derived.Deep.CutRange
namespace Go.Proofs.Qxb6616563a
open Go.RowKit

/-- the model's member j, told by its parts -/
def mm (K : Nat → Int) (M : Nat → List UInt8) (N : Nat → Bool) (j : Nat) : MD := ⟨K j, M j, decide (K j = 0) && N j && decB (M j)⟩

set_option maxRecDepth 100000 in
set_option maxHeartbeats 8000000 in
theorem model34 (ak ta an va : Option Addr) (nk ck ct cn vn vc : Nat) (K : Nat → Int) (T : Nat → Option Addr) (S R : Nat → Nat) (M : Nat → List UInt8) (N : Nat → Bool) (xk : Int) (X : List UInt8) (xi : Bool) (w : World)
    (hk : Sl w ak nk (fun i => .int .u8 (K i))) (ht : Sl w ta nk (fun i => .slice (T i) (S i) (R i))) (hn : Sl w an nk (fun i => .bool (N i)))
    (hM : ∀ i, i < nk → Txt w (T i) (S i) (R i) (M i)) (hX : Txt w va vn vc X) (hnk : nk ≤ 1048576) :
    Calls Try.prog 34 #[.slice ak nk ck, .slice ta nk ct, .slice an nk cn, .agg #[.int .u8 xk, .slice va vn vc, .bool xi]] w fun e w' => e = .returned (.bool ((List.range nk).any fun i => mEq (mm K M N i) ⟨xk, X, xi⟩)) ∧ Below w.heap.size w w' := by
  have HK := hide_of' hk
  have HT := hide_of' ht
  have HN := hide_of' hn
  have HM := hide_of' hM
  have HX := hide_of' hX
  clear hk ht hn hM hX
  go_enter Try.func34, Try.ntmps34
  go_wp2
  go_loopw [9] (fun i wr => ∃ k : Nat, k ≤ nk ∧ i = .int .i64 k ∧ (∀ j, j < k → mEq (mm K M N j) ⟨xk, X, xi⟩ = false) ∧ Below w.heap.size w wr ∧ (∀ j, j < 3 → wr.cell? ⟨w.heap.size, 0 + j, none⟩ = (#[.int .u8 xk, .slice va vn vc, .bool xi] : Array Value)[j]?)) (fun i _ => nk - (intOf i).toNat)
  case atStart => exact ⟨0, Nat.zero_le _, rfl, fun j h => absurd h (Nat.not_lt_zero _), below_alloc' (Below.refl _ _) _, fun j hj => by rw [Nat.zero_add, World.cell?_alloc_new]⟩
  case round =>
    obtain ⟨k, hk, rfl, hj, hbel, hxc⟩ := hrel
    have HJ := hide_of' hj
    have HB := hide_of' hbel
    have HXC := hide_of' hxc
    clear hj hbel hxc
    by_cases hlt : k < nk
    · obtain ⟨kb, ko, rfl, hkc⟩ := (HK.out.below HB.out) (by omega)
      obtain ⟨tb, tof, rfl, htc⟩ := (HT.out.below HB.out) (by omega)
      obtain ⟨nb, no, rfl, hnc⟩ := (HN.out.below HB.out) (by omega)
      have d1 : wr.cell? ⟨kb, ko + k, none⟩ = some (.int .u8 (K k)) := hkc k hlt
      have d2 : wr.cell? ⟨tb, tof + k, none⟩ = some (.slice (T k) (S k) (R k)) := htc k hlt
      have d3 : wr.cell? ⟨nb, no + k, none⟩ = some (.bool (N k)) := hnc k hlt
      clear hkc htc hnc
      obtain ⟨kk, hkk⟩ : ∃ y, y = K k := ⟨_, rfl⟩
      have HKK := hide_of' hkk
      rw [← hkk] at d1
      obtain ⟨nn, hnn⟩ : ∃ y, y = N k := ⟨_, rfl⟩
      have HNN := hide_of' hnn
      rw [← hnn] at d3
      clear hkk hnn
      obtain ⟨x0, x1, x2⟩ : wr.cell? ⟨w.heap.size, 0, none⟩ = some (.int .u8 xk) ∧ wr.cell? ⟨w.heap.size, 1, none⟩ = some (.slice va vn vc) ∧ wr.cell? ⟨w.heap.size, 2, none⟩ = some (.bool xi) := ⟨HXC.out 0 (by decide), HXC.out 1 (by decide), HXC.out 2 (by decide)⟩
      have hlt' : decide ((k : Int) < (nk : Int)) = true := by simpa using hlt
      go_upto_region 4 with fail
      have f1 : (wr.alloc (.cells #[.int .u8 0, .slice none 0 0, .bool false] 53)).cell? ⟨kb, ko + k, none⟩ = some (.int .u8 kk) := by rw [Below.cell (p := ⟨kb, ko + k, none⟩) ((Below.refl _ _).alloc (Nat.le_refl _) _) (cell_lt d1)]; exact d1
      have f2 : (wr.alloc (.cells #[.int .u8 0, .slice none 0 0, .bool false] 53)).cell? ⟨tb, tof + k, none⟩ = some (.slice (T k) (S k) (R k)) := by rw [Below.cell (p := ⟨tb, tof + k, none⟩) ((Below.refl _ _).alloc (Nat.le_refl _) _) (cell_lt d2)]; exact d2
      have f3 : (wr.alloc (.cells #[.int .u8 0, .slice none 0 0, .bool false] 53)).cell? ⟨nb, no + k, none⟩ = some (.bool nn) := by rw [Below.cell (p := ⟨nb, no + k, none⟩) ((Below.refl _ _).alloc (Nat.le_refl _) _) (cell_lt d3)]; exact d3
      have HTM : Hid (Txt w (T k) (S k) (R k) (M k)) := HM.out k hlt
      go_cut [10] from 17 to 43 (fun v W => ∃ (pb : Nat) (b : Bool), v = .pointer (some ⟨pb, 0, none⟩) ∧ W.cell? ⟨pb, 0, none⟩ = some (.int .u8 kk) ∧ W.cell? ⟨pb, 1, none⟩ = some (.slice (T k) (S k) (R k)) ∧ W.cell? ⟨pb, 2, none⟩ = some (.bool b) ∧ Hid (b = (decide (kk = 0) && nn && decB (M k))) ∧ Hid (Below wr.heap.size wr W))
      case first =>
        cases g1 : (kk == 0) with
        | false =>
          have HBV : Hid (false = (decide (kk = 0) && nn && decB (M k))) := by
            have h0 : ¬ kk = 0 := by simpa using g1
            show _ = _
            simp [h0]
          go_region
          go_wp2
          go_meet
          case rel => exact ⟨_, _, rfl, by go_simp, by go_simp, by go_simp, HBV.out, by repeat (first | exact Below.refl _ _ | refine Below.drew ?_ | refine below_alloc' ?_ _ | refine Below.setCell ?_ (by simp) _)⟩
        | true =>
        cases nn with
        | false =>
          have HBV : Hid (false = (decide (kk = 0) && false && decB (M k))) := by show _ = _; simp
          go_region
          go_wp2
          go_meet
          case rel => exact ⟨_, _, rfl, by go_simp, by go_simp, by go_simp, HBV.out, by repeat (first | exact Below.refl _ _ | refine Below.drew ?_ | refine below_alloc' ?_ _ | refine Below.setCell ?_ (by simp) _)⟩
        | true =>
          have C28 : Hid (∀ W, Below wr.heap.size wr W → Calls Try.prog 28 #[.slice (T k) (S k) (R k)] W fun e w' => e = .returned (.bool (decB (M k))) ∧ W = w') := fun W hb => (dec28 _ _ _ _ W (HTM.out.b.below (HB.out.trans (hb.mono HB.out.size))) (by have := HTM.out.hn; omega)).mono fun e w' h => ⟨h.1, h.2.symm⟩
          obtain ⟨dd, hdd⟩ : ∃ d, d = decB (M k) := ⟨_, rfl⟩
          rw [← hdd] at C28
          have HBV : Hid (dd = (decide (kk = 0) && true && decB (M k))) := by
            have h0 : kk = 0 := by simpa using g1
            show _ = _
            rw [← hdd]
            simp [h0]
          clear hdd
          have KP : Hid (∀ W, Below wr.heap.size wr W → W.cell? ⟨kb, ko + k, none⟩ = some (.int .u8 kk) ∧ W.cell? ⟨tb, tof + k, none⟩ = some (.slice (T k) (S k) (R k)) ∧ W.cell? ⟨nb, no + k, none⟩ = some (.bool true)) := fun W hb => ⟨(hb.cell (p := ⟨kb, ko + k, none⟩) (cell_lt d1)).trans d1, (hb.cell (p := ⟨tb, tof + k, none⟩) (cell_lt d2)).trans d2, (hb.cell (p := ⟨nb, no + k, none⟩) (cell_lt d3)).trans d3⟩
          go_region_held3 (fun W => W.cell? ⟨kb, ko + k, none⟩ = some (.int .u8 kk) ∧ W.cell? ⟨tb, tof + k, none⟩ = some (.slice (T k) (S k) (R k)) ∧ W.cell? ⟨nb, no + k, none⟩ = some (.bool true)) ((refine KP.out _ ?_; (repeat (first | exact Below.refl _ _ | refine Below.drew ?_ | refine below_alloc' ?_ _ | refine Below.setCell ?_ (by simp) _))))
            (first
              | (go_at_call 28; refine (C28.out _ ?_).mono ?_; (repeat (first | exact Below.refl _ _ | refine Below.drew ?_ | refine below_alloc' ?_ _)); rintro e W28 ⟨rfl, rfl⟩))
          all_goals
            (try go_wp2)
            go_meet
            case rel => exact ⟨_, _, rfl, by go_simp, by go_simp, by go_simp, HBV.out, by repeat (first | exact Below.refl _ _ | refine Below.drew ?_ | refine below_alloc' ?_ _ | refine Below.setCell ?_ (by simp) _)⟩
      case rest =>
      obtain ⟨pb, b, rfl, y0, y1, y2, HBV, HBW⟩ := hcut
      have HB2 : Hid (Below w.heap.size w wc) := HB.out.trans (HBW.out.mono HB.out.size)
      have g0 : wc.cell? ⟨w.heap.size, 0, none⟩ = some (.int .u8 xk) := (HBW.out.cell (p := ⟨w.heap.size, 0, none⟩) (cell_lt x0)).trans x0
      have g1 : wc.cell? ⟨w.heap.size, 1, none⟩ = some (.slice va vn vc) := (HBW.out.cell (p := ⟨w.heap.size, 1, none⟩) (cell_lt x1)).trans x1
      have g2 : wc.cell? ⟨w.heap.size, 2, none⟩ = some (.bool xi) := (HBW.out.cell (p := ⟨w.heap.size, 2, none⟩) (cell_lt x2)).trans x2
      have C43 := hide_of' (eq43 kk xk (M k) X b xi (T k) va (S k) (R k) vn vc wc (HTM.out.below HB2.out) (HX.out.below HB2.out))
      have HMM : Hid ((⟨kk, M k, b⟩ : MD) = mm K M N k) := by show _ = _; rw [HBV.out, HKK.out, HNN.out]; rfl
      rw [HMM.out] at C43
      have HXC2 : Hid (∀ W, Below wc.heap.size wc W → ∀ j, j < 3 → W.cell? ⟨w.heap.size, 0 + j, none⟩ = (#[.int .u8 xk, .slice va vn vc, .bool xi] : Array Value)[j]?) := by
        show ∀ _, _
        intro W hW j hj
        match j, hj with
        | 0, _ => exact (hW.cell (p := ⟨w.heap.size, 0, none⟩) (cell_lt g0)).trans g0
        | 1, _ => exact (hW.cell (p := ⟨w.heap.size, 1, none⟩) (cell_lt g1)).trans g1
        | 2, _ => exact (hW.cell (p := ⟨w.heap.size, 2, none⟩) (cell_lt g2)).trans g2
      obtain ⟨q, hq⟩ : ∃ q, q = mEq (mm K M N k) ⟨xk, X, xi⟩ := ⟨_, rfl⟩
      rw [← hq] at C43
      have HQ := hide_of' hq
      clear hq HBV HBW HMM f1 f2 f3 d1 d2 d3 x0 x1 x2 hlt'
      go_wp2_with fail
      refine C43.out.mono ?_
      rintro e w2 ⟨rfl, hb2⟩
      have HB3 := hide_of' hb2
      clear hb2
      cases q with
      | true =>
        have HE : Hid (((List.range nk).any fun i => mEq (mm K M N i) ⟨xk, X, xi⟩) = true) := by
          show _ = _
          rw [List.any_eq_true]
          exact ⟨k, List.mem_range.2 hlt, HQ.out.symm⟩
        go_wp2
        go_ret
        exact ⟨by rw [HE.out]; rfl, below_step HB2.out HB3.out⟩
      | false =>
        go_wp2
        go_roundw
        case rel => exact ⟨k + 1, by omega, by go_num, fun j h => by rcases Nat.lt_succ_iff_lt_or_eq.1 h with h | rfl; exact HJ.out j h; exact HQ.out.symm, below_step HB2.out HB3.out, HXC2.out _ HB3.out⟩
        case measure => simp [intOf]; omega
    · have HE : Hid (((List.range nk).any fun i => mEq (mm K M N i) ⟨xk, X, xi⟩) = false) := by
        show _ = _
        rw [List.any_eq_false]
        intro j hj
        rw [HJ.out j (by have := List.mem_range.1 hj; omega)]
        simp
      go_wp2
      go_ret
      exact ⟨by rw [HE.out]; rfl, HB.out⟩
end Go.Proofs.Qxb6616563a
