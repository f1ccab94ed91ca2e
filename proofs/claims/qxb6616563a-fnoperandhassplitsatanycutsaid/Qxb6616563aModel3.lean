import Derived.Test.Qxb6616563aModel2
namespace Go.Proofs.Qxb6616563a
open Go.RowKit

def sameR (x y : List UInt8) : Bool := (List.range (max x.length y.length)).all fun p => fromRight x p == fromRight y p
def sameL (x y : List UInt8) : Bool := (List.range (max x.length y.length)).all fun p => fromLeft x p == fromLeft y p
/-- b1SameValue -/
def sameV (a c : List UInt8) : Bool :=
  if allZ a || allZ c then allZ a && allZ c else if sgn a = sgn c then sameR (sW a) (sW c) && sameL (sF a) (sF c) else false

theorem range_all_no {f : Nat → Bool} {n k : Nat} (hk : k < n) (h : f k = false) : (List.range n).all f = false := by
  rw [List.all_eq_false]
  exact ⟨k, List.mem_range.2 hk, by simp [h]⟩
theorem range_all_yes {f : Nat → Bool} {n : Nat} (h : ∀ k, k < n → f k = true) : (List.range n).all f = true := by
  rw [List.all_eq_true]
  exact fun k hk => h k (List.mem_range.1 hk)

set_option maxRecDepth 100000 in
set_option maxHeartbeats 2000000 in
theorem same49 (a b : Option Addr) (n c m d : Nat) (l r : List UInt8) (w : World) (ha : Bytes w a n l) (hb : Bytes w b m r) (hnc : n ≤ c) (hn : n ≤ 1099511627776) (hc : c ≤ 9223372036854775807) (hmd : m ≤ d) (hm : m ≤ 1099511627776) (hd : d ≤ 9223372036854775807) :
    Calls Try.prog 49 #[.slice a n c, .slice b m d] w fun e w' => e = .returned (.bool (sameV l r)) ∧ w = w' := by
  have HLl : Hid (l.length = n) := ha.1
  have HLr : Hid (r.length = m) := hb.1
  have C30a := hide_of' (allZ30 a n c l w ha hn)
  have C30b := hide_of' (allZ30 b m d r w hb hm)
  have C61a := hide_of' (split61 a n c l w ha hnc hn hc)
  have C61b := hide_of' (split61 b m d r w hb hmd hm hd)
  clear ha hb hnc hmd hc hd
  obtain ⟨za, hza⟩ : ∃ x, x = allZ l := ⟨_, rfl⟩
  obtain ⟨zb, hzb⟩ : ∃ x, x = allZ r := ⟨_, rfl⟩
  obtain ⟨sa, hsa⟩ : ∃ x, x = sgn l := ⟨_, rfl⟩
  obtain ⟨sb, hsb⟩ : ∃ x, x = sgn r := ⟨_, rfl⟩
  have HV : Hid (sameV l r = if za || zb then za && zb else if sa = sb then sameR (sW l) (sW r) && sameL (sF l) (sF r) else false) := by
    show _ = _
    rw [hza, hzb, hsa, hsb]; rfl
  rw [← hza] at C30a
  rw [← hzb] at C30b
  have HSA := hide_of' hsa
  have HSB := hide_of' hsb
  clear hza hzb hsa hsb
  go_enter Try.func49, Try.ntmps49
  go_wp2_with fail
  refine C30a.out.mono ?_
  rintro e w1 ⟨rfl, hw⟩
  replace hw := hw.symm
  subst hw
  go_wp2_with fail
  refine C30b.out.mono ?_
  rintro e w1 ⟨rfl, hw⟩
  replace hw := hw.symm
  subst hw
  cases za with
  | true =>
    go_wp2
    go_ret
    exact ⟨by rw [HV.out]; cases zb <;> rfl, rfl⟩
  | false =>
  cases zb with
  | true =>
    go_wp2
    go_ret
    exact ⟨by rw [HV.out]; rfl, rfl⟩
  | false =>
  go_wp2_with fail
  refine C61a.out.mono ?_
  rintro e w1 ⟨⟨wa, fa, wn, wc, fn, fc, rfl, hB1, hB2, hl1, hl2⟩, hw⟩
  subst hw
  rw [← HSA.out]
  have HB1 := hide_of' hB1
  have HB2 := hide_of' hB2
  rw [HLl.out] at hl1 hl2
  clear hB1 hB2
  go_wp2_with fail
  refine C61b.out.mono ?_
  rintro e w1 ⟨⟨va, ga, vn, vc, gn, gc, rfl, hB1, hB2, hr1, hr2⟩, hw⟩
  subst hw
  rw [← HSB.out]
  have HB3 := hide_of' hB1
  have HB4 := hide_of' hB2
  rw [HLr.out] at hr1 hr2
  clear hB1 hB2
  by_cases hs : sa = sb
  rotate_left
  · have HV2 : Hid (sameV l r = false) := by show _ = _; rw [HV.out]; simp [hs]
    cases sa <;> cases sb <;> first | exact absurd rfl hs | skip
    all_goals
      go_wp2
      go_ret
      exact ⟨by rw [HV2.out]; rfl, rfl⟩
  have HV2 : Hid (sameV l r = (sameR (sW l) (sW r) && sameL (sF l) (sF r))) := by show _ = _; rw [HV.out]; simp [hs]
  subst hs
  have hsx : (sa != sa) = false := by simp
  have R62 : Hid (∀ (p : Nat), p ≤ 1099511627776 → Calls Try.prog 62 #[.slice wa wn wc, .int .i64 p] w fun e w' => e = .returned (.int .u8 (fromRight (sW l) p)) ∧ w = w') := fun p hp => right62 wa wn wc p (sW l) w HB1.out (by omega) hp
  have R62' : Hid (∀ (p : Nat), p ≤ 1099511627776 → Calls Try.prog 62 #[.slice va vn vc, .int .i64 p] w fun e w' => e = .returned (.int .u8 (fromRight (sW r) p)) ∧ w = w') := fun p hp => right62 va vn vc p (sW r) w HB3.out (by omega) hp
  have R63 : Hid (∀ (p : Nat), p ≤ 1099511627776 → Calls Try.prog 63 #[.slice fa fn fc, .int .i64 p] w fun e w' => e = .returned (.int .u8 (fromLeft (sF l) p)) ∧ w = w') := fun p hp => left63 fa fn fc p (sF l) w HB2.out (by omega) hp
  have R63' : Hid (∀ (p : Nat), p ≤ 1099511627776 → Calls Try.prog 63 #[.slice ga gn gc, .int .i64 p] w fun e w' => e = .returned (.int .u8 (fromLeft (sF r) p)) ∧ w = w') := fun p hp => left63 ga gn gc p (sF r) w HB4.out (by omega) hp
  go_upto_if 49 with fail
  go_cut [13] (fun v wc => ∃ M : Nat, v = .int .i64 M ∧ M ≤ 1099511627776 ∧ Hid (M = max (sW l).length (sW r).length) ∧ w = wc)
  case first =>
    by_cases g : wn < vn
    · go_wp2
      all_goals
        go_meet
        case rel => exact ⟨vn, rfl, by omega, by show _ = _; rw [HB1.out.1, HB3.out.1]; omega, rfl⟩
    · go_wp2
      all_goals
        go_meet
        case rel => exact ⟨wn, rfl, by omega, by show _ = _; rw [HB1.out.1, HB3.out.1]; omega, rfl⟩
  case rest =>
  obtain ⟨M, rfl, hM, HMX, rfl⟩ := hcut
  go_wp2
  go_loop [14] (fun i => ∃ k : Nat, k ≤ M ∧ i = .int .i64 k ∧ ∀ j, j < k → (fromRight (sW l) j == fromRight (sW r) j) = true) (fun i => M - (intOf i).toNat)
  case atStart => exact ⟨0, Nat.zero_le _, rfl, fun j h => absurd h (Nat.not_lt_zero _)⟩
  case round =>
  obtain ⟨k, hk, rfl, hj⟩ := hrel
  have HJ := hide_of' hj
  clear hj
  by_cases hlt : k < M
  · obtain ⟨x, hx⟩ : ∃ x, x = fromRight (sW l) k := ⟨_, rfl⟩
    obtain ⟨y, hy⟩ : ∃ y, y = fromRight (sW r) k := ⟨_, rfl⟩
    have Cx := R62.out k (by omega)
    have Cy := R62'.out k (by omega)
    rw [← hx] at Cx
    rw [← hy] at Cy
    have CX := hide_of' Cx
    have CY := hide_of' Cy
    have HXY : Hid ((fromRight (sW l) k == fromRight (sW r) k) = (x == y)) := by show _ = _; rw [hx, hy]
    clear Cx Cy hx hy
    cases he : (x == y) with
    | true =>
      have he' : (x != y) = false := by simp [bne, he]
      go_wp2_with fail
      refine CX.out.mono ?_
      rintro e w1 ⟨rfl, rfl⟩
      go_wp2_with fail
      refine CY.out.mono ?_
      rintro e w1 ⟨rfl, rfl⟩
      go_wp2
      go_round
      case rel => exact ⟨k + 1, by omega, by go_num, fun j h => by rcases Nat.lt_succ_iff_lt_or_eq.1 h with h | rfl; exact HJ.out j h; rw [HXY.out]; exact he⟩
      case measure => simp [intOf]; omega
    | false =>
      have he' : (x != y) = true := by simp [bne, he]
      have HV3 : Hid (sameV l r = false) := by
        show _ = _
        rw [HV2.out]
        have : sameR (sW l) (sW r) = false := by unfold sameR; rw [← HMX.out]; exact range_all_no hlt (by rw [HXY.out]; exact he)
        rw [this]; rfl
      go_wp2_with fail
      refine CX.out.mono ?_
      rintro e w1 ⟨rfl, rfl⟩
      go_wp2_with fail
      refine CY.out.mono ?_
      rintro e w1 ⟨rfl, rfl⟩
      go_wp2
      go_ret
      exact ⟨by rw [HV3.out]; rfl, rfl⟩
  · have HV4 : Hid (sameV l r = sameL (sF l) (sF r)) := by
      show _ = _
      rw [HV2.out]
      have : sameR (sW l) (sW r) = true := by unfold sameR; rw [← HMX.out]; exact range_all_yes (fun j h => HJ.out j (by omega))
      rw [this]; rfl
    go_upto_if 69 with fail
    go_cut [15] (fun v wc => ∃ M : Nat, v = .int .i64 M ∧ M ≤ 1099511627776 ∧ Hid (M = max (sF l).length (sF r).length) ∧ w = wc)
    case first =>
      by_cases g : fn < gn
      · go_wp2
        all_goals
          go_meet
          case rel => exact ⟨gn, rfl, by omega, by show _ = _; rw [HB2.out.1, HB4.out.1]; omega, rfl⟩
      · go_wp2
        all_goals
          go_meet
          case rel => exact ⟨fn, rfl, by omega, by show _ = _; rw [HB2.out.1, HB4.out.1]; omega, rfl⟩
    case rest =>
    obtain ⟨N, rfl, hN, HNX, rfl⟩ := hcut
    go_wp2
    go_loop [16] (fun i => ∃ k : Nat, k ≤ N ∧ i = .int .i64 k ∧ ∀ j, j < k → (fromLeft (sF l) j == fromLeft (sF r) j) = true) (fun i => N - (intOf i).toNat)
    case atStart => exact ⟨0, Nat.zero_le _, rfl, fun j h => absurd h (Nat.not_lt_zero _)⟩
    case round =>
    obtain ⟨q, hq, rfl, hj⟩ := hrel
    have HJ2 := hide_of' hj
    clear hj
    by_cases hlt2 : q < N
    · obtain ⟨x, hx⟩ : ∃ x, x = fromLeft (sF l) q := ⟨_, rfl⟩
      obtain ⟨y, hy⟩ : ∃ y, y = fromLeft (sF r) q := ⟨_, rfl⟩
      have Cx := R63.out q (by omega)
      have Cy := R63'.out q (by omega)
      rw [← hx] at Cx
      rw [← hy] at Cy
      have CX := hide_of' Cx
      have CY := hide_of' Cy
      have HXY : Hid ((fromLeft (sF l) q == fromLeft (sF r) q) = (x == y)) := by show _ = _; rw [hx, hy]
      clear Cx Cy hx hy
      cases he : (x == y) with
      | true =>
        have he' : (x != y) = false := by simp [bne, he]
        go_wp2_with fail
        refine CX.out.mono ?_
        rintro e w1 ⟨rfl, rfl⟩
        go_wp2_with fail
        refine CY.out.mono ?_
        rintro e w1 ⟨rfl, rfl⟩
        go_wp2
        go_round
        case rel => exact ⟨q + 1, by omega, by go_num, fun j h => by rcases Nat.lt_succ_iff_lt_or_eq.1 h with h | rfl; exact HJ2.out j h; rw [HXY.out]; exact he⟩
        case measure => simp [intOf]; omega
      | false =>
        have he' : (x != y) = true := by simp [bne, he]
        have HV5 : Hid (sameV l r = false) := by
          show _ = _
          rw [HV4.out]
          unfold sameL; rw [← HNX.out]; exact range_all_no hlt2 (by rw [HXY.out]; exact he)
        go_wp2_with fail
        refine CX.out.mono ?_
        rintro e w1 ⟨rfl, rfl⟩
        go_wp2_with fail
        refine CY.out.mono ?_
        rintro e w1 ⟨rfl, rfl⟩
        go_wp2
        go_ret
        exact ⟨by rw [HV5.out]; rfl, rfl⟩
    · have HV6 : Hid (sameV l r = true) := by
        show _ = _
        rw [HV4.out]
        unfold sameL; rw [← HNX.out]; exact range_all_yes (fun j h => HJ2.out j (by omega))
      go_wp2
      go_ret
      exact ⟨by rw [HV6.out]; rfl, rfl⟩
end Go.Proofs.Qxb6616563a
