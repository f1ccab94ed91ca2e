import Derived.Test.Qxb6616563aNum
import Derived.Deep.CutBlock
import Derived.Deep.DeepCutAuto
namespace Go.Proofs.Qxb6616563a
open Go.RowKit

theorem dig53 (z : Int) (w : World) : Calls Try.prog 53 #[.int .u8 z] w fun e w' => e = .returned (.bool (digP z)) ∧ w' = w := by
  by_cases h1 : 48 ≤ z
  · by_cases h2 : z ≤ 57
    · have HE : Hid (digP z = true) := by show _ = _; simp [digP, h1, h2]
      go_enter Try.func53, Try.ntmps53
      go_wp2
      go_ret
      exact ⟨by rw [HE.out]; rfl, rfl⟩
    · have HE : Hid (digP z = false) := by show _ = _; simp [digP, h2]
      have h2' : decide (z ≤ 57) = false := by simpa using h2
      go_enter Try.func53, Try.ntmps53
      go_wp2
      go_ret
      exact ⟨by rw [HE.out]; rfl, rfl⟩
  · have HE : Hid (digP z = false) := by show _ = _; simp [digP, h1]
    have h1' : decide (48 ≤ z) = false := by simpa using h1
    go_enter Try.func53, Try.ntmps53
    go_wp2
    go_ret
    exact ⟨by rw [HE.out]; rfl, rfl⟩

/-- a slice that does not lie in block q -/
def Off (a : Option Addr) (n q : Nat) : Prop := ∀ ad, a = some ad → 0 < n → ad.block ≠ q
theorem off_none {q : Nat} : Off none 0 q := fun ad h => by cases h
theorem off_in {b o n q wn : Nat} {l : List UInt8} {wa : Option Addr} (hn : 0 < n) (hl : l.length = n) (hq : Off (some ⟨b, o, none⟩) l.length q) (hx : 0 < wn → ∃ x, wa = some ⟨b, x, none⟩) : Off wa wn q := by
  intro ad h1 h2
  obtain ⟨x, h3⟩ := hx h2
  rw [h3] at h1
  cases h1
  exact hq ⟨b, o, none⟩ rfl (by omega)

/-- what scanNumber hands back, over the bytes l -/
structure ScanR (w : World) (a : Option Addr) (l : List UInt8) (e : Ending) : Prop where
  ex : ∃ (wa fa : Option Addr) (wn wc fn fc : Nat), e = .returned (.tuple #[.int .i64 (scanN l), .bool (if scanN l = 0 then false else negF l), .slice wa wn wc, .slice fa fn fc]) ∧
    (¬ scanN l = 0 → Bytes w wa wn (wholeL l) ∧ Bytes w fa fn (fracL l)) ∧ wn ≤ l.length ∧ fn ≤ l.length ∧ ∀ q, Off a l.length q → Off wa wn q ∧ Off fa fn q

theorem Bytes.cut {w : World} {b o n : Nat} {l : List UInt8} {x y : Nat} {ad : Option Addr} (h : Bytes w (some ⟨b, o, none⟩) n l) (hxy : x ≤ y) (hy : y ≤ n) (had : x < y → ad = some ⟨b, o + x, none⟩) : Bytes w ad (y - x) (cutL l x y) := by
  have hl := h.1
  refine ⟨cutL_len (by omega) hxy, fun hn => ?_⟩
  obtain ⟨b', o', he, hc⟩ := h.2 (by omega)
  cases he
  refine ⟨b, o + x, had (by omega), fun i hi => ?_⟩
  show _ = some (Value.int .u8 (byteAt (cutL l x y) i))
  rw [byteAt_cut hi, Nat.add_assoc]
  exact hc (x + i) (by omega)

set_option maxRecDepth 100000 in
set_option maxHeartbeats 2000000 in
theorem scan45 (a : Option Addr) (n c : Nat) (l : List UInt8) (w : World) (ha : Bytes w a n l) (hnc : n ≤ c) (hn : n ≤ 1099511627776) (hc : c ≤ 9223372036854775807) :
    Calls Try.prog 45 #[.slice a n c] w fun e w' => ScanR w a l e ∧ w' = w := by
  have HL : Hid (l.length = n) := ha.1
  rcases Nat.eq_zero_or_pos n with h0 | h0
  · subst h0
    have hl : l = [] := List.length_eq_zero_iff.1 HL.out
    subst hl
    go_enter Try.func45, Try.ntmps45
    go_wp2
    go_loop [6] (fun i => i = .int .i64 0) (fun _ => 0)
    case atStart => rfl
    case round =>
      subst hrel
      go_wp2
      go_loop [6] (fun i => i = .int .i64 0) (fun _ => 0)
      case atStart => rfl
      case round =>
        subst hrel
        go_wp2
        refine bodyPost_ret (v := .tuple #[.int .i64 0, .bool false, .slice none 0 0, .slice none 0 0]) (by simp [results, Try.results45, go_sem]) rfl ⟨⟨none, none, 0, 0, 0, 0, ?_, ?_, Nat.le_refl _, Nat.le_refl _, fun _ _ => ⟨off_none, off_none⟩⟩, rfl⟩
        · rfl
        · intro h; exact absurd rfl h
  · obtain ⟨b, o, rfl, hcl⟩ := ha.2 h0
    have HC : Hid (∀ i, i < n → w.cell? ⟨b, o + i, none⟩ = some (.int .u8 (byteAt l i))) := hcl
    clear hcl
    have d0 := HC.out 0 h0
    rw [Nat.add_zero] at d0
    obtain ⟨sg, hsg⟩ : ∃ sg, sg = sgn l := ⟨_, rfl⟩
    have HSG : Hid (sg = sgn l) := hsg
    have hsg0 : sg = (byteAt l 0 == 45) := by rw [hsg, sgn, HL.out]; simp [h0]
    have HSG0 : Hid (sg = (byteAt l 0 == 45)) := hsg0
    clear hsg hsg0
    go_enter Try.func45, Try.ntmps45
    go_upto_if 21 with fail
    go_cut [3, 6] (fun ng i wc => ∃ f : Nat, ng = .bool sg ∧ i = .int .i64 f ∧ f ≤ 1 ∧ Hid (f = fstI l) ∧ w = wc)
    case first =>
      go_wp2
      · go_meet
        case rel => exact ⟨1, by have := HSG0.out; simp_all, rfl, Nat.le_refl _, by show 1 = fstI l; unfold fstI; rw [← HSG.out, HSG0.out]; simp_all, rfl⟩
      · go_meet
        case rel => exact ⟨0, by have := HSG0.out; simp_all, rfl, Nat.zero_le _, by show 0 = fstI l; unfold fstI; rw [← HSG.out, HSG0.out]; simp_all, rfl⟩
    case rest =>
      obtain ⟨f, rfl, rfl, hf1, HF, rfl⟩ := hcut
      go_upto_block 0 with fail
      go_cut [6] (fun i wc => ∃ k : Nat, i = .int .i64 k ∧ f ≤ k ∧ k ≤ n ∧ Hid (sigI l = k) ∧ w = wc)
      case first =>
        go_wp2
        go_loop [6] (fun i => ∃ k : Nat, i = .int .i64 k ∧ f ≤ k ∧ k ≤ n ∧ ∀ j, f ≤ j → j < k → zerP (byteAt l j) = true) (fun i => n - (intOf i).toNat)
        case atStart => exact ⟨f, rfl, Nat.le_refl _, by omega, fun j h1 h2 => by omega⟩
        case round =>
          obtain ⟨k, rfl, hfk, hkn, hj⟩ := hrel
          have HJ : Hid (∀ j, f ≤ j → j < k → zerP (byteAt l j) = true) := hj
          clear hj
          by_cases hlt : k < n
          · have d1 := HC.out k hlt
            cases hz : (byteAt l k == 48) with
            | true =>
              go_wp2
              go_round
              case rel => exact ⟨k + 1, by go_num, by omega, by omega, fun j h1 h2 => by rcases Nat.lt_succ_iff_lt_or_eq.1 h2 with h | rfl; exact HJ.out j h1 h; exact hz⟩
              case measure => simp [intOf]; omega
            | false =>
              go_wp2
              go_meet
              case rel => exact ⟨k, rfl, hfk, hkn, by show _ = _; unfold sigI; rw [← HF.out]; exact runEnd_eq HL.out hfk hkn HJ.out (fun _ => hz), rfl⟩
          · have hlt' : decide ((k : Int) < (n : Int)) = false := by simp; omega
            go_wp2
            go_meet
            case rel => exact ⟨k, rfl, hfk, hkn, by show _ = _; unfold sigI; rw [← HF.out]; exact runEnd_eq HL.out hfk hkn HJ.out (fun h => absurd h hlt), rfl⟩
      case rest =>
        obtain ⟨s1, rfl, hs1, hs2, HS, rfl⟩ := hcut
        go_upto_block 2 with fail
        go_cut [6] (fun i wc => ∃ k : Nat, i = .int .i64 k ∧ s1 ≤ k ∧ k ≤ n ∧ Hid (endI l = k) ∧ w = wc)
        case first =>
          go_wp2
          go_loop [6] (fun i => ∃ k : Nat, i = .int .i64 k ∧ s1 ≤ k ∧ k ≤ n ∧ ∀ j, s1 ≤ j → j < k → digP (byteAt l j) = true) (fun i => n - (intOf i).toNat)
          case atStart => exact ⟨s1, rfl, Nat.le_refl _, by omega, fun j h1 h2 => by omega⟩
          case round =>
            obtain ⟨k, rfl, hfk, hkn, hj⟩ := hrel
            have HJ : Hid (∀ j, s1 ≤ j → j < k → digP (byteAt l j) = true) := hj
            clear hj
            by_cases hlt : k < n
            · have d1 := HC.out k hlt
              cases hz : digP (byteAt l k) with
              | true =>
                go_wp2_with (go_at_call 53; refine (dig53 _ _).mono ?_; rintro e w' ⟨rfl, rfl⟩)
                go_round
                case rel => exact ⟨k + 1, by go_num, by omega, by omega, fun j h1 h2 => by rcases Nat.lt_succ_iff_lt_or_eq.1 h2 with h | rfl; exact HJ.out j h1 h; exact hz⟩
                case measure => simp [intOf]; omega
              | false =>
                go_wp2_with (go_at_call 53; refine (dig53 _ _).mono ?_; rintro e w' ⟨rfl, rfl⟩)
                go_meet
                case rel => exact ⟨k, rfl, hfk, hkn, by show _ = _; unfold endI; rw [HS.out]; exact runEnd_eq HL.out hfk hkn HJ.out (fun _ => hz), rfl⟩
            · have hlt' : decide ((k : Int) < (n : Int)) = false := by simp; omega
              go_wp2
              go_meet
              case rel => exact ⟨k, rfl, hfk, hkn, by show _ = _; unfold endI; rw [HS.out]; exact runEnd_eq HL.out hfk hkn HJ.out (fun h => absurd h hlt), rfl⟩
        case rest =>
          obtain ⟨e1, rfl, he1, he2, HE, rfl⟩ := hcut
          by_cases hef : e1 = f
          · have HZ : Hid (scanN l = 0) := by show _ = _; unfold scanN; rw [HE.out, ← HF.out, if_pos hef]
            have hef' : ((e1 : Int) == (f : Int)) = true := by simp [hef]
            clear hef
            go_wp2
            refine bodyPost_ret (v := .tuple #[.int .i64 0, .bool false, .slice none 0 0, .slice none 0 0]) (by simp [results, Try.results45, go_sem]) rfl ⟨⟨none, none, 0, 0, 0, 0, ?_, ?_, Nat.zero_le _, Nat.zero_le _, fun _ _ => ⟨off_none, off_none⟩⟩, rfl⟩
            · rw [HZ.out]; rfl
            · intro h; exact absurd HZ.out h
          · have hef' : ((e1 : Int) == (f : Int)) = false := by simp; omega
            go_upto_region 13 with fail
            go_cut [0, 4] (fun s0 v wc => ∃ (wa : Option Addr) (wn wc1 : Nat), s0 = .slice (some ⟨b, o, none⟩) n c ∧ v = .slice wa wn wc1 ∧ Bytes w wa wn (wholeL l) ∧ wn ≤ n ∧ (0 < wn → ∃ x, wa = some ⟨b, x, none⟩) ∧ w = wc)
            case first =>
              have hsc : s1 ≤ c := by omega
              go_wp2
              all_goals
                go_meet
                case rel => exact ⟨_, _, _, by first | rfl | (simp; omega), rfl, by unfold wholeL; rw [HS.out, HE.out]; exact ha.cut he1 he2 (fun h => by first | rfl | omega), by omega, fun _ => ⟨_, rfl⟩, rfl⟩
            case rest =>
              obtain ⟨wa, wn, wc1, rfl, rfl, hwb, hwn, hwx, rfl⟩ := hcut
              have HWX : Hid (0 < wn → ∃ x, wa = some ⟨b, x, none⟩) := hwx
              clear hwx
              have HWB : Hid (Bytes w wa wn (wholeL l)) := hwb
              clear hwb
              by_cases g1 : e1 + 1 < n
              · have d1 := HC.out e1 (by omega)
                have d2 := HC.out (e1 + 1) g1
                have g1' : (e1 : Int) + 1 < (n : Int) := by omega
                cases g2 : (byteAt l e1 == 46) with
                | false =>
                  have HD : Hid (dotB l = false) := by show _ = _; unfold dotB; rw [HE.out, g2]; simp
                  clear d2
                  have HN : Hid (scanN l = e1) := by show _ = _; unfold scanN; rw [HE.out, ← HF.out, if_neg hef, HD.out]; rfl
                  have HFR : Hid (Bytes w none 0 (fracL l)) := by show Bytes _ _ _ _; unfold fracL; rw [HD.out]; exact ⟨rfl, fun h => absurd h (Nat.lt_irrefl 0)⟩
                  have HNE : Hid (¬ scanN l = 0) := by show ¬ _; rw [HN.out]; omega
                  have HNG : Hid (negF l = (sg && (decide (0 < wn) || decide (0 < 0)))) := by show _ = _; unfold negF; rw [← HSG.out, HWB.out.1, HFR.out.1]
                  cases sg with
                  | false =>
                    go_wp2
                    refine bodyPost_ret (v := .tuple #[.int .i64 (e1 : Nat), .bool false, .slice wa wn wc1, .slice none 0 0]) (by simp [results, Try.results45, go_sem]) rfl ⟨⟨wa, none, wn, wc1, 0, 0, ?_, fun _ => ⟨HWB.out, HFR.out⟩, by rw [HL.out]; exact hwn, Nat.zero_le _, fun q hq => ⟨off_in h0 HL.out hq HWX.out, off_none⟩⟩, rfl⟩
                    rw [if_neg HNE.out, HN.out, HNG.out]; rfl
                  | true =>
                    by_cases q1 : 0 < wn
                    · have HQ : Hid (decide (0 < wn) = true) := by show _ = _; simp [q1]
                      go_wp2
                      refine bodyPost_ret (v := .tuple #[.int .i64 (e1 : Nat), .bool true, .slice wa wn wc1, .slice none 0 0]) (by simp [results, Try.results45, go_sem]) rfl ⟨⟨wa, none, wn, wc1, 0, 0, ?_, fun _ => ⟨HWB.out, HFR.out⟩, by rw [HL.out]; exact hwn, Nat.zero_le _, fun q hq => ⟨off_in h0 HL.out hq HWX.out, off_none⟩⟩, rfl⟩
                      rw [if_neg HNE.out, HN.out, HNG.out, HQ.out]; rfl
                    · have HQ : Hid (decide (0 < wn) = false) := by show _ = _; simp [q1]
                      have q1' : decide ((0 : Int) < (wn : Int)) = false := by simp; omega
                      go_wp2
                      refine bodyPost_ret (v := .tuple #[.int .i64 (e1 : Nat), .bool false, .slice wa wn wc1, .slice none 0 0]) (by simp [results, Try.results45, go_sem]) rfl ⟨⟨wa, none, wn, wc1, 0, 0, ?_, fun _ => ⟨HWB.out, HFR.out⟩, by rw [HL.out]; exact hwn, Nat.zero_le _, fun q hq => ⟨off_in h0 HL.out hq HWX.out, off_none⟩⟩, rfl⟩
                      rw [if_neg HNE.out, HN.out, HNG.out, HQ.out]; rfl
                | true =>
                  cases g3 : digP (byteAt l (e1 + 1)) with
                  | false =>
                    have HD : Hid (dotB l = false) := by show _ = _; unfold dotB; rw [HE.out, g3]; simp
                    have HCA := fun w => dig53 (byteAt l (e1 + 1)) w
                    rw [g3] at HCA
                    have HCC : Hid (∀ w, Calls Try.prog 53 #[.int .u8 (byteAt l (e1 + 1))] w fun e w' => e = .returned (.bool false) ∧ w' = w) := HCA
                    clear HCA
                    go_upto_if 80 with (go_at_call 53; refine (HCC.out _).mono ?_; rintro e w ⟨rfl, rfl⟩)
                    have HN : Hid (scanN l = e1) := by show _ = _; unfold scanN; rw [HE.out, ← HF.out, if_neg hef, HD.out]; rfl
                    have HFR : Hid (Bytes w none 0 (fracL l)) := by show Bytes _ _ _ _; unfold fracL; rw [HD.out]; exact ⟨rfl, fun h => absurd h (Nat.lt_irrefl 0)⟩
                    have HNE : Hid (¬ scanN l = 0) := by show ¬ _; rw [HN.out]; omega
                    have HNG : Hid (negF l = (sg && (decide (0 < wn) || decide (0 < 0)))) := by show _ = _; unfold negF; rw [← HSG.out, HWB.out.1, HFR.out.1]
                    cases sg with
                    | false =>
                      go_wp2
                      refine bodyPost_ret (v := .tuple #[.int .i64 (e1 : Nat), .bool false, .slice wa wn wc1, .slice none 0 0]) (by simp [results, Try.results45, go_sem]) rfl ⟨⟨wa, none, wn, wc1, 0, 0, ?_, fun _ => ⟨HWB.out, HFR.out⟩, by rw [HL.out]; exact hwn, Nat.zero_le _, fun q hq => ⟨off_in h0 HL.out hq HWX.out, off_none⟩⟩, rfl⟩
                      rw [if_neg HNE.out, HN.out, HNG.out]; rfl
                    | true =>
                      by_cases q1 : 0 < wn
                      · have HQ : Hid (decide (0 < wn) = true) := by show _ = _; simp [q1]
                        go_wp2
                        refine bodyPost_ret (v := .tuple #[.int .i64 (e1 : Nat), .bool true, .slice wa wn wc1, .slice none 0 0]) (by simp [results, Try.results45, go_sem]) rfl ⟨⟨wa, none, wn, wc1, 0, 0, ?_, fun _ => ⟨HWB.out, HFR.out⟩, by rw [HL.out]; exact hwn, Nat.zero_le _, fun q hq => ⟨off_in h0 HL.out hq HWX.out, off_none⟩⟩, rfl⟩
                        rw [if_neg HNE.out, HN.out, HNG.out, HQ.out]; rfl
                      · have HQ : Hid (decide (0 < wn) = false) := by show _ = _; simp [q1]
                        have q1' : decide ((0 : Int) < (wn : Int)) = false := by simp; omega
                        go_wp2
                        refine bodyPost_ret (v := .tuple #[.int .i64 (e1 : Nat), .bool false, .slice wa wn wc1, .slice none 0 0]) (by simp [results, Try.results45, go_sem]) rfl ⟨⟨wa, none, wn, wc1, 0, 0, ?_, fun _ => ⟨HWB.out, HFR.out⟩, by rw [HL.out]; exact hwn, Nat.zero_le _, fun q hq => ⟨off_in h0 HL.out hq HWX.out, off_none⟩⟩, rfl⟩
                        rw [if_neg HNE.out, HN.out, HNG.out, HQ.out]; rfl
                  | true =>
                    have HD : Hid (dotB l = true) := by show _ = _; unfold dotB; rw [HE.out, HL.out, g2, g3]; simp [g1]
                    have HCA := fun w => dig53 (byteAt l (e1 + 1)) w
                    rw [g3] at HCA
                    have HCC : Hid (∀ w, Calls Try.prog 53 #[.int .u8 (byteAt l (e1 + 1))] w fun e w' => e = .returned (.bool true) ∧ w' = w) := HCA
                    clear HCA
                    go_upto_if 80 with (go_at_call 53; refine (HCC.out _).mono ?_; rintro e w ⟨rfl, rfl⟩)
                    go_upto_block 4 with fail
                    go_cut [6, 10] (fun i fe wc => ∃ k : Nat, i = .int .i64 k ∧ e1 + 1 ≤ k ∧ k ≤ n ∧ Hid (end2 l = k) ∧ fe = .int .i64 (feF l (e1 + 1) (k - (e1 + 1)) : Nat) ∧ w = wc)
                    case first =>
                      clear d1 d2
                      go_wp2
                      go_loop [6, 10] (fun i fe => ∃ k : Nat, i = .int .i64 k ∧ e1 + 1 ≤ k ∧ k ≤ n ∧ fe = .int .i64 (feF l (e1 + 1) (k - (e1 + 1)) : Nat) ∧ ∀ j, e1 + 1 ≤ j → j < k → digP (byteAt l j) = true) (fun i _ => n - (intOf i).toNat)
                      case atStart => exact ⟨e1 + 1, by go_num, Nat.le_refl _, by omega, by rw [Nat.sub_self]; show _ = Value.int .i64 ((e1 + 1 : Nat) : Int); go_num, fun j h1 h2 => by omega⟩
                      case round =>
                        obtain ⟨k, rfl, hfk, hkn, rfl, hj⟩ := hrel
                        have HJ : Hid (∀ j, e1 + 1 ≤ j → j < k → digP (byteAt l j) = true) := hj
                        clear hj
                        obtain ⟨fe, hfe⟩ : ∃ fe, fe = feF l (e1 + 1) (k - (e1 + 1)) := ⟨_, rfl⟩
                        rw [← hfe]
                        have HFE : Hid (fe = feF l (e1 + 1) (k - (e1 + 1))) := hfe
                        clear hfe
                        by_cases hlt : k < n
                        · have dk := HC.out k hlt
                          have HST : Hid (feF l (e1 + 1) (k + 1 - (e1 + 1)) = if (byteAt l k == 48) = true then fe else k + 1) := by
                            show _ = _
                            have e : k + 1 - (e1 + 1) = (k - (e1 + 1)) + 1 := by omega
                            rw [e, feF, ← HFE.out]
                            have e2 : e1 + 1 + (k - (e1 + 1)) = k := by omega
                            rw [e2]
                          cases hz : digP (byteAt l k) with
                          | true =>
                            have HCB := fun w => dig53 (byteAt l k) w
                            rw [hz] at HCB
                            have HCD : Hid (∀ w, Calls Try.prog 53 #[.int .u8 (byteAt l k)] w fun e w' => e = .returned (.bool true) ∧ w' = w) := HCB
                            clear HCB
                            cases hq : (byteAt l k == 48) with
                            | true =>
                              have hq' : (byteAt l k != 48) = false := by simp [bne, hq]
                              go_wp2_with (go_at_call 53; refine (HCD.out _).mono ?_; rintro e w' ⟨rfl, rfl⟩)
                              go_round
                              case rel => exact ⟨k + 1, by go_num, by omega, by omega, by rw [HST.out, hq]; rfl, fun j h1 h2 => by rcases Nat.lt_succ_iff_lt_or_eq.1 h2 with h | rfl; exact HJ.out j h1 h; exact hz⟩
                              case measure => simp [intOf]; omega
                            | false =>
                              have hq' : (byteAt l k != 48) = true := by simp [bne, hq]
                              go_wp2_with (go_at_call 53; refine (HCD.out _).mono ?_; rintro e w' ⟨rfl, rfl⟩)
                              go_round
                              case rel => exact ⟨k + 1, by go_num, by omega, by omega, by rw [HST.out, hq]; simp, fun j h1 h2 => by rcases Nat.lt_succ_iff_lt_or_eq.1 h2 with h | rfl; exact HJ.out j h1 h; exact hz⟩
                              case measure => simp [intOf]; omega
                          | false =>
                            have HCB := fun w => dig53 (byteAt l k) w
                            rw [hz] at HCB
                            have HCD : Hid (∀ w, Calls Try.prog 53 #[.int .u8 (byteAt l k)] w fun e w' => e = .returned (.bool false) ∧ w' = w) := HCB
                            clear HCB
                            go_wp2_with (go_at_call 53; refine (HCD.out _).mono ?_; rintro e w' ⟨rfl, rfl⟩)
                            go_meet
                            case rel => exact ⟨k, rfl, hfk, hkn, by show _ = _; unfold end2; rw [HE.out]; exact runEnd_eq HL.out hfk hkn HJ.out (fun _ => hz), by rw [HFE.out], rfl⟩
                        · have hlt' : decide ((k : Int) < (n : Int)) = false := by simp; omega
                          go_wp2
                          go_meet
                          case rel => exact ⟨k, rfl, hfk, hkn, by show _ = _; unfold end2; rw [HE.out]; exact runEnd_eq HL.out hfk hkn HJ.out (fun h => absurd h hlt), by rw [HFE.out], rfl⟩
                    case rest =>
                      obtain ⟨i2, rfl, hi1, hi2, HI2, hfe, rfl⟩ := hcut
                      obtain ⟨fe, hfe2⟩ : ∃ fe, fe = feF l (e1 + 1) (i2 - (e1 + 1)) := ⟨_, rfl⟩
                      have fb := feF_bd l (e1 + 1) (i2 - (e1 + 1))
                      rw [← hfe2] at fb hfe
                      have HFE : Hid (fe = fenI l) := by show _ = _; unfold fenI; rw [HE.out, HI2.out]; exact hfe2
                      subst hfe
                      clear hfe2
                      have fb1 := fb.1
                      have fb2 : fe ≤ n := by omega
                      clear fb
                      go_upto_region 21 with fail
                      go_cut [0, 5] (fun s0 v wc => ∃ (fa : Option Addr) (fn fc1 : Nat), s0 = .slice (some ⟨b, o, none⟩) n c ∧ v = .slice fa fn fc1 ∧ Bytes w fa fn (fracL l) ∧ fn ≤ n ∧ (0 < fn → ∃ x, fa = some ⟨b, x, none⟩) ∧ w = wc)
                      case first =>
                        have hsc : e1 + 1 ≤ c := by omega
                        go_wp2
                        all_goals
                          go_meet
                          case rel => exact ⟨_, _, _, by first | rfl | (simp; omega), rfl, by unfold fracL; rw [HD.out, HE.out, ← HFE.out]; exact ha.cut fb1 fb2 (fun h => by first | rfl | omega), by omega, fun _ => ⟨_, rfl⟩, rfl⟩
                      case rest =>
                        obtain ⟨fa, fn, fc1, rfl, rfl, hfb, hfn, hfx, rfl⟩ := hcut
                        have HFX : Hid (0 < fn → ∃ x, fa = some ⟨b, x, none⟩) := hfx
                        clear hfx
                        have HFB : Hid (Bytes w fa fn (fracL l)) := hfb
                        clear hfb
                        have HN : Hid (scanN l = i2) := by show _ = _; unfold scanN; rw [HE.out, ← HF.out, if_neg hef, HD.out, HI2.out]; rfl
                        have HFR : Hid (Bytes w fa fn (fracL l)) := HFB.out
                        have HNE : Hid (¬ scanN l = 0) := by show ¬ _; rw [HN.out]; omega
                        have HNG : Hid (negF l = (sg && (decide (0 < wn) || decide (0 < fn)))) := by show _ = _; unfold negF; rw [← HSG.out, HWB.out.1, HFR.out.1]
                        cases sg with
                        | false =>
                          go_wp2
                          refine bodyPost_ret (v := .tuple #[.int .i64 (i2 : Nat), .bool false, .slice wa wn wc1, .slice fa fn fc1]) (by simp [results, Try.results45, go_sem]) rfl ⟨⟨wa, fa, wn, wc1, fn, fc1, ?_, fun _ => ⟨HWB.out, HFR.out⟩, by rw [HL.out]; exact hwn, by rw [HL.out]; exact hfn, fun q hq => ⟨off_in h0 HL.out hq HWX.out, off_in h0 HL.out hq HFX.out⟩⟩, rfl⟩
                          rw [if_neg HNE.out, HN.out, HNG.out]; rfl
                        | true =>
                          by_cases q1 : 0 < wn
                          · have HQ : Hid (decide (0 < wn) = true) := by show _ = _; simp [q1]
                            go_wp2
                            refine bodyPost_ret (v := .tuple #[.int .i64 (i2 : Nat), .bool true, .slice wa wn wc1, .slice fa fn fc1]) (by simp [results, Try.results45, go_sem]) rfl ⟨⟨wa, fa, wn, wc1, fn, fc1, ?_, fun _ => ⟨HWB.out, HFR.out⟩, by rw [HL.out]; exact hwn, by rw [HL.out]; exact hfn, fun q hq => ⟨off_in h0 HL.out hq HWX.out, off_in h0 HL.out hq HFX.out⟩⟩, rfl⟩
                            rw [if_neg HNE.out, HN.out, HNG.out, HQ.out]; rfl
                          · have HQ : Hid (decide (0 < wn) = false) := by show _ = _; simp [q1]
                            have q1' : decide ((0 : Int) < (wn : Int)) = false := by simp; omega
                            by_cases q2 : 0 < fn
                            · have HQ2 : Hid (decide (0 < fn) = true) := by show _ = _; simp [q2]
                              go_wp2
                              refine bodyPost_ret (v := .tuple #[.int .i64 (i2 : Nat), .bool true, .slice wa wn wc1, .slice fa fn fc1]) (by simp [results, Try.results45, go_sem]) rfl ⟨⟨wa, fa, wn, wc1, fn, fc1, ?_, fun _ => ⟨HWB.out, HFR.out⟩, by rw [HL.out]; exact hwn, by rw [HL.out]; exact hfn, fun q hq => ⟨off_in h0 HL.out hq HWX.out, off_in h0 HL.out hq HFX.out⟩⟩, rfl⟩
                              rw [if_neg HNE.out, HN.out, HNG.out, HQ.out, HQ2.out]; rfl
                            · have HQ2 : Hid (decide (0 < fn) = false) := by show _ = _; simp [q2]
                              have q2' : decide ((0 : Int) < (fn : Int)) = false := by simp; omega
                              go_wp2
                              refine bodyPost_ret (v := .tuple #[.int .i64 (i2 : Nat), .bool false, .slice wa wn wc1, .slice fa fn fc1]) (by simp [results, Try.results45, go_sem]) rfl ⟨⟨wa, fa, wn, wc1, fn, fc1, ?_, fun _ => ⟨HWB.out, HFR.out⟩, by rw [HL.out]; exact hwn, by rw [HL.out]; exact hfn, fun q hq => ⟨off_in h0 HL.out hq HWX.out, off_in h0 HL.out hq HFX.out⟩⟩, rfl⟩
                              rw [if_neg HNE.out, HN.out, HNG.out, HQ.out, HQ2.out]; rfl
              · have HD : Hid (dotB l = false) := by show _ = _; unfold dotB; rw [HE.out, HL.out]; simp [g1]
                have g1' : decide ((e1 : Int) + 1 < (n : Int)) = false := by simp; omega
                have HN : Hid (scanN l = e1) := by show _ = _; unfold scanN; rw [HE.out, ← HF.out, if_neg hef, HD.out]; rfl
                have HFR : Hid (Bytes w none 0 (fracL l)) := by show Bytes _ _ _ _; unfold fracL; rw [HD.out]; exact ⟨rfl, fun h => absurd h (Nat.lt_irrefl 0)⟩
                have HNE : Hid (¬ scanN l = 0) := by show ¬ _; rw [HN.out]; omega
                have HNG : Hid (negF l = (sg && (decide (0 < wn) || decide (0 < 0)))) := by show _ = _; unfold negF; rw [← HSG.out, HWB.out.1, HFR.out.1]
                cases sg with
                | false =>
                  go_wp2
                  refine bodyPost_ret (v := .tuple #[.int .i64 (e1 : Nat), .bool false, .slice wa wn wc1, .slice none 0 0]) (by simp [results, Try.results45, go_sem]) rfl ⟨⟨wa, none, wn, wc1, 0, 0, ?_, fun _ => ⟨HWB.out, HFR.out⟩, by rw [HL.out]; exact hwn, Nat.zero_le _, fun q hq => ⟨off_in h0 HL.out hq HWX.out, off_none⟩⟩, rfl⟩
                  rw [if_neg HNE.out, HN.out, HNG.out]; rfl
                | true =>
                  by_cases q1 : 0 < wn
                  · have HQ : Hid (decide (0 < wn) = true) := by show _ = _; simp [q1]
                    go_wp2
                    refine bodyPost_ret (v := .tuple #[.int .i64 (e1 : Nat), .bool true, .slice wa wn wc1, .slice none 0 0]) (by simp [results, Try.results45, go_sem]) rfl ⟨⟨wa, none, wn, wc1, 0, 0, ?_, fun _ => ⟨HWB.out, HFR.out⟩, by rw [HL.out]; exact hwn, Nat.zero_le _, fun q hq => ⟨off_in h0 HL.out hq HWX.out, off_none⟩⟩, rfl⟩
                    rw [if_neg HNE.out, HN.out, HNG.out, HQ.out]; rfl
                  · have HQ : Hid (decide (0 < wn) = false) := by show _ = _; simp [q1]
                    have q1' : decide ((0 : Int) < (wn : Int)) = false := by simp; omega
                    go_wp2
                    refine bodyPost_ret (v := .tuple #[.int .i64 (e1 : Nat), .bool false, .slice wa wn wc1, .slice none 0 0]) (by simp [results, Try.results45, go_sem]) rfl ⟨⟨wa, none, wn, wc1, 0, 0, ?_, fun _ => ⟨HWB.out, HFR.out⟩, by rw [HL.out]; exact hwn, Nat.zero_le _, fun q hq => ⟨off_in h0 HL.out hq HWX.out, off_none⟩⟩, rfl⟩
                    rw [if_neg HNE.out, HN.out, HNG.out, HQ.out]; rfl
end Go.Proofs.Qxb6616563a
