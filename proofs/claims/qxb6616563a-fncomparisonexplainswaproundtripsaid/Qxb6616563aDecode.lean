import Derived.Test.Qxb6616563aGrowL
import Derived.Test.Qxb6616563aPlain2
namespace Go.Proofs.Qxb6616563a
open Go.RowKit

/-- b1HasPrefixAt where the text is there, in whatever world behind w. -/
theorem hasPrefix_at (a : Option Addr) (n c i : Nat) (iz : Int) (l : List UInt8) (p : ByteArray) (w : World) (pre rest : List UInt8) (ha : Bytes w a n l) (hn : n ≤ 1152921504606846976) (hl : l = pre ++ p.data.toList ++ rest) (hi : pre.length = i) (hiz : iz = (i : Int)) :
    Calls Try.prog 36 #[.slice a n c, .int .i64 iz, .string p] w fun e w' => e = .returned (.bool true) ∧ Below w.heap.size w w' := by
  subst hiz
  obtain ⟨h1, h2⟩ := pre_at hl hi
  refine (hasPrefix_yes a n c i l p w ha hn (by have := ha.1; omega) h2).mono ?_
  rintro e w' ⟨h, k, rfl⟩
  exact ⟨h, below_drewN (Below.refl _ _) k⟩

theorem Buf.empty (w : World) : Buf w (w.alloc (.cells #[] 5)) (.slice (some ⟨w.heap.size, 0, none⟩) 0 0) [] 0 :=
  ⟨⟨0, World.ownsRow_lit w #[] 0 (Nat.le_refl _) (Nat.zero_le _) rfl, Nat.le_refl _⟩, (Below.refl _ _).alloc (Nat.le_refl _) _⟩

/-- The inner loop: t bytes of the value have been read; or all, and the closing quote too. -/
structure InnerR (w0 wr : World) (v : List UInt8) (q0 n : Nat) (i vv cl : Value) : Prop where
  ex : ∃ (t r : Nat) (b : Bool), t ≤ v.length ∧ i = .int .i64 r ∧ cl = .bool b ∧ r ≤ n ∧ Buf w0 wr vv (v.take t) t ∧ (b = false → r = q0 + (esc (v.take t)).length) ∧ (b = true → t = v.length ∧ r = q0 + (esc v).length + 1)

theorem esc_ge (v : List UInt8) : v.length ≤ (esc v).length := by
  induction v with
  | nil => exact Nat.le_refl _
  | cons c t ih =>
    have h : 1 ≤ (escOne c).length := by unfold escOne; split <;> simp
    simp only [esc, List.length_append, List.length_cons]
    omega

theorem special_ne {c : UInt8} (h : special c = false) : (((c.toNat : Int) == 34) = false) ∧ (((c.toNat : Int) == 92) = false) := by
  unfold special at h
  rw [Bool.or_eq_false_iff] at h
  refine ⟨beq_eq_false_iff_ne.2 fun he => ?_, beq_eq_false_iff_ne.2 fun he => ?_⟩
  · have : c = 34 := UInt8.toNat_inj.1 (by show c.toNat = 34; omega)
    rw [this] at h
    simp at h
  · have : c = 92 := UInt8.toNat_inj.1 (by show c.toNat = 92; omega)
    rw [this] at h
    simp at h

theorem hide_eq {α : Type} {a b : α} (h : a = b) : Hid (a = b) := h

def posAt (text : ByteArray) (Nm : Nat → ByteArray) (vs : Nat → List UInt8) (j : Nat) : Nat := text.size + 7 + (segs Nm vs j).length

set_option maxRecDepth 100000 in
set_option maxHeartbeats 4000000 in
theorem decode_yes (a an : Option Addr) (n c m cn : Nat) (text : ByteArray) (Nm : Nat → ByteArray) (vs : Nat → List UInt8) (l : List UInt8) (w : World)
    (ha : Bytes w a n l) (hN : Sl w an m (fun i => .string (Nm i))) (hl : l = text.data.toList ++ fail7 ++ segs Nm vs m) (hn : n ≤ 1099511627776) (hm : m ≤ 1048576) :
    Calls Try.prog 17 #[.slice a n c, .string text, .slice an m cn] w fun e w' => ∃ v, e = .returned (.tuple #[v, .bool true]) ∧ VL w w' v m vs := by
  have HL : Hid (l = text.data.toList ++ fail7 ++ segs Nm vs m) := hl
  have HLN : Hid (l.length = n) := ha.1
  have hts : Hid (text.data.toList.length = text.size) := by show _ = _; simp
  have hb0 : text.size + 7 + (segs Nm vs m).length = n := by
    rw [← HLN.out, HL.out]
    simp [fail7]
    omega
  have hb1 : text.size + 7 ≤ n := by omega
  have HB0 : Hid (text.size + 7 + (segs Nm vs m).length = n) := hb0
  clear hl hb0
  go_enter Try.func17, Try.ntmps17
  go_wp2_with fail
  refine (hasPrefix_at _ _ _ 0 _ l text _ [] (fail7 ++ segs Nm vs m) ha (by omega) (by rw [HL.out]; simp) rfl rfl).mono ?_
  rintro e w1 ⟨rfl, hw1⟩
  have HB1 : Hid (Below w.heap.size w w1) := hw1
  clear hw1
  go_wp2_with fail
  refine (hasPrefix_at _ _ _ text.size _ l ⟨#[32, 102, 97, 105, 108, 101, 100]⟩ _ text.data.toList (segs Nm vs m) (ha.below HB1.out) (by omega) (by rw [HL.out]; rfl) hts.out (by simp)).mono ?_
  rintro e w2 ⟨rfl, hw2⟩
  have HB2 : Hid (Below w.heap.size w w2) := HB1.out.trans (hw2.mono HB1.out.size)
  clear hw2 HB1
  go_wp2
  go_loopw [8, 9, 10] (fun i vals jj wr => ∃ j q : Nat, j ≤ m ∧ jj = .int .i64 j ∧ i = .int .i64 q ∧ Hid (q = posAt text Nm vs j) ∧ q ≤ n ∧ VL w wr vals j vs) (fun _ _ jj _ => m - (intOf jj).toNat)
  case atStart => exact ⟨0, text.size + 7, Nat.zero_le _, rfl, by go_num, rfl, hb1, (VL.start w vs).after HB2.out⟩
  case round =>
    obtain ⟨j, q, hj, rfl, rfl, HQ, hqn, hvl⟩ := hrel
    have HVL : Hid (VL w wr u9 j vs) := hvl
    clear hvl
    by_cases hlt : j < m
    · obtain ⟨rest, hrest⟩ := segs_split Nm vs j m hlt
      obtain ⟨nm, hnm⟩ : ∃ nm, nm = Nm j := ⟨_, rfl⟩
      obtain ⟨v, hv⟩ : ∃ v, v = vs j := ⟨_, rfl⟩
      obtain ⟨pre, hpre⟩ : ∃ pre, pre = text.data.toList ++ fail7 ++ segs Nm vs j := ⟨_, rfl⟩
      have HPL : Hid (pre.length = q) := by
        show pre.length = q
        have := hts.out
        rw [hpre, HQ.out, posAt]
        simp [fail7]
        omega
      have HLS : Hid (l = pre ++ (sepB (decide (j = 0))).data.toList ++ nm.data.toList ++ tail5 ++ (esc v ++ (34 :: rest))) := by
        show l = _
        rw [HL.out, hrest, hpre, hnm, hv]
        simp [seg]
      have HQ1 : Hid (posAt text Nm vs (j + 1) = q + 2 + nm.size + 5 + (esc v).length + 1) := by
        show posAt text Nm vs (j + 1) = _
        have h1 : (sepB (decide (j = 0))).data.toList.length = 2 := by rw [← sepB_size (decide (j = 0))]; simp
        have h2 : nm.data.toList.length = nm.size := by simp
        rw [HQ.out, posAt, posAt, segs, hnm, hv]
        rw [hnm] at h2
        simp only [seg, List.length_append, h1, h2, tail5, List.length_cons, List.length_nil]
        omega
      have HVJ : Hid (v = vs j) := hv
      obtain ⟨bN, oN, hA, hcN⟩ := hN (by omega)
      cases hA
      have KN : Hid (∀ w', Below w.heap.size w w' → w'.cell? ⟨bN, oN + j, none⟩ = some (.string nm)) := fun w' hb => by
        have := hcN j hlt
        rw [hb.cell (p := ⟨bN, oN + j, none⟩) (cell_lt this), this, hnm]
      have hsz : q + 2 + nm.size + 5 + (esc v).length + 1 ≤ n := by
        have h1 : (sepB (decide (j = 0))).data.toList.length = 2 := by rw [← sepB_size (decide (j = 0))]; simp
        have h2 : nm.data.toList.length = nm.size := by simp
        have := HLN.out
        have h3 := HPL.out
        rw [HLS.out] at this
        simp only [List.length_append, h1, h2, tail5, List.length_cons, List.length_nil] at this
        omega
      have hvn : v.length ≤ n := by have := esc_ge v; omega
      clear hpre hrest hcN hnm hv HQ
      have hJ0 := (HVL.out.below)
      rcases (show (((j : Int) == 0) = true ∧ sepB (decide (j = 0)) = ⟨#[58, 32]⟩) ∨ (((j : Int) == 0) = false ∧ sepB (decide (j = 0)) = ⟨#[44, 32]⟩) from by
        by_cases h : j = 0
        · exact .inl ⟨by simp [h], by simp [h, sepB]⟩
        · exact .inr ⟨by simp; omega, by simp [h, sepB]⟩) with ⟨ht, hse⟩ | ⟨ht, hse⟩
      all_goals
        have HSE := hide_eq hse
        clear hse
        have HA0 : Hid (Below w.heap.size w wr) := HVL.out.below
        have HP2 : Hid ((pre ++ (sepB (decide (j = 0))).data.toList).length = q + 2) := by
          show _ = _
          have h1 : (sepB (decide (j = 0))).data.toList.length = 2 := by rw [← sepB_size (decide (j = 0))]; simp
          have := HPL.out
          rw [List.length_append]
          omega
        have HP3 : Hid ((pre ++ (sepB (decide (j = 0))).data.toList ++ nm.data.toList).length = q + 2 + nm.size) := by
          show _ = _
          have h2 : nm.data.toList.length = nm.size := by simp
          have := HP2.out
          rw [List.length_append]
          omega
        have HP4 : Hid ((pre ++ (sepB (decide (j = 0))).data.toList ++ nm.data.toList ++ tail5).length = q + 2 + nm.size + 5) := by
          show _ = _
          have := HP3.out
          rw [List.length_append, this]
          rfl
        go_wp2_with fail
        refine (hasPrefix_at _ _ _ q _ l _ _ pre (nm.data.toList ++ tail5 ++ (esc v ++ (34 :: rest))) (ha.below HA0.out) (by omega) (by rw [HLS.out, HSE.out]; simp) HPL.out rfl).mono ?_
        rintro e w3 ⟨rfl, hw3⟩
        have HA1 : Hid (Below w.heap.size w w3) := HA0.out.trans (hw3.mono HA0.out.size)
        have HV3 : Hid (VL w w3 u9 j vs) := HVL.out.after hw3
        have cN := KN.out w3 HA1.out
        clear hw3
        go_wp2_with fail
        refine (hasPrefix_at _ _ _ (q + 2) _ l nm _ (pre ++ (sepB (decide (j = 0))).data.toList) (tail5 ++ (esc v ++ (34 :: rest))) (ha.below HA1.out) (by omega) (by rw [HLS.out]; simp) HP2.out (by omega)).mono ?_
        rintro e w4 ⟨rfl, hw4⟩
        have HA2 : Hid (Below w.heap.size w w4) := HA1.out.trans (hw4.mono HA1.out.size)
        have HV4 : Hid (VL w w4 u9 j vs) := HV3.out.after hw4
        have cN4 := KN.out w4 HA2.out
        clear hw4 cN HA1 HV3
        go_wp2_with fail
        refine (hasPrefix_at _ _ _ (q + 2 + nm.size) _ l ⟨#[32, 105, 115, 32, 34]⟩ _ (pre ++ (sepB (decide (j = 0))).data.toList ++ nm.data.toList) (esc v ++ (34 :: rest)) (ha.below HA2.out) (by omega) (by rw [HLS.out]; simp [tail5]) HP3.out (by omega)).mono ?_
        rintro e w5 ⟨rfl, hw5⟩
        have HA3 : Hid (Below w.heap.size w w5) := HA2.out.trans (hw5.mono HA2.out.size)
        have HV5 : Hid (VL w w5 u9 j vs) := HV4.out.after hw5
        clear hw5 cN4 HA2 HV4
        go_wp2
        have HLI : Hid (l = (pre ++ (sepB (decide (j = 0))).data.toList ++ nm.data.toList ++ tail5) ++ (esc v ++ (34 :: rest))) := HLS.out
        have HBE : Hid (Buf w5 (w5.alloc (.cells #[] 5)) (.slice (some ⟨w5.heap.size, 0, none⟩) 0 0) [] 0) := Buf.empty w5
        clear HSE HP2 HP3 HPL HLS KN
        go_loopw [8, 12, 13] (fun i vv cl wr => InnerR w5 wr v (q + 2 + nm.size + 5) n i vv cl) (fun i _ _ _ => n - (intOf i).toNat)
        case atStart => exact ⟨0, q + 2 + nm.size + 5, false, Nat.zero_le _, by go_num, rfl, by omega, HBE.out, fun _ => by simp [esc], fun h => by cases h⟩
        case round =>
          obtain ⟨t, r, b, htv, rfl, rfl, hrn, hbuf, hf, htr⟩ := hrel.ex
          have HBU : Hid (Buf w5 wr u12 (v.take t) t) := hbuf
          have HF : Hid (b = false → r = q + 2 + nm.size + 5 + (esc (v.take t)).length) := hf
          have HT : Hid (b = true → t = v.length ∧ r = q + 2 + nm.size + 5 + (esc v).length + 1) := htr
          clear hbuf hf htr hrel
          have HW : Hid (Below w.heap.size w wr) := HA3.out.trans (HBU.out.below.mono HA3.out.size)
          cases b with
          | false =>
            have hr := HF.out rfl
            obtain ⟨b1, o1, rfl, hc1⟩ := (ha.below HW.out).2 (by omega)
            have hc : ∀ i, i < n → wr.cell? ⟨b1, o1 + i, none⟩ = some (.int .u8 (byteAt l i)) := hc1
            clear hc1
            by_cases htl : t < v.length
            · have MF := mid_facts HLI.out HP4.out HLN.out htl
              have HTS := hide_eq (take_snoc' v t htl)
              obtain ⟨cc, hcc⟩ : ∃ cc, cc = v.getD t 0 := ⟨_, rfl⟩
              rw [← hcc] at HTS
              cases hsp : special (v.getD t 0) with
              | false =>
                obtain ⟨m1, m2, m3⟩ := MF.plain hsp
                rw [← hr] at m1 m2
                rw [← hcc] at m2 hsp
                have HM3 := hide_eq m3
                have sn := special_ne hsp
                have d1 := hc r m1
                rw [m2] at d1
                have s1 := sn.1
                have s2 := sn.2
                have bd := cc.toNat_lt
                clear MF hsp m3 m2 hcc sn hc hr
                go_wp2_with (at_builtin; refine HBU.out.wp_byte cc _ rfl rfl (.tmp 104) (.tmp 106) rfl rfl rfl (by omega) ?_; intro v6 w6 hb6)
                go_roundw
                case rel => exact ⟨t + 1, r + 1, false, by omega, by go_num, rfl, by omega, by rw [HTS.out]; exact hb6, fun _ => by rw [HM3.out]; have := HF.out rfl; omega, fun h => by cases h⟩
                case measure => simp [intOf]; omega
              | true =>
                obtain ⟨m1, m2, m3, m4⟩ := MF.quoted hsp
                rw [← hr] at m1 m2 m3
                rw [← hcc] at m3
                have HM4 := hide_eq m4
                have d1 := hc r (by omega)
                have d2 := hc (r + 1) m1
                rw [m2] at d1
                rw [m3] at d2
                have m1' : (r : Int) + 1 < (n : Int) := by omega
                have bd := cc.toNat_lt
                clear MF hsp m4 m3 m2 hcc hc hr
                go_wp2_with (at_builtin; refine HBU.out.wp_byte cc _ rfl rfl (.tmp 94) (.tmp 100) rfl rfl rfl (by omega) ?_; intro v6 w6 hb6)
                go_roundw
                case rel => exact ⟨t + 1, r + 2, false, by omega, by go_num, rfl, by omega, by rw [HTS.out]; exact hb6, fun _ => by rw [HM4.out]; have := HF.out rfl; omega, fun h => by cases h⟩
                case measure => simp [intOf]; omega
            · have hte : v.take t = v := List.take_of_length_le (by omega)
              rw [hte] at hr
              obtain ⟨m1, m2⟩ := end_fact HLI.out HP4.out HLN.out
              rw [← hr] at m1 m2
              have d1 := hc r m1
              rw [m2] at d1
              have HR := hide_eq hr
              have HTE := hide_eq hte
              clear m2 hr hc hte
              go_wp2
              go_roundw
              case rel => exact ⟨t, r + 1, true, htv, by go_num, rfl, by omega, HBU.out, fun h => absurd h (by decide), fun _ => ⟨by omega, by rw [HR.out]⟩⟩
              case measure => simp [intOf]; omega
          | true =>
            obtain ⟨ht1, hr1⟩ := HT.out rfl
            have HT1 := hide_eq ht1
            have HR1 := hide_eq hr1
            clear ht1 hr1
            have HOW : Hid (∃ k, wr.ownsRow w.heap.size 5 1 u12 k (Lib.byteCells (vs j)) ∧ k ≤ 1152921504606846976) := by
              obtain ⟨⟨k, h1, h2⟩, h3⟩ := HBU.out
              have hte : v.take t = vs j := by rw [← HVJ.out]; exact List.take_of_length_le (by have := HT1.out; omega)
              rw [hte] at h1
              exact ⟨k, ownsRow_base h1 HA3.out.size, by omega⟩
            have HVE : Hid (VL w wr u9 j vs) := HV5.out.after HBU.out.below
            obtain ⟨k, hk⟩ := HOW.out
            have HK : Hid (wr.ownsRow w.heap.size 5 1 u12 k (Lib.byteCells (vs j)) ∧ k ≤ 1152921504606846976) := hk
            clear hk HOW
            obtain ⟨_, ax, cx, hux, _⟩ := ownsRow_shape HK.out.1
            subst hux
            by_cases hrn' : r < n
            all_goals
              go_wp2_with (at_builtin; refine HVE.out.wp_app HK.out.1 HK.out.2 rfl (.tmp 112) (.tmp 114) rfl rfl rfl (by omega) ?_; intro v6 w6 hb6)
              go_roundw
              case rel => exact ⟨j + 1, r, by omega, by go_num, rfl, by show r = posAt _ _ _ _; rw [HQ1.out]; exact HR1.out, hrn, hb6⟩
              case measure => simp [intOf]; omega
    · have hjm : j = m := by omega
      subst hjm
      have hqe : q = n := by have h1 := HQ.out; have h2 := HB0.out; rw [posAt] at h1; omega
      have HQE := hide_eq hqe
      have hqe' : ((q : Int) == (n : Int)) = true := by simp; omega
      clear hqe
      go_wp2
      go_ret2
      exact ⟨_, rfl, HVL.out⟩
end Go.Proofs.Qxb6616563a
