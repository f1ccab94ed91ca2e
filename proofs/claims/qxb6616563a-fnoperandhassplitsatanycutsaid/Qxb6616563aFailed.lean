import Derived.Test.Qxb6616563aGrow
import Derived.Test.Qxb6616563aPlain1
namespace Go.Proofs.Qxb6616563a
open Go.RowKit

set_option maxRecDepth 100000 in
set_option maxHeartbeats 2000000 in
theorem failed_any (pb sb : Nat) (bf bw av : Option Addr) (nf nv cf cw cv : Nat) (text : ByteArray) (S z : Nat → Int) (W : Nat → ByteArray) (A : Nat → Option Addr) (L C : Nat → Nat) (V : Nat → List UInt8) (w : World)
    (p1 : w.cell? ⟨pb, 1, none⟩ = some (.slice bf nf cf)) (p2 : w.cell? ⟨pb, 2, none⟩ = some (.slice bw nf cw))
    (hf : Sl w bf nf (fun i => .int .i64 (z i))) (hw : Sl w bw nf (fun i => .string (W i))) (hv : Sl w av nv (fun i => .slice (A i) (L i) (C i))) (hV : ∀ i, i < nv → Bytes w (A i) (L i) (V i))
    (hs : Sl w (some ⟨sb, 0, none⟩) 2 (fun i => .int .i64 (S i)))
    (ht : text.size ≤ 1048576) (hnf : nf ≤ 1048576) (hnv : nv ≤ 1048576) (hW : ∀ i, i < nf → (W i).size ≤ 1048576) (hL : ∀ i, i < nv → L i ≤ 1048576)
    (hS : ∀ k, k < 2 → -1 ≤ S k ∧ S k < nf) (hz : ∀ j, j < nf → -1 ≤ z j ∧ z j < nv) :
    Calls Try.prog 44 #[.pointer (some ⟨pb, 0, none⟩), .slice none 0 0, .slice av nv cv, .string text, .slice (some ⟨sb, 0, none⟩) 2 2] w fun e w' =>
      ∃ v, e = .returned v ∧ Buf w w' v (Fst text.data.toList S z W V 2).1 16777216 := by
  have HV : Hid (∀ i, i < nv → Bytes w (A i) (L i) (V i)) := hV
  have HW : Hid (∀ i, i < nf → (W i).size ≤ 1048576) := hW
  have HL : Hid (∀ i, i < nv → L i ≤ 1048576) := hL
  have HS : Hid (∀ k, k < 2 → -1 ≤ S k ∧ S k < nf) := hS
  have HZ : Hid (∀ j, j < nf → -1 ≤ z j ∧ z j < nv) := hz
  clear hV hW hL hS hz
  go_enter Try.func44, Try.ntmps44
  go_wp2_with (first | (at_builtin; refine (Buf.start w).wp_str rfl (.tmp 16) (.tmp 17) rfl rfl text rfl (by omega) ?_; intro v1 w1 hb1) | (at_builtin; refine hb1.wp_str rfl (.tmp 19) _ rfl rfl ⟨#[32, 102, 97, 105, 108, 101, 100]⟩ rfl (by show 0 + text.size + 7 ≤ _; omega) ?_; intro v2 w2 hb2))
  go_loopw [1, 11, 23] (fun d sep i wr => ∃ (k : Nat) (p : List UInt8 × Bool), k ≤ 2 ∧ i = .int .i64 k ∧ sep = .string (sepB p.2) ∧ Buf w wr d p.1 (2097152 + k * 4194304) ∧ Hid (p = Fst text.data.toList S z W V k)) (fun _ _ i _ => 2 - (intOf i).toNat)
  case atStart => exact ⟨0, _, Nat.zero_le _, rfl, rfl, hb2.mono (by show 0 + text.size + 7 ≤ _; omega), rfl⟩
  case round =>
    obtain ⟨k, p, hk, rfl, rfl, hb, HP⟩ := hrel
    have HB : Hid (Buf w wr u1 p.1 (2097152 + k * 4194304)) := hb
    clear hb hb1 hb2
    have hbel := HB.out.below
    have dp1 : wr.cell? ⟨pb, 1, none⟩ = some (.slice bf nf cf) := (hbel.cell (p := ⟨pb, 1, none⟩) (cell_lt p1)).trans p1
    have dp2 : wr.cell? ⟨pb, 2, none⟩ = some (.slice bw nf cw) := (hbel.cell (p := ⟨pb, 2, none⟩) (cell_lt p2)).trans p2
    by_cases hlt : k < 2
    · have s0 := HS.out k hlt
      obtain ⟨b1, o1, hA, hc1⟩ := (hs.below hbel) (by omega)
      cases hA
      have dS := hc1 k hlt
      rw [Nat.zero_add] at dS
      clear hc1 hbel
      by_cases hneg : S k < 0
      · have HE : Hid (skipB S z k = true) := by show skipB S z k = true; simp [skipB, hneg]
        go_wp2
        go_roundw
        case rel => exact ⟨k + 1, p, by omega, by go_num, rfl, HB.out.mono (by omega), by show p = _; rw [Fst_skip HE.out]; exact HP.out⟩
        case measure => simp [intOf]; omega
      · obtain ⟨m, hm⟩ : ∃ m : Nat, S k = (m : Int) := Int.eq_ofNat_of_zero_le (by omega)
        have hmn : m < nf := by omega
        have hneg' : decide ((m : Int) < 0) = false := by simp
        have z0 := HZ.out m hmn
        obtain ⟨bF, oF, hA, hcF⟩ := (hf.below HB.out.below) (by omega)
        cases hA
        have dF := hcF m hmn
        obtain ⟨bW, oW, hA, hcW⟩ := (hw.below HB.out.below) (by omega)
        cases hA
        clear hcF
        by_cases hzn : z m < 0
        · have HE : Hid (skipB S z k = true) := by show skipB S z k = true; simp [skipB, hm, hzn]
          go_wp2
          go_roundw
          case rel => exact ⟨k + 1, p, by omega, by go_num, rfl, HB.out.mono (by omega), by show p = _; rw [Fst_skip HE.out]; exact HP.out⟩
          case measure => simp [intOf]; omega
        · obtain ⟨f, hzf⟩ : ∃ f : Nat, z m = (f : Int) := Int.eq_ofNat_of_zero_le (by omega)
          have hfn : f < nv := by omega
          have hzn' : decide ((f : Int) < 0) = false := by simp
          have HC : Hid (Sl wr (some ⟨sb, 0, none⟩) k (fun i => .int .i64 (S i))) := fun h => ⟨sb, 0, rfl, fun i hi => by
            obtain ⟨b1, o1, hA, hc1⟩ := (hs.below HB.out.below) (by omega)
            cases hA
            exact hc1 i (by omega)⟩
          obtain ⟨x, hx⟩ : ∃ x, x = hasI S k (S k) := ⟨_, rfl⟩
          have HX : Hid (x = hasI S k (S k)) := hx
          have hcall : Calls Try.prog 52 #[.slice (some ⟨sb, 0, none⟩) k 2, .int .i64 (m : Int)] wr fun e w' => e = .returned (.bool x) ∧ w' = wr := by
            rw [hx, hm]
            exact contains_any _ _ _ S _ _ HC.out (by omega)
          have HCC : Hid (Calls Try.prog 52 #[.slice (some ⟨sb, 0, none⟩) k 2, .int .i64 (m : Int)] wr fun e w' => e = .returned (.bool x) ∧ w' = wr) := hcall
          clear hx hcall
          cases x with
          | true =>
            have HE : Hid (skipB S z k = true) := by show skipB S z k = true; unfold skipB; rw [← HX.out]; simp
            go_wp2_with (go_at_call 52; refine HCC.out.mono ?_; rintro e w' ⟨rfl, rfl⟩)
            go_roundw
            case rel => exact ⟨k + 1, p, by omega, by go_num, rfl, HB.out.mono (by omega), by show p = _; rw [Fst_skip HE.out]; exact HP.out⟩
            case measure => simp [intOf]; omega
          | false =>
            have HE : Hid (skipB S z k = false) := by show skipB S z k = false; unfold skipB; rw [← HX.out, hm]; simp; omega
            have dW := hcW m hmn
            clear hcW
            have lW := HW.out m hmn
            have lL := HL.out f hfn
            have KW : Hid (∀ w', Below w.heap.size w w' → w'.cell? ⟨pb, 2, none⟩ = some (.slice (some ⟨bW, oW, none⟩) nf cw) ∧ w'.cell? ⟨bW, oW + m, none⟩ = some (.string (W m))) := fun w' hb => by
              obtain ⟨b1, o1, hA, hc1⟩ := (hw.below hb) (by omega)
              cases hA
              exact ⟨(hb.cell (p := ⟨pb, 2, none⟩) (cell_lt p2)).trans p2, hc1 m hmn⟩
            have KF : Hid (∀ w', Below w.heap.size w w' → w'.cell? ⟨pb, 1, none⟩ = some (.slice (some ⟨bF, oF, none⟩) nf cf) ∧ w'.cell? ⟨bF, oF + m, none⟩ = some (.int .i64 (f : Int))) := fun w' hb => by
              obtain ⟨b1, o1, hA, hc1⟩ := (hf.below hb) (by omega)
              cases hA
              exact ⟨(hb.cell (p := ⟨pb, 1, none⟩) (cell_lt p1)).trans p1, by rw [← hzf]; exact hc1 m hmn⟩
            obtain ⟨bV, oV, hA, hcV⟩ := hv (by omega)
            cases hA
            obtain ⟨Af, Lf, Cf, hA1, hA2, hA3⟩ : ∃ Af Lf Cf, A f = Af ∧ L f = Lf ∧ C f = Cf := ⟨_, _, _, rfl, rfl, rfl⟩
            have KV : Hid (∀ w', Below w.heap.size w w' → w'.cell? ⟨bV, oV + f, none⟩ = some (.slice Af Lf Cf)) := fun w' hb => by
              obtain ⟨b1, o1, hA, hc1⟩ := (hv.below hb) (by omega)
              cases hA
              rw [← hA1, ← hA2, ← hA3]
              exact hc1 f hfn
            have KB : Hid (Bytes w Af Lf (V f)) := by show Bytes w Af Lf (V f); rw [← hA1, ← hA2]; exact HV.out f hfn
            rw [hA2] at lL
            clear hA1 hA2 hA3
            have sz := sepB_size p.2
            have SZ : Hid ((sepB p.2).size = 2) := sz
            clear sz hcV
            go_wp2_with (first | (go_at_call 52; refine HCC.out.mono ?_; rintro e w' ⟨rfl, rfl⟩) | (at_builtin; refine HB.out.wp_str rfl (.tmp 47) (.tmp 48) rfl rfl (sepB p.2) rfl (by rw [SZ.out]; omega) ?_; intro v1 w1 hb1; have e1 := (KW.out w1 hb1.below).1; have e2 := (KW.out w1 hb1.below).2) | (at_builtin; refine hb1.wp_str rfl (.tmp 50) (.tmp 57) rfl rfl (W m) rfl (by rw [SZ.out]; omega) ?_; intro v2 w2 hb2) | (at_builtin; refine hb2.wp_str rfl (.tmp 59) _ rfl rfl ⟨#[32, 105, 115, 32, 34]⟩ rfl (by rw [SZ.out]; show _ + 5 ≤ _; omega) ?_; intro v3 w3 hb3; have e3 := (KF.out w3 hb3.below).1; have e4 := (KF.out w3 hb3.below).2; have e5 := KV.out w3 hb3.below))
            obtain ⟨acc, hacc⟩ : ∃ acc, acc = p.1 ++ (sepB p.2).data.toList ++ (W m).data.toList ++ (⟨#[32, 105, 115, 32, 34]⟩ : ByteArray).data.toList := ⟨_, rfl⟩
            rw [← hacc] at hb3
            have HACC : Hid (acc = p.1 ++ (sepB p.2).data.toList ++ (W m).data.toList ++ (⟨#[32, 105, 115, 32, 34]⟩ : ByteArray).data.toList) := hacc
            have HB3 : Hid (Buf w w3 v3 acc (2097152 + k * 4194304 + 1048583)) := hb3.mono (by rw [SZ.out]; show _ + 5 ≤ _; omega)
            clear hacc hb3 hb2 hb1 e1 e2 e3 e4 e5 KW KF KV dp1 dp2 dS dF dW HCC HC
            go_loopw [1, 72] (fun d i wr => ∃ (j : Nat), j ≤ Lf ∧ i = .int .i64 j ∧ Buf w wr d (acc ++ esc ((V f).take j)) (2097152 + k * 4194304 + 1048583 + 2 * j)) (fun _ i _ => Lf - (intOf i).toNat)
            case atStart => exact ⟨0, Nat.zero_le _, rfl, by simpa [esc] using HB3.out⟩
            case round =>
              obtain ⟨j, hj, rfl, hbj⟩ := hrel
              have HBJ : Hid (Buf w wr u1 (acc ++ esc ((V f).take j)) (2097152 + k * 4194304 + 1048583 + 2 * j)) := hbj
              clear hbj
              by_cases hjl : j < Lf
              · obtain ⟨b2, o2, rfl, hc2⟩ := (KB.out.below HBJ.out.below).2 (by omega)
                have dc : wr.cell? ⟨b2, o2 + j, none⟩ = some (.int .u8 (byteAt (V f) j)) := hc2 j hjl
                have bd := byteAt_bd (V f) j
                clear hc2
                have HT := esc_take (V f) j (by have := KB.out.1; omega)
                have HTT : Hid (esc ((V f).take (j + 1)) = esc ((V f).take j) ++ escOne ((V f).getD j 0)) := HT
                clear HT
                obtain ⟨c, hcv⟩ : ∃ c, c = (V f).getD j 0 := ⟨_, rfl⟩
                obtain ⟨q, hq⟩ : ∃ q, q = byteAt (V f) j := ⟨_, rfl⟩
                have hqc : q = (c.toNat : Int) := by rw [hq, hcv]; rfl
                rw [← hq] at dc bd
                rw [← hcv] at HTT
                have HQC : Hid (q = (c.toNat : Int)) := hqc
                clear hq hcv hqc
                by_cases hsp : q = 34 ∨ q = 92
                · have HSP : Hid (escOne c = [92, c]) := by
                    show escOne c = [92, c]
                    have : special c = true := by
                      unfold special
                      have h := HQC.out
                      rcases hsp with h1 | h1
                      · have : c = 34 := UInt8.toNat_inj.1 (by show c.toNat = 34; omega)
                        simp [this]
                      · have : c = 92 := UInt8.toNat_inj.1 (by show c.toNat = 92; omega)
                        simp [this]
                    simp [escOne, this]
                  rcases (show ((q == 34) = true) ∨ ((q == 34) = false ∧ (q == 92) = true) from by
                    rcases hsp with h1 | h1
                    · exact .inl (by simp [h1])
                    · exact .inr (by simp [h1])) with t1 | ⟨t1, t2⟩
                  all_goals
                    clear hsp
                    go_wp2_with (first | (at_builtin; refine HBJ.out.wp_byte 92 92 rfl rfl (.tmp 82) (.tmp 83) rfl rfl rfl (by omega) ?_; intro v4 w4 hb4) | (at_builtin; refine hb4.wp_byte c q HQC.out rfl (.tmp 85) (.tmp 87) rfl rfl rfl (by omega) ?_; intro v5 w5 hb5))
                    go_roundw
                    case rel => exact ⟨j + 1, by omega, by go_num, by rw [HTT.out, HSP.out]; simpa using hb5.mono (by omega)⟩
                    case measure => simp [intOf]; omega
                · have HSP : Hid (escOne c = [c]) := by
                    show escOne c = [c]
                    have : special c = false := by
                      unfold special
                      have h := HQC.out
                      rw [Bool.or_eq_false_iff]
                      refine ⟨beq_eq_false_iff_ne.2 fun he => hsp (.inl ?_), beq_eq_false_iff_ne.2 fun he => hsp (.inr ?_)⟩
                      · rw [h, he]; rfl
                      · rw [h, he]; rfl
                    simp [escOne, this]
                  have t1 : (q == 34) = false := beq_eq_false_iff_ne.2 fun he => hsp (.inl he)
                  have t2 : (q == 92) = false := beq_eq_false_iff_ne.2 fun he => hsp (.inr he)
                  clear hsp
                  go_wp2_with (at_builtin; refine HBJ.out.wp_byte c q HQC.out rfl (.tmp 85) (.tmp 87) rfl rfl rfl (by omega) ?_; intro v5 w5 hb5)
                  go_roundw
                  case rel => exact ⟨j + 1, by omega, by go_num, by rw [HTT.out, HSP.out]; simpa using hb5.mono (by omega)⟩
                  case measure => simp [intOf]; omega
              · have HJL : Hid ((V f).take j = V f) := by
                  show (V f).take j = V f
                  have := KB.out.1
                  exact List.take_of_length_le (by omega)
                have HBE : Hid (Buf w wr u1 (acc ++ esc (V f)) (2097152 + k * 4194304 + 1048583 + 2 * j)) := by
                  have := HBJ.out
                  rw [HJL.out] at this
                  exact this
                clear HBJ
                go_wp2_with (at_builtin; refine HBE.out.wp_byte 34 34 rfl rfl (.tmp 90) (.tmp 91) rfl rfl rfl (by omega) ?_; intro v6 w6 hb6)
                go_roundw
                case rel =>
                  refine ⟨k + 1, _, by omega, by go_num, ?_, ?_, rfl⟩
                  · rw [Fst_take HE.out]; rfl
                  · rw [Fst_take HE.out]
                    have h := hb6.mono (M := 2097152 + (k + 1) * 4194304) (by omega)
                    rw [HACC.out] at h
                    have e : seg (sepB (Fst text.data.toList S z W V k).2).data.toList (W (S k).toNat).data.toList (V (z (S k).toNat).toNat) = (sepB p.2).data.toList ++ (W m).data.toList ++ (⟨#[32, 105, 115, 32, 34]⟩ : ByteArray).data.toList ++ esc (V f) ++ [34] := by
                      rw [← HP.out, hm, Int.toNat_natCast, hzf, Int.toNat_natCast]
                      rfl
                    show Buf w w6 v6 ((Fst text.data.toList S z W V k).1 ++ seg _ _ _) _
                    rw [e, ← HP.out]
                    simpa [List.append_assoc] using h
                case measure => simp [intOf]; omega
    · have hk2 : k = 2 := by omega
      subst hk2
      go_wp2
      go_ret
      exact ⟨_, rfl, by rw [← HP.out]; exact HB.out.mono (by omega)⟩
end Go.Proofs.Qxb6616563a
