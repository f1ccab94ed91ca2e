import Derived.Test.Qxb6616786aFmtPre
namespace Go.Proofs.Qxb6616786aFmt
open Go.RowKit Go.WideMaps Go.Maps Go.Extern.Stop Go.Stop Go.Extern

theorem tape_of {F : Interp} {B : Nat} {w w' : World} (h : F.answers w.tape) (hb : Below B w w') : F.answers w'.tape := by rw [hb.tape]; exact h

set_option maxRecDepth 100000 in
set_option maxHeartbeats 8000000 in
theorem main4T (F : Interp) (a : Option Addr) (n c : Nat) (L : LkF) (t : St) (f : Nat) (w : World) (hF : F.answers w.tape) (hi : Ins w a n L) (hn : n ≤ 4096) (hL : ∀ i, (L i).1.size ≤ maxLen ∧ (L i).2.size ≤ maxLen) (hsm : Small n L)
    (hw : Whole L n t true f) (h2 : replay t (lsOf L n) = (t, true)) (ht : t.1.length ≤ 1048576) :
    Calls Tryf.prog 4 #[.slice a n c] w fun e w' => e = .returned (.bool true) ∧ Below w.heap.size w w' := by
  have HI := hid hi
  have HF := hid hF
  have HL := hid hL
  have HWH := hid hw
  have HE2 := hid h2
  have HTL := hid ht
  have C5 := hid (zz12 a n c L w hi (by omega) hL)
  have C6 := hid (big6 a n c L w hi hn hsm)
  clear hi hF hL hw h2 hsm ht
  go_enter Tryf.func4, Tryf.ntmps4
  go_wp2_with fail
  refine C5.out.mono ?_
  rintro e w0 ⟨⟨b5, rfl, _⟩, rfl⟩
  cases b5
  · go_wp2
    go_ret
    exact ⟨rfl, Below.refl _ _⟩
  go_wp2_with fail
  refine C6.out.mono ?_
  rintro e w0 ⟨⟨b6, rfl, _⟩, rfl⟩
  cases b6
  rotate_left
  · go_wp2
    go_ret
    exact ⟨rfl, Below.refl _ _⟩
  clear C5 C6
  go_wp2_with fail
  refine (new7 w).mono ?_
  rintro e W1 ⟨rb1, rfl, hr1, hb1⟩
  have HR1 := hid hr1
  have HB1 := hid hb1
  clear hr1 hb1
  go_wp2_with fail
  refine (puts9 a n c 0 n L W1 (HI.out.below HB1.out) (by omega) hn _ (by simp)).mono ?_
  rintro e W2 ⟨rfl, hp2⟩
  have HP2 : Hid (Puts W2 rb1 (some ⟨W1.heap.size, 0, none⟩) n L) := by
    show Puts _ _ _ _ _
    have := hp2.puts HR1.out.lt
    simpa using this
  have HB2 := hid hp2.bel
  have HR2 := hid (HR1.out.below hp2.bel)
  clear hp2
  have HT2 := hid (HB1.out.trans (HB2.out.mono HB1.out.size))
  clear HR1 HB1 HB2
  go_wp2_with fail
  refine (ref10 a n c L W2 (HI.out.below HT2.out) (by omega)).mono ?_
  rw [HWH.out.at']
  rintro e W3 ⟨rfl, hq3⟩
  have HD3 := hid (below_drawn (Below.refl W2.heap.size W2) hq3)
  clear hq3
  have HT3 := hid (HT2.out.trans (HD3.out.mono HT2.out.size))
  have HP3 := hid (HP2.out.fr (Fr.of_below HD3.out))
  have HR3 := hid (HR2.out.below HD3.out)
  clear HP2 HR2 HD3 HT2
  have hfn : f < n := by have := HWH.out.dec; simpa using this
  have hfn' : decide (f < n) = true := by simpa using hfn
  go_wp2_with fail
  refine (rep8 F _ n n L (tape_of HF.out HT3.out) HT3.out.size hn (by simp [s0]) HL.out HP3.out HR3.out).mono ?_
  rintro e W4 hrep
  obtain ⟨⟨v1, rfl⟩, hg⟩ := hrep.err HWH.out.run
  have HR4 := hid hg
  have HT4 := hid (HT3.out.trans hrep.below)
  have HP4 := hid (HP3.out.fr hrep.fr)
  clear hrep hg HR3 HP3 HT3
  go_wp2_with fail
  refine (state11 a n c f L (HI.out.below HT4.out) HWH.out.le hn HWH.out.sz HWH.out.inv HR4.out).mono ?_
  rintro e W5 ⟨rfl, hb5⟩
  have HR5 := hid (HR4.out.below hb5)
  have HT5 := hid (HT4.out.trans (hb5.mono HT4.out.size))
  have HP5 := hid (HP4.out.fr (Fr.of_below hb5))
  clear hb5 HR4 HT4 HP4
  go_wp2_with fail
  refine (rep8 F _ n n L (tape_of HF.out HT5.out) HT5.out.size hn HTL.out HL.out HP5.out HR5.out).mono ?_
  rintro e W6 hrep
  obtain ⟨⟨v2, rfl⟩, hg⟩ := hrep.err HE2.out
  have HR6 := hid hg
  have HT6 := hid (HT5.out.trans hrep.below)
  clear hrep hg HR5 HP5 HT5
  go_wp2_with fail
  refine (state11 a n c f L (HI.out.below HT6.out) HWH.out.le hn HWH.out.sz HWH.out.inv HR6.out).mono ?_
  rintro e W7 ⟨rfl, hb7⟩
  have HT7 := hid (HT6.out.trans (hb7.mono HT6.out.size))
  clear hb7
  go_wp2
  go_ret
  exact ⟨rfl, HT7.out⟩

set_option maxRecDepth 100000 in
set_option maxHeartbeats 8000000 in
theorem main4F (F : Interp) (a : Option Addr) (n c : Nat) (L : LkF) (t : St) (f : Nat) (w : World) (hF : F.answers w.tape) (hi : Ins w a n L) (hn : n ≤ 4096) (hL : ∀ i, (L i).1.size ≤ maxLen ∧ (L i).2.size ≤ maxLen) (hsm : Small n L)
    (hw : Whole L n t false f) (h2 : replay t (lsOf L n) = (t, false)) (ht : t.1.length ≤ 1048576) :
    Calls Tryf.prog 4 #[.slice a n c] w fun e w' => e = .returned (.bool true) ∧ Below w.heap.size w w' := by
  have HI := hid hi
  have HF := hid hF
  have HL := hid hL
  have HWH := hid hw
  have HE2 := hid h2
  have HTL := hid ht
  have C5 := hid (zz12 a n c L w hi (by omega) hL)
  have C6 := hid (big6 a n c L w hi hn hsm)
  clear hi hF hL hw h2 hsm ht
  go_enter Tryf.func4, Tryf.ntmps4
  go_wp2_with fail
  refine C5.out.mono ?_
  rintro e w0 ⟨⟨b5, rfl, _⟩, rfl⟩
  cases b5
  · go_wp2
    go_ret
    exact ⟨rfl, Below.refl _ _⟩
  go_wp2_with fail
  refine C6.out.mono ?_
  rintro e w0 ⟨⟨b6, rfl, _⟩, rfl⟩
  cases b6
  rotate_left
  · go_wp2
    go_ret
    exact ⟨rfl, Below.refl _ _⟩
  clear C5 C6
  go_wp2_with fail
  refine (new7 w).mono ?_
  rintro e W1 ⟨rb1, rfl, hr1, hb1⟩
  have HR1 := hid hr1
  have HB1 := hid hb1
  clear hr1 hb1
  go_wp2_with fail
  refine (puts9 a n c 0 n L W1 (HI.out.below HB1.out) (by omega) hn _ (by simp)).mono ?_
  rintro e W2 ⟨rfl, hp2⟩
  have HP2 : Hid (Puts W2 rb1 (some ⟨W1.heap.size, 0, none⟩) n L) := by
    show Puts _ _ _ _ _
    have := hp2.puts HR1.out.lt
    simpa using this
  have HB2 := hid hp2.bel
  have HR2 := hid (HR1.out.below hp2.bel)
  clear hp2
  have HT2 := hid (HB1.out.trans (HB2.out.mono HB1.out.size))
  clear HR1 HB1 HB2
  go_wp2_with fail
  refine (ref10 a n c L W2 (HI.out.below HT2.out) (by omega)).mono ?_
  rw [HWH.out.at']
  rintro e W3 ⟨rfl, hq3⟩
  have HD3 := hid (below_drawn (Below.refl W2.heap.size W2) hq3)
  clear hq3
  have HT3 := hid (HT2.out.trans (HD3.out.mono HT2.out.size))
  have HP3 := hid (HP2.out.fr (Fr.of_below HD3.out))
  have HR3 := hid (HR2.out.below HD3.out)
  clear HP2 HR2 HD3 HT2
  have hfn : ¬ f < n := by have := HWH.out.dec; simpa using this
  have hfn' : decide (f < n) = false := by simpa using hfn
  go_wp2_with fail
  refine (rep8 F _ n n L (tape_of HF.out HT3.out) HT3.out.size hn (by simp [s0]) HL.out HP3.out HR3.out).mono ?_
  rintro e W4 hrep
  obtain ⟨rfl, hg⟩ := hrep.ok HWH.out.run
  have HR4 := hid hg
  have HT4 := hid (HT3.out.trans hrep.below)
  have HP4 := hid (HP3.out.fr hrep.fr)
  clear hrep hg HR3 HP3 HT3
  go_wp2_with fail
  refine (state11 a n c f L (HI.out.below HT4.out) HWH.out.le hn HWH.out.sz HWH.out.inv HR4.out).mono ?_
  rintro e W5 ⟨rfl, hb5⟩
  have HR5 := hid (HR4.out.below hb5)
  have HT5 := hid (HT4.out.trans (hb5.mono HT4.out.size))
  have HP5 := hid (HP4.out.fr (Fr.of_below hb5))
  clear hb5 HR4 HT4 HP4
  go_wp2_with fail
  refine (rep8 F _ n n L (tape_of HF.out HT5.out) HT5.out.size hn HTL.out HL.out HP5.out HR5.out).mono ?_
  rintro e W6 hrep
  obtain ⟨rfl, hg⟩ := hrep.ok HE2.out
  have HR6 := hid hg
  have HT6 := hid (HT5.out.trans hrep.below)
  clear hrep hg HR5 HP5 HT5
  go_wp2_with fail
  refine (state11 a n c f L (HI.out.below HT6.out) HWH.out.le hn HWH.out.sz HWH.out.inv HR6.out).mono ?_
  rintro e W7 ⟨rfl, hb7⟩
  have HT7 := hid (HT6.out.trans (hb7.mono HT6.out.size))
  clear hb7
  go_wp2
  go_ret
  exact ⟨rfl, HT7.out⟩

set_option maxRecDepth 100000 in
set_option maxHeartbeats 2000000 in
theorem small4 (a : Option Addr) (n c : Nat) (L : LkF) (w : World) (hi : Ins w a n L) (hn : n ≤ 9223372036854775807) (hL : ∀ i, (L i).1.size ≤ maxLen ∧ (L i).2.size ≤ maxLen) (hsm : ¬ Small n L) :
    Calls Tryf.prog 4 #[.slice a n c] w fun e w' => e = .returned (.bool true) ∧ Below w.heap.size w w' := by
  have C5 := hid (zz12 a n c L w hi hn hL)
  clear hi hL
  go_enter Tryf.func4, Tryf.ntmps4
  go_wp2_with fail
  refine C5.out.mono ?_
  rintro e w0 ⟨⟨b5, rfl, hb⟩, rfl⟩
  cases b5
  · go_wp2
    go_ret
    exact ⟨rfl, Below.refl _ _⟩
  · exact absurd (hb rfl) hsm
set_option maxRecDepth 100000 in
set_option maxHeartbeats 2000000 in
theorem long4 (a : Option Addr) (n c : Nat) (L : LkF) (w : World) (hi : Ins w a n L) (hn : n ≤ 9223372036854775807) (hL : ∀ i, (L i).1.size ≤ maxLen ∧ (L i).2.size ≤ maxLen) (h4 : ¬ n ≤ 4096) :
    Calls Tryf.prog 4 #[.slice a n c] w fun e w' => e = .returned (.bool true) ∧ Below w.heap.size w w' := by
  have C5 := hid (zz12 a n c L w hi hn hL)
  clear hi hL
  go_enter Tryf.func4, Tryf.ntmps4
  go_wp2_with fail
  refine C5.out.mono ?_
  rintro e w0 ⟨⟨b5, rfl, _⟩, rfl⟩
  cases b5
  · go_wp2
    go_ret
    exact ⟨rfl, Below.refl _ _⟩
  · go_wp2
    go_ret
    exact ⟨rfl, Below.refl _ _⟩

theorem main4 (F : Interp) (a : Option Addr) (n c : Nat) (L : LkF) (w : World) (hF : F.answers w.tape) (hi : Ins w a n L) (hn : n ≤ 9223372036854775807) (hL : ∀ i, (L i).1.size ≤ maxLen ∧ (L i).2.size ≤ maxLen) :
    Calls Tryf.prog 4 #[.slice a n c] w fun e w' => e = .returned (.bool true) ∧ Below w.heap.size w w' := by
  by_cases hsm : Small n L
  rotate_left
  · exact small4 a n c L w hi hn hL hsm
  by_cases h4 : n ≤ 4096
  rotate_left
  · exact long4 a n c L w hi hn hL h4
  obtain ⟨t, r, f, hw⟩ := whole_of hL n
  have htw := replay_twice (lsOf L n)
  have h2 : (replay s0 (lsOf L n)).2 = decide (refAt (lsOf L n) < (lsOf L n).length) := (replay_whole (lsOf L n)).2
  rw [← h2, hw.run] at htw
  have hlen : t.1.length ≤ 1048576 := by
    have := replay_len s0 (lsOf L n)
    rw [lsOf_len, hw.run] at this
    have h0 : s0.1.length = 0 := rfl
    have h1 : ((t, r) : St × Bool).1.1.length = t.1.length := rfl
    omega
  cases r with
  | true => exact main4T F a n c L t f w hF hi h4 hL hsm hw htw hlen
  | false => exact main4F F a n c L t f w hF hi h4 hL hsm hw htw hlen
end Go.Proofs.Qxb6616786aFmt
