import Derived.Test.Qxb6616786aFmtPre
namespace Go.Proofs.Qxb6616786aFmt
open Go.RowKit Go.WideMaps Go.Maps Go.Extern.Stop Go.Stop Go.Extern

theorem tape_of {F : Interp} {B : Nat} {w w' : World} (h : F.answers w.tape) (hb : Below B w w') : F.answers w'.tape := by rw [hb.tape]; exact h

set_option maxRecDepth 100000 in
set_option maxHeartbeats 8000000 in
theorem main3A (F : Interp) (a : Option Addr) (n c p q : Nat) (L : LkF) (t : St) (f : Nat) (w : World) (hF : F.answers w.tape) (hi : Ins w a n L) (hn : n ≤ 4096) (hpq : n = p + q) (hL : ∀ i, (L i).1.size ≤ maxLen ∧ (L i).2.size ≤ maxLen) (hsm : Small n L)
    (hw : Whole L n t true f) (h2 : replay s0 (lsOf L p) = (t, true)) :
    Calls Tryf.prog 3 #[.slice a n c, .int .i64 p] w fun e w' => e = .returned (.bool true) ∧ Below w.heap.size w w' := by
  have HI := hid hi
  have HF := hid hF
  have HL := hid hL
  have HWH := hid hw
  have HE2 := hid h2
  have C5 := hid (zz5 a n c L p w hi (by omega) hL)
  have C6 := hid (big6 a n c L w hi hn hsm)
  have hpn : (p : Int) ≤ (n : Int) := by omega
  have hpn' : decide ((n : Int) < (p : Int)) = false := by simp; omega
  have HPQ := hid hpq
  clear hi hF hL hw h2 hsm hpq
  go_enter Tryf.func3, Tryf.ntmps3
  go_wp2_with fail
  refine C5.out.mono ?_
  rintro e w0 ⟨⟨b5, rfl, _⟩, rfl⟩
  cases b5
  · go_wp2
    go_ret
    exact ⟨rfl, Below.refl _ _⟩
  go_wp2_with fail
  refine C6.out.mono ?_
  rintro e w0 ⟨⟨b6, rfl, _⟩, rfl⟩
  cases b6
  rotate_left
  · go_wp2
    go_ret
    exact ⟨rfl, Below.refl _ _⟩
  clear C5 C6
  go_wp2_with fail
  refine (new7 w).mono ?_
  rintro e W1 ⟨rb1, rfl, hr1, hb1⟩
  have HR1 := hid hr1
  have HB1 := hid hb1
  clear hr1 hb1
  go_wp2_with fail
  refine (puts9 a n c 0 n L W1 (HI.out.below HB1.out) (by have := HPQ.out; omega) hn _ (by simp)).mono ?_
  rintro e W2 ⟨rfl, hp2⟩
  have HP2 : Hid (Puts W2 rb1 (some ⟨W1.heap.size, 0, none⟩) n L) := by
    show Puts _ _ _ _ _
    have := hp2.puts HR1.out.lt
    simpa using this
  have HB2 := hid hp2.bel
  have HR2 := hid (HR1.out.below hp2.bel)
  clear hp2
  have HT2 := hid (HB1.out.trans (HB2.out.mono HB1.out.size))
  go_wp2_with fail
  refine (rep8 F _ n n L (tape_of HF.out HT2.out) HT2.out.size hn (by simp [s0]) HL.out HP2.out HR2.out).mono ?_
  rintro e W3 hrep
  obtain ⟨⟨v1, rfl⟩, hg⟩ := hrep.err HWH.out.run
  have HRW := hid hg
  have HT3 := hid (HT2.out.trans hrep.below)
  clear hrep hg HR1 HR2 HP2 HB1 HB2 HT2
  go_wp2_with fail
  refine (new7 W3).mono ?_
  rintro e W4 ⟨rb2, rfl, hr4, hb4⟩
  have HR4 := hid hr4
  have HB4 := hid hb4
  clear hr4 hb4
  have HT4 := hid (HT3.out.trans (HB4.out.mono HT3.out.size))
  go_wp2_with fail
  refine (puts9 a n c 0 p L W4 (HI.out.below HT4.out) (by have := HPQ.out; omega) hn _ (by simp)).mono ?_
  rintro e W5 ⟨rfl, hp5⟩
  have HP5 : Hid (Puts W5 rb2 (some ⟨W4.heap.size, 0, none⟩) p L) := by
    show Puts _ _ _ _ _
    have := hp5.puts HR4.out.lt
    simpa using this
  have HB5 : Hid (Below W3.heap.size W3 W5) := HB4.out.trans (hp5.bel.mono HB4.out.size)
  have HR5 := hid (HR4.out.below hp5.bel)
  clear hp5
  have HT5 := hid (HT3.out.trans (HB5.out.mono HT3.out.size))
  go_wp2_with fail
  refine (rep8 F _ p p L (tape_of HF.out HT5.out) HB5.out.size (by have := HPQ.out; omega) (by simp [s0]) HL.out HP5.out HR5.out).mono ?_
  rintro e W6 hrep
  obtain ⟨⟨v2, rfl⟩, hg⟩ := hrep.err HE2.out
  have HR6 := hid hg
  have HB6 : Hid (Below W3.heap.size W3 W6) := HB5.out.trans hrep.below
  clear hrep hg HR4 HR5 HP5 HB4 HB5 HT4 HT5
  have HT6 := hid (HT3.out.trans (HB6.out.mono HT3.out.size))
  have HRW2 := hid (HRW.out.below HB6.out)
  go_wp2_with fail
  refine (ref10 a n c L W6 (HI.out.below HT6.out) (by have := HPQ.out; omega)).mono ?_
  rw [HWH.out.at']
  rintro e W9 ⟨rfl, hq9⟩
  have HD9 := hid (below_drawn (Below.refl W6.heap.size W6) hq9)
  clear hq9
  have HT9 := hid (HT6.out.trans (HD9.out.mono HT6.out.size))
  have hfn : f < n := by have := HWH.out.dec; simpa using this
  have hfn' : decide (f < n) = true := by simpa using hfn
  go_wp2_with fail
  refine (state11 a n c f L (HI.out.below HT9.out) HWH.out.le hn HWH.out.sz HWH.out.inv (HRW2.out.below HD9.out)).mono ?_
  rintro e W10 ⟨rfl, hb10⟩
  have HB10 := hid hb10
  clear hb10
  have HT10 := hid (HT9.out.trans (HB10.out.mono HT9.out.size))
  go_wp2_with fail
  refine (state11 a n c f L (HI.out.below HT10.out) HWH.out.le hn HWH.out.sz HWH.out.inv ((HR6.out.below HD9.out).below HB10.out)).mono ?_
  rintro e W11 ⟨rfl, hb11⟩
  have HT11 := hid (HT10.out.trans (hb11.mono HT10.out.size))
  clear hb11
  go_wp2
  go_ret
  exact ⟨rfl, HT11.out⟩

set_option maxRecDepth 100000 in
set_option maxHeartbeats 8000000 in
theorem main3B (F : Interp) (a : Option Addr) (n c p q : Nat) (L : LkF) (t : St) (s2 : St) (f : Nat) (w : World) (hF : F.answers w.tape) (hi : Ins w a n L) (hn : n ≤ 4096) (hpq : n = p + q) (hL : ∀ i, (L i).1.size ≤ maxLen ∧ (L i).2.size ≤ maxLen) (hsm : Small n L)
    (hw : Whole L n t true f) (h2 : replay s0 (lsOf L p) = (s2, false)) (h3 : replay s2 (lsOf (fun i => L (p + i)) q) = (t, true)) (hs2 : s2.1.length ≤ 1048576) :
    Calls Tryf.prog 3 #[.slice a n c, .int .i64 p] w fun e w' => e = .returned (.bool true) ∧ Below w.heap.size w w' := by
  have HI := hid hi
  have HF := hid hF
  have HL := hid hL
  have HWH := hid hw
  have HE2 := hid h2
  have HE3 := hid h3
  have HS2 := hid hs2
  have C5 := hid (zz5 a n c L p w hi (by omega) hL)
  have C6 := hid (big6 a n c L w hi hn hsm)
  have hpn : (p : Int) ≤ (n : Int) := by omega
  have hpn' : decide ((n : Int) < (p : Int)) = false := by simp; omega
  have HPQ := hid hpq
  clear hi hF hL hw h2 hsm hpq h3 hs2
  go_enter Tryf.func3, Tryf.ntmps3
  go_wp2_with fail
  refine C5.out.mono ?_
  rintro e w0 ⟨⟨b5, rfl, _⟩, rfl⟩
  cases b5
  · go_wp2
    go_ret
    exact ⟨rfl, Below.refl _ _⟩
  go_wp2_with fail
  refine C6.out.mono ?_
  rintro e w0 ⟨⟨b6, rfl, _⟩, rfl⟩
  cases b6
  rotate_left
  · go_wp2
    go_ret
    exact ⟨rfl, Below.refl _ _⟩
  clear C5 C6
  go_wp2_with fail
  refine (new7 w).mono ?_
  rintro e W1 ⟨rb1, rfl, hr1, hb1⟩
  have HR1 := hid hr1
  have HB1 := hid hb1
  clear hr1 hb1
  go_wp2_with fail
  refine (puts9 a n c 0 n L W1 (HI.out.below HB1.out) (by have := HPQ.out; omega) hn _ (by simp)).mono ?_
  rintro e W2 ⟨rfl, hp2⟩
  have HP2 : Hid (Puts W2 rb1 (some ⟨W1.heap.size, 0, none⟩) n L) := by
    show Puts _ _ _ _ _
    have := hp2.puts HR1.out.lt
    simpa using this
  have HB2 := hid hp2.bel
  have HR2 := hid (HR1.out.below hp2.bel)
  clear hp2
  have HT2 := hid (HB1.out.trans (HB2.out.mono HB1.out.size))
  go_wp2_with fail
  refine (rep8 F _ n n L (tape_of HF.out HT2.out) HT2.out.size hn (by simp [s0]) HL.out HP2.out HR2.out).mono ?_
  rintro e W3 hrep
  obtain ⟨⟨v1, rfl⟩, hg⟩ := hrep.err HWH.out.run
  have HRW := hid hg
  have HT3 := hid (HT2.out.trans hrep.below)
  clear hrep hg HR1 HR2 HP2 HB1 HB2 HT2
  go_wp2_with fail
  refine (new7 W3).mono ?_
  rintro e W4 ⟨rb2, rfl, hr4, hb4⟩
  have HR4 := hid hr4
  have HB4 := hid hb4
  clear hr4 hb4
  have HT4 := hid (HT3.out.trans (HB4.out.mono HT3.out.size))
  go_wp2_with fail
  refine (puts9 a n c 0 p L W4 (HI.out.below HT4.out) (by have := HPQ.out; omega) hn _ (by simp)).mono ?_
  rintro e W5 ⟨rfl, hp5⟩
  have HP5 : Hid (Puts W5 rb2 (some ⟨W4.heap.size, 0, none⟩) p L) := by
    show Puts _ _ _ _ _
    have := hp5.puts HR4.out.lt
    simpa using this
  have HB5 : Hid (Below W3.heap.size W3 W5) := HB4.out.trans (hp5.bel.mono HB4.out.size)
  have HR5 := hid (HR4.out.below hp5.bel)
  clear hp5
  have HT5 := hid (HT3.out.trans (HB5.out.mono HT3.out.size))
  go_wp2_with fail
  refine (rep8 F _ p p L (tape_of HF.out HT5.out) HB5.out.size (by have := HPQ.out; omega) (by simp [s0]) HL.out HP5.out HR5.out).mono ?_
  rintro e W6 hrep
  obtain ⟨rfl, hg⟩ := hrep.ok HE2.out
  have HR6 := hid hg
  have HB6 : Hid (Below W3.heap.size W3 W6) := HB5.out.trans hrep.below
  clear hrep hg HR4 HR5 HP5 HB4 HB5 HT4 HT5
  have HT6 := hid (HT3.out.trans (HB6.out.mono HT3.out.size))
  go_wp2_with fail
  refine (puts9 a n c p q L W6 (HI.out.below HT6.out) (by have := HPQ.out; omega) hn _ (by have := HPQ.out; omega)).mono ?_
  rintro e W7 ⟨rfl, hp7⟩
  have HP7 := hid (hp7.puts HR6.out.lt)
  have HB7 : Hid (Below W3.heap.size W3 W7) := HB6.out.trans (hp7.bel.mono HB6.out.size)
  have HR7 := hid (HR6.out.below hp7.bel)
  clear hp7
  have HT7 := hid (HT3.out.trans (HB7.out.mono HT3.out.size))
  go_wp2_with fail
  refine (rep8 F _ q q (fun i => L (p + i)) (tape_of HF.out HT7.out) HB7.out.size (by have := HPQ.out; omega) HS2.out (fun i => HL.out (p + i)) HP7.out HR7.out).mono ?_
  rintro e W8 hrep
  obtain ⟨⟨v3, rfl⟩, hg⟩ := hrep.err HE3.out
  have HR8 := hid hg
  have HB8 : Hid (Below W3.heap.size W3 W8) := HB7.out.trans hrep.below
  clear hrep hg HR6 HR7 HP7 HB6 HB7 HT6 HT7
  have HT8 := hid (HT3.out.trans (HB8.out.mono HT3.out.size))
  have HRW2 := hid (HRW.out.below HB8.out)
  go_wp2_with fail
  refine (ref10 a n c L W8 (HI.out.below HT8.out) (by have := HPQ.out; omega)).mono ?_
  rw [HWH.out.at']
  rintro e W9 ⟨rfl, hq9⟩
  have HD9 := hid (below_drawn (Below.refl W8.heap.size W8) hq9)
  clear hq9
  have HT9 := hid (HT8.out.trans (HD9.out.mono HT8.out.size))
  have hfn : f < n := by have := HWH.out.dec; simpa using this
  have hfn' : decide (f < n) = true := by simpa using hfn
  go_wp2_with fail
  refine (state11 a n c f L (HI.out.below HT9.out) HWH.out.le hn HWH.out.sz HWH.out.inv (HRW2.out.below HD9.out)).mono ?_
  rintro e W10 ⟨rfl, hb10⟩
  have HB10 := hid hb10
  clear hb10
  have HT10 := hid (HT9.out.trans (HB10.out.mono HT9.out.size))
  go_wp2_with fail
  refine (state11 a n c f L (HI.out.below HT10.out) HWH.out.le hn HWH.out.sz HWH.out.inv ((HR8.out.below HD9.out).below HB10.out)).mono ?_
  rintro e W11 ⟨rfl, hb11⟩
  have HT11 := hid (HT10.out.trans (hb11.mono HT10.out.size))
  clear hb11
  go_wp2
  go_ret
  exact ⟨rfl, HT11.out⟩

set_option maxRecDepth 100000 in
set_option maxHeartbeats 8000000 in
theorem main3C (F : Interp) (a : Option Addr) (n c p q : Nat) (L : LkF) (t : St) (s2 : St) (f : Nat) (w : World) (hF : F.answers w.tape) (hi : Ins w a n L) (hn : n ≤ 4096) (hpq : n = p + q) (hL : ∀ i, (L i).1.size ≤ maxLen ∧ (L i).2.size ≤ maxLen) (hsm : Small n L)
    (hw : Whole L n t false f) (h2 : replay s0 (lsOf L p) = (s2, false)) (h3 : replay s2 (lsOf (fun i => L (p + i)) q) = (t, false)) (hs2 : s2.1.length ≤ 1048576) :
    Calls Tryf.prog 3 #[.slice a n c, .int .i64 p] w fun e w' => e = .returned (.bool true) ∧ Below w.heap.size w w' := by
  have HI := hid hi
  have HF := hid hF
  have HL := hid hL
  have HWH := hid hw
  have HE2 := hid h2
  have HE3 := hid h3
  have HS2 := hid hs2
  have C5 := hid (zz5 a n c L p w hi (by omega) hL)
  have C6 := hid (big6 a n c L w hi hn hsm)
  have hpn : (p : Int) ≤ (n : Int) := by omega
  have hpn' : decide ((n : Int) < (p : Int)) = false := by simp; omega
  have HPQ := hid hpq
  clear hi hF hL hw h2 hsm hpq h3 hs2
  go_enter Tryf.func3, Tryf.ntmps3
  go_wp2_with fail
  refine C5.out.mono ?_
  rintro e w0 ⟨⟨b5, rfl, _⟩, rfl⟩
  cases b5
  · go_wp2
    go_ret
    exact ⟨rfl, Below.refl _ _⟩
  go_wp2_with fail
  refine C6.out.mono ?_
  rintro e w0 ⟨⟨b6, rfl, _⟩, rfl⟩
  cases b6
  rotate_left
  · go_wp2
    go_ret
    exact ⟨rfl, Below.refl _ _⟩
  clear C5 C6
  go_wp2_with fail
  refine (new7 w).mono ?_
  rintro e W1 ⟨rb1, rfl, hr1, hb1⟩
  have HR1 := hid hr1
  have HB1 := hid hb1
  clear hr1 hb1
  go_wp2_with fail
  refine (puts9 a n c 0 n L W1 (HI.out.below HB1.out) (by have := HPQ.out; omega) hn _ (by simp)).mono ?_
  rintro e W2 ⟨rfl, hp2⟩
  have HP2 : Hid (Puts W2 rb1 (some ⟨W1.heap.size, 0, none⟩) n L) := by
    show Puts _ _ _ _ _
    have := hp2.puts HR1.out.lt
    simpa using this
  have HB2 := hid hp2.bel
  have HR2 := hid (HR1.out.below hp2.bel)
  clear hp2
  have HT2 := hid (HB1.out.trans (HB2.out.mono HB1.out.size))
  go_wp2_with fail
  refine (rep8 F _ n n L (tape_of HF.out HT2.out) HT2.out.size hn (by simp [s0]) HL.out HP2.out HR2.out).mono ?_
  rintro e W3 hrep
  obtain ⟨rfl, hg⟩ := hrep.ok HWH.out.run
  have HRW := hid hg
  have HT3 := hid (HT2.out.trans hrep.below)
  clear hrep hg HR1 HR2 HP2 HB1 HB2 HT2
  go_wp2_with fail
  refine (new7 W3).mono ?_
  rintro e W4 ⟨rb2, rfl, hr4, hb4⟩
  have HR4 := hid hr4
  have HB4 := hid hb4
  clear hr4 hb4
  have HT4 := hid (HT3.out.trans (HB4.out.mono HT3.out.size))
  go_wp2_with fail
  refine (puts9 a n c 0 p L W4 (HI.out.below HT4.out) (by have := HPQ.out; omega) hn _ (by simp)).mono ?_
  rintro e W5 ⟨rfl, hp5⟩
  have HP5 : Hid (Puts W5 rb2 (some ⟨W4.heap.size, 0, none⟩) p L) := by
    show Puts _ _ _ _ _
    have := hp5.puts HR4.out.lt
    simpa using this
  have HB5 : Hid (Below W3.heap.size W3 W5) := HB4.out.trans (hp5.bel.mono HB4.out.size)
  have HR5 := hid (HR4.out.below hp5.bel)
  clear hp5
  have HT5 := hid (HT3.out.trans (HB5.out.mono HT3.out.size))
  go_wp2_with fail
  refine (rep8 F _ p p L (tape_of HF.out HT5.out) HB5.out.size (by have := HPQ.out; omega) (by simp [s0]) HL.out HP5.out HR5.out).mono ?_
  rintro e W6 hrep
  obtain ⟨rfl, hg⟩ := hrep.ok HE2.out
  have HR6 := hid hg
  have HB6 : Hid (Below W3.heap.size W3 W6) := HB5.out.trans hrep.below
  clear hrep hg HR4 HR5 HP5 HB4 HB5 HT4 HT5
  have HT6 := hid (HT3.out.trans (HB6.out.mono HT3.out.size))
  go_wp2_with fail
  refine (puts9 a n c p q L W6 (HI.out.below HT6.out) (by have := HPQ.out; omega) hn _ (by have := HPQ.out; omega)).mono ?_
  rintro e W7 ⟨rfl, hp7⟩
  have HP7 := hid (hp7.puts HR6.out.lt)
  have HB7 : Hid (Below W3.heap.size W3 W7) := HB6.out.trans (hp7.bel.mono HB6.out.size)
  have HR7 := hid (HR6.out.below hp7.bel)
  clear hp7
  have HT7 := hid (HT3.out.trans (HB7.out.mono HT3.out.size))
  go_wp2_with fail
  refine (rep8 F _ q q (fun i => L (p + i)) (tape_of HF.out HT7.out) HB7.out.size (by have := HPQ.out; omega) HS2.out (fun i => HL.out (p + i)) HP7.out HR7.out).mono ?_
  rintro e W8 hrep
  obtain ⟨rfl, hg⟩ := hrep.ok HE3.out
  have HR8 := hid hg
  have HB8 : Hid (Below W3.heap.size W3 W8) := HB7.out.trans hrep.below
  clear hrep hg HR6 HR7 HP7 HB6 HB7 HT6 HT7
  have HT8 := hid (HT3.out.trans (HB8.out.mono HT3.out.size))
  have HRW2 := hid (HRW.out.below HB8.out)
  go_wp2_with fail
  refine (ref10 a n c L W8 (HI.out.below HT8.out) (by have := HPQ.out; omega)).mono ?_
  rw [HWH.out.at']
  rintro e W9 ⟨rfl, hq9⟩
  have HD9 := hid (below_drawn (Below.refl W8.heap.size W8) hq9)
  clear hq9
  have HT9 := hid (HT8.out.trans (HD9.out.mono HT8.out.size))
  have hfn : ¬ f < n := by have := HWH.out.dec; simpa using this
  have hfn' : decide (f < n) = false := by simpa using hfn
  go_wp2_with fail
  refine (state11 a n c f L (HI.out.below HT9.out) HWH.out.le hn HWH.out.sz HWH.out.inv (HRW2.out.below HD9.out)).mono ?_
  rintro e W10 ⟨rfl, hb10⟩
  have HB10 := hid hb10
  clear hb10
  have HT10 := hid (HT9.out.trans (HB10.out.mono HT9.out.size))
  go_wp2_with fail
  refine (state11 a n c f L (HI.out.below HT10.out) HWH.out.le hn HWH.out.sz HWH.out.inv ((HR8.out.below HD9.out).below HB10.out)).mono ?_
  rintro e W11 ⟨rfl, hb11⟩
  have HT11 := hid (HT10.out.trans (hb11.mono HT10.out.size))
  clear hb11
  go_wp2
  go_ret
  exact ⟨rfl, HT11.out⟩

set_option maxRecDepth 100000 in
set_option maxHeartbeats 2000000 in
theorem small3 (a : Option Addr) (n c : Nat) (L : LkF) (k : Int) (w : World) (hi : Ins w a n L) (hn : n ≤ 9223372036854775807) (hL : ∀ i, (L i).1.size ≤ maxLen ∧ (L i).2.size ≤ maxLen) (hsm : ¬ Small n L) :
    Calls Tryf.prog 3 #[.slice a n c, .int .i64 k] w fun e w' => e = .returned (.bool true) ∧ Below w.heap.size w w' := by
  have C5 := hid (zz5 a n c L k w hi hn hL)
  clear hi hL
  go_enter Tryf.func3, Tryf.ntmps3
  go_wp2_with fail
  refine C5.out.mono ?_
  rintro e w0 ⟨⟨b5, rfl, hb⟩, rfl⟩
  cases b5
  · go_wp2
    go_ret
    exact ⟨rfl, Below.refl _ _⟩
  · exact absurd (hb rfl) hsm
set_option maxRecDepth 100000 in
set_option maxHeartbeats 2000000 in
theorem long3 (a : Option Addr) (n c : Nat) (L : LkF) (k : Int) (w : World) (hi : Ins w a n L) (hn : n ≤ 9223372036854775807) (hL : ∀ i, (L i).1.size ≤ maxLen ∧ (L i).2.size ≤ maxLen) (h4 : ¬ n ≤ 4096) :
    Calls Tryf.prog 3 #[.slice a n c, .int .i64 k] w fun e w' => e = .returned (.bool true) ∧ Below w.heap.size w w' := by
  have C5 := hid (zz5 a n c L k w hi hn hL)
  clear hi hL
  go_enter Tryf.func3, Tryf.ntmps3
  go_wp2_with fail
  refine C5.out.mono ?_
  rintro e w0 ⟨⟨b5, rfl, _⟩, rfl⟩
  cases b5
  · go_wp2
    go_ret
    exact ⟨rfl, Below.refl _ _⟩
  · go_wp2
    go_ret
    exact ⟨rfl, Below.refl _ _⟩

set_option maxRecDepth 100000 in
set_option maxHeartbeats 2000000 in
theorem out3 (a : Option Addr) (n c : Nat) (L : LkF) (k : Int) (w : World) (hi : Ins w a n L) (hn : n ≤ 4096) (hL : ∀ i, (L i).1.size ≤ maxLen ∧ (L i).2.size ≤ maxLen) (hsm : Small n L) (hk : k < 0 ∨ (0 ≤ k ∧ (n : Int) < k)) :
    Calls Tryf.prog 3 #[.slice a n c, .int .i64 k] w fun e w' => e = .returned (.bool true) ∧ Below w.heap.size w w' := by
  have C5 := hid (zz5 a n c L k w hi (by omega) hL)
  have C6 := hid (big6 a n c L w hi hn hsm)
  clear hi hL hsm
  rcases hk with hk | ⟨hk0, hk⟩
  all_goals
    go_enter Tryf.func3, Tryf.ntmps3
    go_wp2_with fail
    refine C5.out.mono ?_
    rintro e w0 ⟨⟨b5, rfl, _⟩, rfl⟩
    cases b5
    · go_wp2
      go_ret
      exact ⟨rfl, Below.refl _ _⟩
    · go_wp2_with fail
      refine C6.out.mono ?_
      rintro e w0 ⟨⟨b6, rfl, _⟩, rfl⟩
      cases b6
      · go_wp2
        go_ret
        exact ⟨rfl, Below.refl _ _⟩
      · go_wp2
        go_ret
        exact ⟨rfl, Below.refl _ _⟩

theorem main3 (F : Interp) (a : Option Addr) (n c : Nat) (L : LkF) (k : Int) (w : World) (hF : F.answers w.tape) (hi : Ins w a n L) (hn : n ≤ 9223372036854775807) (hL : ∀ i, (L i).1.size ≤ maxLen ∧ (L i).2.size ≤ maxLen) :
    Calls Tryf.prog 3 #[.slice a n c, .int .i64 k] w fun e w' => e = .returned (.bool true) ∧ Below w.heap.size w w' := by
  by_cases hsm : Small n L
  rotate_left
  · exact small3 a n c L k w hi hn hL hsm
  by_cases h4 : n ≤ 4096
  rotate_left
  · exact long3 a n c L k w hi hn hL h4
  by_cases hk : 0 ≤ k ∧ k ≤ n
  rotate_left
  · exact out3 a n c L k w hi h4 hL hsm (by omega)
  obtain ⟨p, rfl⟩ := Int.eq_ofNat_of_zero_le hk.1
  obtain ⟨q, hq⟩ : ∃ q, n = p + q := ⟨n - p, by omega⟩
  obtain ⟨t, r, f, hw⟩ := whole_of hL n
  have hcut : replay s0 (lsOf L n) = if (replay s0 (lsOf L p)).2 then replay s0 (lsOf L p) else replay (replay s0 (lsOf L p)).1 (lsOf (fun i => L (p + i)) q) := by rw [hq, lsOf_cut, replay_app]
  cases h2 : (replay s0 (lsOf L p)).2 with
  | true =>
    rw [h2, if_pos rfl, hw.run] at hcut
    have hr : r = true := by rw [← h2, ← hcut]
    subst hr
    exact main3A F a n c p q L t f w hF hi h4 hq hL hsm hw hcut.symm
  | false =>
    rw [h2] at hcut
    simp only [Bool.false_eq_true, if_false] at hcut
    rw [hw.run] at hcut
    have hlen : (replay s0 (lsOf L p)).1.1.length ≤ 1048576 := by
      have := replay_len s0 (lsOf L p)
      rw [lsOf_len] at this
      have h0 : s0.1.length = 0 := rfl
      omega
    cases r with
    | true => exact main3B F a n c p q L t (replay s0 (lsOf L p)).1 f w hF hi h4 hq hL hsm hw (Prod.ext rfl h2) hcut.symm hlen
    | false => exact main3C F a n c p q L t (replay s0 (lsOf L p)).1 f w hF hi h4 hq hL hsm hw (Prod.ext rfl h2) hcut.symm hlen
end Go.Proofs.Qxb6616786aFmt
