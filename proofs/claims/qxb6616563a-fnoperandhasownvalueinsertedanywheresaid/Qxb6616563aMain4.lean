import Derived.Test.Qxb6616563aSt
import Derived.Deep.CutRange
namespace Go.Proofs.Qxb6616563a
open Go.RowKit

set_option maxRecDepth 100000 in
set_option maxHeartbeats 40000000 in
theorem main4 (h : HArgs) (p : Int) (w : World) (hi : HIn h w) :
    Calls Try.prog 4 #[.slice h.ak h.nk h.ck, .slice h.ta h.nt h.ct, .slice h.an h.nn h.cn, .slice h.af h.nf h.cf, .slice h.av h.nv h.cv, .int .u8 h.xk, .slice h.ax h.nx h.cx, .bool h.xn, .int .i64 h.xs, .int .i64 p] w fun e w' => e = .returned (.bool true) ∧ Below w.heap.size w w' := by
  have H19 := hide_of' (zz19_any h.xk h.xs p h.xn h.ak h.ta h.an h.af h.av h.ax h.nk h.nt h.nn h.nf h.nv h.nx h.ck h.ct h.cn h.cf h.cv h.cx h.T h.A h.S h.R h.L h.C w hi.t hi.v hi.bk hi.bt hi.bn hi.bf hi.bv (by have := hi.bx; omega) hi.bS hi.bL)
  have H20 := hide_of' (fits20_any h.xk h.xs h.ak h.ta h.an h.af h.av h.ax h.nk h.nt h.nn h.nf h.nv h.nx h.ck h.ct h.cn h.cf h.cv h.cx h.T h.A h.S h.R h.L h.C h.K h.z w hi.k hi.t hi.f hi.v hi.bk hi.bt hi.bn hi.bf hi.bv (by have := hi.bx; omega) hi.bS hi.bL)
  have HI := hide_of' hi
  clear hi
  obtain ⟨nk, hnk⟩ : ∃ n, n = h.nk := ⟨_, rfl⟩
  have HNK : Hid (nk = h.nk) := hnk
  clear hnk
  rw [← HNK.out] at H19 H20 ⊢
  obtain ⟨ak, hak⟩ : ∃ n, n = h.ak := ⟨_, rfl⟩
  have HAK : Hid (ak = h.ak) := hak
  obtain ⟨ta, hta⟩ : ∃ n, n = h.ta := ⟨_, rfl⟩
  have HTA : Hid (ta = h.ta) := hta
  obtain ⟨an, han⟩ : ∃ n, n = h.an := ⟨_, rfl⟩
  have HAN : Hid (an = h.an) := han
  obtain ⟨xn, hxn⟩ : ∃ n, n = h.xn := ⟨_, rfl⟩
  have HXN : Hid (xn = h.xn) := hxn
  rw [← hak, ← hta, ← han, ← hxn] at H19 ⊢
  rw [← hak, ← hta, ← han] at H20
  clear hak hta han hxn
  go_enter Try.func4, Try.ntmps4
  go_wp2_with fail
  refine H19.out.mono ?_
  rintro e w' ⟨⟨b, rfl, _⟩, hw⟩
  replace hw := hw.symm
  subst hw
  cases b
  · go_wp2
    go_ret
    exact ⟨rfl, Below.refl _ _⟩
  go_wp2_with fail
  refine H20.out.mono ?_
  rintro e w2 ⟨⟨b, rfl, hfit⟩, hw⟩
  replace hw := hw.symm
  subst hw
  cases b
  · go_wp2
    go_ret
    exact ⟨rfl, Below.refl _ _⟩
  have HF : Hid (HFit h) := by have := hfit rfl; rw [HNK.out] at this; exact this
  clear hfit H19 H20
  have hnt : h.nt = nk := by rw [HNK.out]; exact HF.out.t
  have hnn : h.nn = nk := by rw [HNK.out]; exact HF.out.n
  rw [hnt, hnn]
  clear hnt hnn
  by_cases h1 : 0 ≤ p
  rotate_left
  · go_wp2
    go_ret
    exact ⟨rfl, Below.refl _ _⟩
  by_cases h2 : p ≤ nk
  rotate_left
  · go_wp2
    go_ret
    exact ⟨rfl, Below.refl _ _⟩
  obtain ⟨p, rfl⟩ := Int.eq_ofNat_of_zero_le h1
  have hnk20 : nk ≤ 1048576 := by rw [HNK.out]; exact HF.out.k
  have hp1 : decide ((p : Int) < 0) = false := by simp
  have hp2 : decide ((nk : Int) < (p : Int)) = false := by simp; omega
  have hpn : p ≤ nk := by omega
  clear h1 h2
  go_wp2_with (go_at_call 21; refine (no21 _).mono ?_; rintro e W0 ⟨rfl, rfl⟩)
  go_loopw [21, 22] (fun ms i wr => ∃ (k : Nat) (es : List OpE) (v : Value), k ≤ nk ∧ v = ms ∧ i = .int .i64 k ∧ es.length = k ∧ OpsL w.heap.size w wr v es (memDs h k)) (fun _ i _ => nk - (intOf i).toNat)
  case atStart => exact ⟨0, [], _, Nat.zero_le _, rfl, rfl, rfl, OpsL.start w⟩
  case round =>
    obtain ⟨k, es, ms, hk, rfl, rfl, hel, ho⟩ := hrel
    have HEL : Hid (es.length = k) := hel
    have HO := hide_of' ho
    clear hel ho
    by_cases hlt : k < nk
    · have HLT : Hid (k < h.nk) := by show k < _; rw [← HNK.out]; exact hlt
      have HIR : Hid (HIn h wr) := HI.out.below HO.out.below
      have HSZ : Hid (w.heap.size ≤ wr.heap.size) := HO.out.below.size
      obtain ⟨kb, ko, hak, hkc⟩ := HIR.out.k (by have := HLT.out; omega)
      obtain ⟨tb, tof, hta, htc⟩ := HIR.out.t (by have := HLT.out; have := HF.out.t; omega)
      obtain ⟨nb, no, han, hnc⟩ := HIR.out.n (by have := HLT.out; have := HF.out.n; omega)
      have hkc' : wr.cell? ⟨kb, ko + k, none⟩ = some (.int .u8 (h.K k)) := hkc k HLT.out
      have htc' : wr.cell? ⟨tb, tof + k, none⟩ = some (.slice (h.T k) (h.S k) (h.R k)) := htc k (by have := HLT.out; have := HF.out.t; omega)
      have hnc' : wr.cell? ⟨nb, no + k, none⟩ = some (.bool (h.N k)) := hnc k (by have := HLT.out; have := HF.out.n; omega)
      clear hkc htc hnc
      rw [← HAK.out] at hak
      rw [← HTA.out] at hta
      rw [← HAN.out] at han
      subst hak hta han
      obtain ⟨kk, hkk⟩ : ∃ y, y = h.K k := ⟨_, rfl⟩
      rw [← hkk] at hkc'
      have HKK : Hid (kk = h.K k) := hkk
      obtain ⟨sk, hsk⟩ : ∃ y, y = h.S k := ⟨_, rfl⟩
      rw [← hsk] at htc'
      have HSK : Hid (sk = h.S k) := hsk
      obtain ⟨nn', hnn'⟩ : ∃ y, y = h.N k := ⟨_, rfl⟩
      rw [← hnn'] at hnc'
      have HNN : Hid (nn' = h.N k) := hnn'
      clear hkk hsk hnn'
      have DK : Hid (∀ W, Below wr.heap.size wr W → W.cell? ⟨kb, ko + k, none⟩ = some (.int .u8 kk)) := fun W hb => (hb.cell (p := ⟨kb, ko + k, none⟩) (cell_lt hkc')).trans hkc'
      have DN : Hid (∀ W, Below wr.heap.size wr W → W.cell? ⟨nb, no + k, none⟩ = some (.bool nn')) := fun W hb => (hb.cell (p := ⟨nb, no + k, none⟩) (cell_lt hnc')).trans hnc'
      have hsk20 : sk ≤ 1048576 := by rw [HSK.out]; exact HF.out.texts k (by have := HLT.out; have := HF.out.t; omega)
      have HBY : Hid (Bytes wr (h.T k) sk (h.M k)) := by show Bytes _ _ _ _; rw [HSK.out]; exact HIR.out.m k (by have := HLT.out; have := HF.out.t; omega)
      go_wp2_with fail
      refine (cloneBytes_new (h.T k) sk (h.R k) (h.M k) wr HBY.out (by omega)).mono ?_
      rintro e w1 ⟨⟨a', rfl, hb1, h36⟩, hbel⟩
      have HB1 := hide_of' hb1
      have H36 := hide_of' h36
      have HBL := hide_of' hbel
      clear hb1 h36 hbel hkc' htc' hnc'
      go_wp2_with fail
      refine (new23 w1).mono ?_
      rintro e W2 ⟨rfl, hW2⟩
      have HB2 : Hid (Below wr.heap.size wr W2) := by show Below _ _ _; rw [hW2]; exact below_alloc' HBL.out _
      have HB12 : Hid (Below w1.heap.size w1 W2) := by show Below _ _ _; rw [hW2]; exact below_alloc' (Below.refl _ _) _
      have HSP : Hid (NumSpot W2 w1.heap.size) := by show NumSpot _ _; rw [hW2]; exact spot_new w1
      have HRW : Hid (∃ f, W2.rowIs w1.heap.size 72 3 f) := by show ∃ _, _; rw [hW2]; exact row_new w1
      have HBT : Hid (Bytes W2 a' sk (h.M k)) := HB1.out.below HB12.out
      have HN36 : Hid (N36 W2 a' sk) := by
        show N36 _ _ _
        intro ad h1 h2
        obtain ⟨bb, oo, he, hcc⟩ := HB1.out.2 h2
        have hlt' := cell_lt (hcc 0 h2)
        rw [he] at h1
        cases h1
        rw [HB12.out.block _ hlt']
        exact H36.out _ he h2
      clear hW2 HB1 H36
      have dk2 := DK.out W2 HB2.out
      have dn2 := DN.out W2 HB2.out
      have hq : wr.heap.size ≤ w1.heap.size := HBL.out.size
      cases g1 : (kk == 0) with
      | false =>
        have g1' : (kk != 0) = true := by simp [bne, g1]
        have HNP : Hid (Stays (MemF ⟨kk, a', sk, sk, none, -1⟩ (memD h k)) W2) := by
          show Stays _ _
          have g2 : ¬ h.K k = 0 := by rw [← HKK.out]; simpa using g1
          rw [HKK.out, HSK.out]
          refine mem_new HF.out HI.out HLT.out (by rw [← HSK.out]; exact HBT.out) (by rw [← HSK.out]; exact HN36.out) (.inl ⟨rfl, ?_⟩)
          simp [memD, g2]
        have HB3 := HB2
        obtain ⟨W3, hW3⟩ : ∃ W, W = W2 := ⟨_, rfl⟩
        rw [← hW3] at HB3 HNP dk2 dn2 ⊢
        clear hW3 HB12 HSP HRW HBT HN36 HB2
        have dk3 := DK.out W3 HB3.out
        go_wp2_with (first
          | (go_at_call 13; refine (new13 _ _ _ _ _ _ _ _ _ _).mono ?_; rintro e W4 ⟨rfl, hW4⟩; have HO4 : Hid (OpsL w.heap.size w W4 ms es (memDs h k)) := (by show OpsL _ _ _ _ _ _; rw [hW4]; exact HO.out.after (below_alloc' HB3.out _)); have HNP4 : Hid (Stays (MemF ⟨kk, a', sk, sk, none, -1⟩ (memD h k)) W4) := (by show Stays _ _; rw [hW4]; exact HNP.out.on (Kp.of_below (below_alloc' (Below.refl _ _) _))); clear hW4)
          | (at_builtin; refine HO4.out.wp_app ⟨kk, a', sk, sk, none, -1⟩ (memD h k) HNP4.out HO4.out.below.size rfl (.tmp 105) (.tmp 113) rfl rfl rfl (by rw [HEL.out]; omega) ?_; intro ms' W5 ho kp hsz; have HO5 := hide_of' ho; clear ho kp hsz))
        go_roundw
        case rel => exact ⟨k + 1, es ++ [⟨kk, a', sk, sk, none, -1⟩], _, by omega, rfl, by go_num, by rw [List.length_append, HEL.out]; rfl, by rw [memDs_succ]; exact HO5.out⟩
        case measure => simp [intOf]; omega
      | true =>
        have g1' : (kk != 0) = false := by simp [bne, g1]
        have g0 : h.K k = 0 := by rw [← HKK.out]; simpa using g1
        have HG0 := hide_of' g0
        clear g0
        cases nn' with
        | false =>
          have HNP : Hid (Stays (MemF ⟨kk, a', sk, sk, none, -1⟩ (memD h k)) W2) := by
            show Stays _ _
            rw [HKK.out, HSK.out]
            refine mem_new HF.out HI.out HLT.out (by rw [← HSK.out]; exact HBT.out) (by rw [← HSK.out]; exact HN36.out) (.inl ⟨rfl, ?_⟩)
            simp [memD, ← HNN.out]
          have HB3 := HB2
          obtain ⟨W3, hW3⟩ : ∃ W, W = W2 := ⟨_, rfl⟩
          rw [← hW3] at HB3 HNP dk2 dn2 ⊢
          clear hW3 HB12 HSP HRW HBT HN36 HB2
          have dk3 := DK.out W3 HB3.out
          go_wp2_with (first
            | (go_at_call 13; refine (new13 _ _ _ _ _ _ _ _ _ _).mono ?_; rintro e W4 ⟨rfl, hW4⟩; have HO4 : Hid (OpsL w.heap.size w W4 ms es (memDs h k)) := (by show OpsL _ _ _ _ _ _; rw [hW4]; exact HO.out.after (below_alloc' HB3.out _)); have HNP4 : Hid (Stays (MemF ⟨kk, a', sk, sk, none, -1⟩ (memD h k)) W4) := (by show Stays _ _; rw [hW4]; exact HNP.out.on (Kp.of_below (below_alloc' (Below.refl _ _) _))); clear hW4)
            | (at_builtin; refine HO4.out.wp_app ⟨kk, a', sk, sk, none, -1⟩ (memD h k) HNP4.out HO4.out.below.size rfl (.tmp 105) (.tmp 113) rfl rfl rfl (by rw [HEL.out]; omega) ?_; intro ms' W5 ho kp hsz; have HO5 := hide_of' ho; clear ho kp hsz))
          go_roundw
          case rel => exact ⟨k + 1, es ++ [⟨kk, a', sk, sk, none, -1⟩], _, by omega, rfl, by go_num, by rw [List.length_append, HEL.out]; rfl, by rw [memDs_succ]; exact HO5.out⟩
          case measure => simp [intOf]; omega
        | true =>
          go_wp2_with fail
          refine (read24b w1.heap.size a' sk sk (h.M k) W2 HBT.out (Nat.le_refl _) (by omega) (by omega) HSP.out HRW.out).mono ?_
          rintro e W3 (⟨hnum, rfl, hW3⟩ | ⟨x, hnum, rfl, honly, hat⟩)
          · have HNP : Hid (Stays (MemF ⟨kk, a', sk, sk, none, -1⟩ (memD h k)) W3) := by
              show Stays _ _
              rw [HKK.out, HSK.out, hW3]
              refine mem_new HF.out HI.out HLT.out (by rw [← HSK.out]; exact HBT.out) (by rw [← HSK.out]; exact HN36.out) (.inl ⟨rfl, ?_⟩)
              simp [memD, hnum]
            have HB3 : Hid (Below wr.heap.size wr W3) := by show Below _ _ _; rw [hW3]; exact HB2.out
            clear hW3 HB12 HSP HRW HBT HN36 HB2 hnum dk2 dn2
            have dk3 := DK.out W3 HB3.out
            go_wp2_with (first
              | (go_at_call 13; refine (new13 _ _ _ _ _ _ _ _ _ _).mono ?_; rintro e W4 ⟨rfl, hW4⟩; have HO4 : Hid (OpsL w.heap.size w W4 ms es (memDs h k)) := (by show OpsL _ _ _ _ _ _; rw [hW4]; exact HO.out.after (below_alloc' HB3.out _)); have HNP4 : Hid (Stays (MemF ⟨kk, a', sk, sk, none, -1⟩ (memD h k)) W4) := (by show Stays _ _; rw [hW4]; exact HNP.out.on (Kp.of_below (below_alloc' (Below.refl _ _) _))); clear hW4)
              | (at_builtin; refine HO4.out.wp_app ⟨kk, a', sk, sk, none, -1⟩ (memD h k) HNP4.out HO4.out.below.size rfl (.tmp 105) (.tmp 113) rfl rfl rfl (by rw [HEL.out]; omega) ?_; intro ms' W5 ho kp hsz; have HO5 := hide_of' ho; clear ho kp hsz))
            go_roundw
            case rel => exact ⟨k + 1, es ++ [⟨kk, a', sk, sk, none, -1⟩], _, by omega, rfl, by go_num, by rw [List.length_append, HEL.out]; rfl, by rw [memDs_succ]; exact HO5.out⟩
            case measure => simp [intOf]; omega
          · have HB3 : Hid (Below wr.heap.size wr W3) := HB2.out.trans (honly.below hq)
            have HNP : Hid (Stays (MemF ⟨kk, a', sk, sk, some ⟨w1.heap.size, 0, none⟩, -1⟩ (memD h k)) W3) := by
              show Stays _ _
              have hoff := HBT.out.off_spot HSP.out
              have hb3 : Bytes W3 a' sk (h.M k) := cut_off HBT.out hoff honly
              have h363 : N36 W3 a' sk := by
                intro ad h1 h2
                rw [honly.block _ (hoff ad h1 h2)]
                exact HN36.out ad h1 h2
              rw [HSK.out] at hb3 h363 hat
              rw [HKK.out, HSK.out]
              refine mem_new HF.out HI.out HLT.out hb3 h363 (.inr ⟨_, x, rfl, ?_, hat⟩)
              simp [memD, HG0.out, ← HNN.out, hnum]
            clear HB12 HSP HRW HBT HN36 HB2 hnum dk2 dn2 honly hat
            have dk3 := DK.out W3 HB3.out
            go_wp2_with (first
              | (go_at_call 13; refine (new13 _ _ _ _ _ _ _ _ _ _).mono ?_; rintro e W4 ⟨rfl, hW4⟩; have HO4 : Hid (OpsL w.heap.size w W4 ms es (memDs h k)) := (by show OpsL _ _ _ _ _ _; rw [hW4]; exact HO.out.after (below_alloc' HB3.out _)); have HNP4 : Hid (Stays (MemF ⟨kk, a', sk, sk, some ⟨w1.heap.size, 0, none⟩, -1⟩ (memD h k)) W4) := (by show Stays _ _; rw [hW4]; exact HNP.out.on (Kp.of_below (below_alloc' (Below.refl _ _) _))); clear hW4)
              | (at_builtin; refine HO4.out.wp_app ⟨kk, a', sk, sk, some ⟨w1.heap.size, 0, none⟩, -1⟩ (memD h k) HNP4.out HO4.out.below.size rfl (.tmp 105) (.tmp 113) rfl rfl rfl (by rw [HEL.out]; omega) ?_; intro ms' W5 ho kp hsz; have HO5 := hide_of' ho; clear ho kp hsz))
            go_roundw
            case rel => exact ⟨k + 1, es ++ [⟨kk, a', sk, sk, some ⟨w1.heap.size, 0, none⟩, -1⟩], _, by omega, rfl, by go_num, by rw [List.length_append, HEL.out]; rfl, by rw [memDs_succ]; exact HO5.out⟩
            case measure => simp [intOf]; omega
    · have hkn : k = nk := by omega
      subst hkn
      obtain ⟨msa, msc, hms, hmsc, hmsl, hmsh⟩ := HO.out.shape
      rw [HEL.out] at hms
      subst hms
      clear hmsc hmsl hmsh hlt hk
      have HIR : Hid (HIn h wr) := HI.out.below HO.out.below
      go_upto_region 18 with (first
        | (go_at_call 22; refine (cloneBytes_new h.ax h.nx h.cx h.X wr HIR.out.x (by have := HF.out.x; omega)).mono ?_; rintro e w1 ⟨⟨a1, rfl, hb1, h36⟩, hbel⟩; have HB1 := hide_of' hb1; have HBL := hide_of' hbel; clear hb1 h36 hbel)
        | (go_at_call 23; refine (new23 w1).mono ?_; rintro e W2 ⟨rfl, hW2⟩; have HB12 : Hid (Below w1.heap.size w1 W2) := (by show Below _ _ _; rw [hW2]; exact below_alloc' (Below.refl _ _) _); have HSP : Hid (NumSpot W2 w1.heap.size) := (by show NumSpot _ _; rw [hW2]; exact spot_new w1); clear hW2))
      have HB2 : Hid (Below wr.heap.size wr W2) := HBL.out.trans (HB12.out.mono HBL.out.size)
      have HBT : Hid (Bytes W2 a1 h.nx h.X) := HB1.out.below HB12.out
      have HO2 : Hid (OpsL w.heap.size w W2 (.slice msa k msc) es (memDs h k)) := HO.out.after HB2.out
      have hq : wr.heap.size ≤ w1.heap.size := HBL.out.size
      have hnx20 := HF.out.x
      go_cut [133] from 133 to 133 (fun t wc => T18 h w wc (.slice msa k msc) es k a1 w1.heap.size t)
      case first =>
        by_cases g1 : 0 ≤ h.xs
        · go_wp2
          go_meet
          case rel => exact ⟨⟨true, rfl, HBT.out, fun h2 => absurd h2 (by omega)⟩, HO2.out⟩
        · have g1' : decide (0 ≤ h.xs) = false := by simp; omega
          cases g2 : (h.xk == 0) with
          | false =>
            have g2' : (h.xk != 0) = true := by simp [bne, g2]
            go_wp2
            go_meet
            case rel => exact ⟨⟨true, rfl, HBT.out, fun h2 => .inl ⟨rfl, by unfold xnum; rw [if_neg (by simp at g2; omega)]⟩⟩, HO2.out⟩
          | true =>
            have g2' : (h.xk != 0) = false := by simp [bne, g2]
            have HG : Hid (h.xk = 0) := by show _ = _; simpa using g2
            cases xn with
            | false =>
              go_wp2
              go_meet
              case rel => exact ⟨⟨true, rfl, HBT.out, fun h2 => .inl ⟨rfl, by unfold xnum; rw [if_neg (by rw [← HXN.out]; simp)]⟩⟩, HO2.out⟩
            | true =>
              go_wp2_with fail
              refine (read24 w1.heap.size a1 h.nx h.nx h.X W2 HBT.out (Nat.le_refl _) (by omega) (by omega) HSP.out).mono ?_
              rintro e W3 (⟨hnum, rfl, hW3⟩ | ⟨x, hnum, rfl, honly, hat⟩)
              · have HR : Hid (T18 h w W3 (.slice msa k msc) es k a1 w1.heap.size (.bool true)) := by
                  show T18 _ _ _ _ _ _ _ _ _
                  rw [hW3]
                  exact ⟨⟨true, rfl, HBT.out, fun h2 => .inl ⟨rfl, by unfold xnum; rw [if_pos ⟨HG.out, HXN.out.symm⟩]; exact hnum⟩⟩, HO2.out⟩
                clear hnum hW3
                go_wp2
                go_meet
                case rel => exact HR.out
              · have HR : Hid (T18 h w W3 (.slice msa k msc) es k a1 w1.heap.size (.bool false)) := by
                  show T18 _ _ _ _ _ _ _ _ _
                  exact ⟨⟨false, rfl, cut_off HBT.out (HBT.out.off_spot HSP.out) honly, fun h2 => .inr ⟨_, x, rfl, by unfold xnum; rw [if_pos ⟨HG.out, HXN.out.symm⟩]; exact hnum, hat⟩⟩, HO.out.after (HB2.out.trans (honly.below hq))⟩
                clear hnum honly hat
                go_wp2
                go_meet
                case rel => exact HR.out
      case rest =>
      obtain ⟨⟨b, rfl, hxn⟩, hoo⟩ := hcut
      have HXX := hide_of' hxn
      have HO3 := hide_of' hoo
      clear hxn hoo HO2 HBT HB2 HB12 HSP HBL HB1 hq HIR HO
      go_upto_if 133 with fail
      go_cut [26] from 133 to 133 (fun v wc => ∃ np, v = .pointer np ∧ XN h wc a1 np ∧ OpsL w.heap.size w wc (.slice msa k msc) es (memDs h k))
      case first =>
        cases b with
        | true =>
          go_wp2
          go_meet
          case rel => exact ⟨none, rfl, HXX.out, HO3.out⟩
        | false =>
          go_wp2
          go_meet
          case rel => exact ⟨_, rfl, HXX.out, HO3.out⟩
      case rest =>
      obtain ⟨np, rfl, hxn, hoo⟩ := hcut
      clear HXX HO3
      have HXX := hide_of' hxn
      have HO3 := hide_of' hoo
      clear hxn hoo
      go_upto_region 21 with (go_at_call 13; refine (new13 _ _ _ _ _ _ _ _ _ _).mono ?_; rintro e W4 ⟨rfl, hW4⟩; have HB4 : Hid (Below wc.heap.size wc W4) := (by show Below _ _ _; rw [hW4]; exact below_alloc' (Below.refl _ _) _); clear hW4)
      have HXC : Hid (∀ j, j < 4 → (W4.alloc (.cells #[.int .u8 h.xk, .slice a1 h.nx h.nx, .pointer np, .int .i64 h.xs, .slice none 0 0] 36)).cell? ⟨W4.heap.size, 0 + j, none⟩ = (cellsE (exOf h a1 np))[j]?) := by
        show ∀ _, _
        intro j hj
        rw [Nat.zero_add, World.cell?_alloc_new]
        simp [cellsE, exOf]
      generalize hWX : W4.alloc (.cells #[.int .u8 h.xk, .slice a1 h.nx h.nx, .pointer np, .int .i64 h.xs, .slice none 0 0] 36) = WX at HXC ⊢
      have HBX : Hid (Below wc.heap.size wc WX) := by show Below _ _ _; rw [← hWX]; exact below_alloc' HB4.out _
      have HLX : Hid (W4.heap.size < WX.heap.size) := by show _ < _; rw [← hWX, World.size_alloc]; omega
      obtain ⟨bx, hbx⟩ : ∃ n, n = W4.heap.size := ⟨_, rfl⟩
      rw [← hbx] at HXC HLX ⊢
      clear hWX hbx HB4
      have HOX : Hid (OpsL w.heap.size w WX (.slice msa k msc) es (memDs h k)) := HO3.out.after HBX.out
      have HXN2 : Hid (XN h WX a1 np) := HXX.out.below HBX.out
      have HIX : Hid (HIn h WX) := HI.out.below HOX.out.below
      clear HXX HO3 HBX
      have hmk := run_make_row' (P := Try.prog) 23 9 (.string ⟨#[]⟩) 16 Try.underlying23 Try.info9 rfl .i64 .i64 h.nf (by have := HF.out.f; omega) (by have := HF.out.f; omega)
      have C11 : Hid (∀ W, Below WX.heap.size WX W → Calls Try.prog 11 #[.slice h.af h.nf h.cf] W fun e w' => ∃ a' c', e = .returned (.slice a' h.nf c') ∧ Sl w' a' h.nf (fun i => .int .i64 (h.z i)) ∧ Below WX.heap.size WX w') := fun W hb => (cloneInts_any h.af h.nf h.cf h.z W (HIX.out.f.below hb) (by have := HF.out.f; omega)).mono fun e w' ⟨a', c', h1, h2, h3, _⟩ => ⟨a', c', h1, h2, below_step hb h3⟩
      go_cut [28] from 28 to 28 (fun v W => ∃ (pb : Nat) (bf : Option Addr) (cf : Nat), v = .pointer (some ⟨pb, 0, none⟩) ∧ St h (ctxOf h pb bf cf) w W (.slice msa k msc) es k bx)
      case first =>
        go_region_with (first
          | (go_at_call 11; refine (C11.out _ ?_).mono ?_; (repeat (first | exact Below.refl _ _ | refine Below.drew ?_ | refine below_alloc' ?_ _)); rintro e W11 ⟨bf, cf, rfl, hs11, hb11⟩; have HS11 := hide_of' hs11; have HB11 := hide_of' hb11; clear hs11 hb11)
          | (go_at_call 10; refine (new10b _ _ _ _ _ _ _).mono ?_; rintro e W10 ⟨pb, rfl, hp1, hb10⟩; have HP1 := hide_of' hp1; have HS10 := hide_of' (HS11.out.below (below_step (by repeat (first | exact Below.refl _ _ | refine Below.drew ?_ | refine below_alloc' ?_ _)) hb10)); have HB10 : Hid (Below WX.heap.size WX W10) := below_step (by repeat (first | exact HB11.out | refine Below.drew ?_ | refine below_alloc' ?_ _)) hb10; clear hp1 hb10))
        all_goals
          (try go_wp2)
          go_meet
          case rel => exact ⟨pb, bf, cf, rfl, HOX.out.after HB10.out, ctx_in (HIX.out.below HB10.out) HF.out HP1.out HS10.out, ⟨_, x_op (HIX.out.below HB10.out) HF.out (HXN2.out.below HB10.out) (fun j hj => (HB10.out.cell (p := ⟨bx, 0 + j, none⟩) HLX.out).trans (HXC.out j hj))⟩, HIX.out.below HB10.out⟩
      case rest =>
      obtain ⟨pb, bf, cf, rfl, hst⟩ := hcut
      have HST := hide_of' hst
      clear hst C11 hmk HXC HLX HOX HXN2 HIX
      go_upto_region 25 with (first
        | (go_at_call 25; refine (xdesc25 _ h.af h.av h.ax h.nf h.nv h.nx h.cf h.cv h.cx h.z h.A h.L h.C h.V h.xk h.X xn h.xs HST.out.inn.f HST.out.inn.v (fun i hj => ⟨(HST.out.inn.V i hj).1, HF.out.vals i hj⟩) HST.out.inn.x HF.out.x HF.out.f HF.out.v HF.out.hxs.2.1 HF.out.fields).mono ?_; rintro e W6 ⟨⟨va, vn, vc, val, isN, rfl, hxd⟩, hb6⟩; rw [HXN.out] at hxd; have HS6 : Hid (St h (ctxOf h pb bf cf) w (W6.alloc (.cells #[.int .u8 h.xk, .slice va vn vc, .bool isN] 53)) (.slice msa k msc) es k bx) := HST.out.after (below_alloc' hb6 _); have HVX := hide_of' (xdesc_val HS6.out.inn HF.out hxd); clear hxd hb6)
        | (go_at_call 22; refine (cloneBytes_new va vn vc (xval h) _ HVX.out.2.1 (by have := HVX.out.2.2; omega)).mono ?_; rintro e W7 ⟨⟨a2, rfl, hb1, h36⟩, hbel⟩; have HB7 := hide_of' hb1; have H367 := hide_of' h36; have HS7 := hide_of' (HS6.out.after hbel); clear hb1 h36 hbel)
        | (go_at_call 23; refine (new23 _).mono ?_; rintro e W8 ⟨rfl, hW8⟩; have HB78 : Hid (Below W7.heap.size W7 W8) := (by show Below _ _ _; rw [hW8]; exact below_alloc' (Below.refl _ _) _); have HSP : Hid (NumSpot W8 W7.heap.size) := (by show NumSpot _ _; rw [hW8]; exact spot_new W7); have HRW : Hid (∃ f, W8.rowIs W7.heap.size 72 3 f) := (by show ∃ _, _; rw [hW8]; exact row_new W7); clear hW8))
      have HBT : Hid (Bytes W8 a2 vn (xval h)) := HB7.out.below HB78.out
      have HN8 : Hid (N36 W8 a2 vn) := n36_below HB7.out H367.out HB78.out
      have HS8 := hide_of' (HS7.out.after HB78.out)
      have hvn := HVX.out.2.2
      clear HB7 H367 HS6
      go_cut [159] from 159 to 159 (fun t W => T25 h (ctxOf h pb bf cf) w W (.slice msa k msc) es k bx a2 vn W7.heap.size t)
      case first =>
        go_wp2_with fail
        refine (read24b W7.heap.size a2 vn vn (xval h) W8 HBT.out (Nat.le_refl _) (by omega) (by omega) HSP.out HRW.out).mono ?_
        rintro e W9 (⟨hnum, rfl, hW9⟩ | ⟨x, hnum, rfl, honly, hat⟩)
        · have HR : Hid (T25 h (ctxOf h pb bf cf) w W9 (.slice msa k msc) es k bx a2 vn W7.heap.size (.bool true)) := by
            show T25 _ _ _ _ _ _ _ _ _ _ _ _
            rw [hW9]
            exact ⟨⟨true, rfl, memf_new (by decide) (by decide) (by decide) hvn HBT.out HN8.out (.inl ⟨rfl, hnum⟩)⟩, HS8.out⟩
          clear hnum hW9
          go_wp2
          go_meet
          case rel => exact HR.out
        · have HR : Hid (T25 h (ctxOf h pb bf cf) w W9 (.slice msa k msc) es k bx a2 vn W7.heap.size (.bool false)) := by
            show T25 _ _ _ _ _ _ _ _ _ _ _ _
            have hoff := HBT.out.off_spot HSP.out
            refine ⟨⟨false, rfl, memf_new (by decide) (by decide) (by decide) hvn (cut_off HBT.out hoff honly) ?_ (.inr ⟨_, x, rfl, hnum, hat⟩)⟩, HS7.out.after (HB78.out.trans (honly.below (Nat.le_refl _)))⟩
            intro ad h1 h2
            rw [honly.block _ (hoff ad h1 h2)]
            exact HN8.out ad h1 h2
          clear hnum honly hat
          go_wp2
          go_meet
          case rel => exact HR.out
      case rest =>
      obtain ⟨⟨b9, rfl, hmm⟩, hst⟩ := hcut
      have HMM := hide_of' hmm
      have HS9 := hide_of' hst
      clear hmm hst HS8 HS7 HBT HN8 HB78 HSP HRW HST
      go_upto_if 159 with fail
      go_cut [31] from 159 to 159 (fun v W => ∃ np2, v = .pointer np2 ∧ Stays (MemF ⟨0, a2, vn, vn, np2, -1⟩ ⟨0, xval h, numOf (xval h)⟩) W ∧ St h (ctxOf h pb bf cf) w W (.slice msa k msc) es k bx)
      case first =>
        cases b9 with
        | true =>
          go_wp2
          go_meet
          case rel => exact ⟨none, rfl, HMM.out, HS9.out⟩
        | false =>
          go_wp2
          go_meet
          case rel => exact ⟨_, rfl, HMM.out, HS9.out⟩
      case rest =>
      obtain ⟨np2, rfl, hmm, hst⟩ := hcut
      clear HMM HS9
      have HMM := hide_of' hmm
      have HS9 := hide_of' hst
      clear hmm hst
      go_upto_if 163 with (go_at_call 13; refine (new13 _ _ _ _ _ _ _ _ _ _).mono ?_; rintro e W13 ⟨rfl, hW13⟩; have HB13 : Hid (Below wc.heap.size wc W13) := (by show Below _ _ _; rw [hW13]; exact below_alloc' (Below.refl _ _) _); clear hW13)
      have HS13 := hide_of' (HS9.out.after HB13.out)
      have HM13 := hide_of' (HMM.out.on (Kp.of_below HB13.out))
      clear HS9 HMM HB13
      go_cut [32] from 163 to 163 (fun v W => ∃ (eE : OpE) (bE : Nat), v = .pointer (some ⟨bE, 0, none⟩) ∧ EX h W bE eE ∧ St h (ctxOf h pb bf cf) w W (.slice msa k msc) es k bx)
      case first =>
        cases g1 : (h.xk == 0) with
        | true =>
          have HG : Hid (h.xk = 0) := by show _ = _; simpa using g1
          go_wp2_with (go_at_call 13; refine (new13 _ _ _ _ _ _ _ _ _ _).mono ?_; rintro e W14 ⟨rfl, rfl⟩)
          go_meet
          case rel => exact ⟨⟨0, a2, vn, vn, np2, -1⟩, _, rfl, (ex_new (by unfold exD; rw [if_pos HG.out]; exact HM13.out)).after (below_alloc' (Below.refl _ _) _), HS13.out.after (below_alloc' (below_alloc' (Below.refl _ _) _) _)⟩
        | false =>
          have HG : Hid (¬ h.xk = 0) := by show ¬ _; simpa using g1
          go_wp2
          go_meet
          case rel => exact ⟨⟨h.xk, none, 0, 0, none, -1⟩, _, rfl, ex_new (ex_zero W13 HF.out HI.out.xk0 HG.out), HS13.out.after (below_alloc' (Below.refl _ _) _)⟩
      case rest =>
      obtain ⟨eE, bE, rfl, hex, hst⟩ := hcut
      have HEX := hide_of' hex
      have HS14 := hide_of' hst
      clear hex hst HS13 HM13
      have HDL : Hid ((memDs h k).length = k) := memDs_len h k
      go_wp2_with (go_at_call 21; refine (no21 _).mono ?_; rintro e W0 ⟨rfl, rfl⟩)
      go_loopw [33, 34] (fun ins i wr => ∃ (j : Nat) (es' : List OpE) (v : Value), j ≤ p ∧ v = ins ∧ i = .int .i64 j ∧ es'.length = j ∧ OpsL wc.heap.size wc wr v es' ((memDs h k).take j)) (fun _ i _ => p - (intOf i).toNat)
      case atStart => exact ⟨0, [], _, Nat.zero_le _, rfl, rfl, rfl, OpsL.start _⟩
      case round =>
      obtain ⟨j, es', v, hj, rfl, rfl, hel', ho'⟩ := hrel
      have HEL1 := hide_of' hel'
      have HO1 := hide_of' ho'
      clear hel' ho'
      by_cases hlt : j < p
      · obtain ⟨e, hE⟩ := (HS14.out.after HO1.out.below).ms.elem j (by rw [HEL.out]; omega)
        obtain ⟨⟨g, rfl, c0, c1, c2, c3, c4⟩, hM⟩ := hE
        have HM := hide_of' hM
        clear hM
        go_wp2_with (at_builtin; refine HO1.out.wp_app e ((memDs h k).getD j dsc0) HM.out HO1.out.below.size rfl (.tmp 173) (.tmp 178) rfl rfl rfl (by rw [HEL1.out]; omega) ?_; intro v5 W5 ho kp hsz; have HO5 := hide_of' ho; clear ho kp hsz)
        go_roundw
        case rel => exact ⟨j + 1, es' ++ [e], _, by omega, rfl, by go_num, by rw [List.length_append, HEL1.out]; rfl, by rw [take_step _ _ (by rw [HDL.out]; omega)]; exact HO5.out⟩
        case measure => simp [intOf]; omega
      · have hjp : j = p := by omega
        subst hjp
        have HEXr := HEX.out.after HO1.out.below
        have x0 : wr.cell? ⟨bE, 0, none⟩ = some (.int .u8 eE.k) := HEXr.cells 0 (by decide)
        have x1 : wr.cell? ⟨bE, 1, none⟩ = some (.slice eE.ta eE.tn eE.tc) := HEXr.cells 1 (by decide)
        have x2 : wr.cell? ⟨bE, 2, none⟩ = some (.pointer eE.np) := HEXr.cells 2 (by decide)
        have x3 : wr.cell? ⟨bE, 3, none⟩ = some (.int .i64 eE.s) := HEXr.cells 3 (by decide)
        have x4 : wr.cell? ⟨bE, 4, none⟩ = some (.slice none 0 0) := HEXr.cells 4 (by decide)
        have HM := hide_of' HEXr.mem
        clear HEXr hlt hj
        go_wp2_with (at_builtin; refine HO1.out.wp_app eE (exD h) HM.out HO1.out.below.size rfl (.tmp 180) (.tmp 182) rfl rfl rfl (by rw [HEL1.out]; omega) ?_; intro v5 W5 ho kp hsz; have HO5 := hide_of' ho; clear ho kp hsz)
        have HEL5 : Hid ((es' ++ [eE]).length = j + 1) := by show _ = _; rw [List.length_append, HEL1.out]; rfl
        go_loopw [33, 35] (fun ins i wr => ∃ (m : Nat) (es' : List OpE) (v : Value), j ≤ m ∧ m ≤ k ∧ v = ins ∧ i = .int .i64 m ∧ es'.length = m + 1 ∧ OpsL wc.heap.size wc wr v es' ((memDs h k).take j ++ [exD h] ++ ((memDs h k).drop j).take (m - j))) (fun _ i _ => k - (intOf i).toNat)
        case atStart => exact ⟨j, _, _, Nat.le_refl _, hpn, rfl, rfl, HEL5.out, by rw [Nat.sub_self, List.take_zero, List.append_nil]; exact HO5.out⟩
        case round =>
        obtain ⟨m, es2, v2, hjm, hmk, rfl, rfl, hel2, ho2⟩ := hrel
        have HEL2 := hide_of' hel2
        have HO2 := hide_of' ho2
        clear hel2 ho2 x0 x1 x2 x3 x4 HM HEL5 HO5 HO1 HEL1
        by_cases hlt : m < k
        · obtain ⟨e, hE⟩ := (HS14.out.after HO2.out.below).ms.elem m (by rw [HEL.out]; omega)
          obtain ⟨⟨g, rfl, c0, c1, c2, c3, c4⟩, hM⟩ := hE
          have HM := hide_of' hM
          clear hM
          go_wp2_with (at_builtin; refine HO2.out.wp_app e ((memDs h k).getD m dsc0) HM.out HO2.out.below.size rfl (.tmp 191) (.tmp 196) rfl rfl rfl (by rw [HEL2.out]; omega) ?_; intro v5 W5 ho kp hsz; have HO5 := hide_of' ho; clear ho kp hsz)
          go_roundw
          case rel => exact ⟨m + 1, es2 ++ [e], _, by omega, by omega, rfl, by go_num, by rw [List.length_append, HEL2.out]; rfl, by rw [drop_step _ _ _ hjm (by rw [HDL.out]; omega), ← List.append_assoc]; exact HO5.out⟩
          case measure => simp [intOf]; omega
        · have hmk2 : m = k := by omega
          subst hmk2
          obtain ⟨ia, ic, hv2, hMI⟩ := HO2.out.mem_of (ctxOf h pb bf cf)
          rw [HEL2.out] at hv2 hMI
          subst hv2
          have HDI : Hid (((memDs h m).drop j).take (m - j) = (memDs h m).drop j) := by show _ = _; exact List.take_of_length_le (by rw [List.length_drop, HDL.out]; exact Nat.le_refl _)
          have HMI : Hid (Mem (ctxOf h pb bf cf) wr ia (m + 1) ((memDs h m).take j ++ [exD h] ++ (memDs h m).drop j)) := by show Mem _ _ _ _ _; rw [HDI.out] at hMI; exact hMI
          have HSI := hide_of' (HS14.out.after HO2.out.below)
          have HBI := hide_of' HO2.out.below
          obtain ⟨WI, hWI⟩ : ∃ W, W = wr := ⟨_, rfl⟩
          subst hWI
          clear hMI HDI HO2 HEL2 hlt hmk
          go_wp2_with (go_at_call 21; refine (no21 _).mono ?_; rintro e W0 ⟨rfl, rfl⟩)
          go_loopw [36, 37] (fun rv i wr => ∃ (q : Nat) (y : Int) (es' : List OpE) (v : Value), q ≤ m ∧ v = rv ∧ i = .int .i64 y ∧ y = (q : Int) - 1 ∧ es'.length = m - q ∧ OpsL WI.heap.size WI wr v es' ((memDs h m).drop q).reverse) (fun _ i _ => (intOf i + 1).toNat)
          case atStart => exact ⟨m, _, [], _, Nat.le_refl _, rfl, rfl, rfl, by simp, by rw [List.drop_of_length_le (by rw [HDL.out]; exact Nat.le_refl _)]; exact OpsL.start _⟩
          case round =>
          obtain ⟨q, y, es3, v3, hqm, rfl, rfl, hy, hel3, ho3⟩ := hrel
          have HEL3 := hide_of' hel3
          have HO3 := hide_of' ho3
          clear hel3 ho3
          cases q with
          | succ q =>
            have hyq : y = (q : Int) := by omega
            subst hyq
            clear hy
            obtain ⟨e, hE⟩ := (HSI.out.after HO3.out.below).ms.elem q (by rw [HEL.out]; omega)
            obtain ⟨⟨g, rfl, c0, c1, c2, c3, c4⟩, hM⟩ := hE
            have HM := hide_of' hM
            clear hM
            go_wp2_with (at_builtin; refine HO3.out.wp_app e ((memDs h m).getD q dsc0) HM.out HO3.out.below.size rfl (.tmp 206) (.tmp 211) rfl rfl rfl (by rw [HEL3.out]; omega) ?_; intro v5 W5 ho kp hsz; have HO5 := hide_of' ho; clear ho kp hsz)
            go_roundw
            case rel => exact ⟨q, _, es3 ++ [e], _, by omega, rfl, rfl, rfl, by rw [List.length_append, HEL3.out]; simp; omega, by rw [rev_step _ _ (by rw [HDL.out]; omega)]; exact HO5.out⟩
            case measure => simp [intOf]
          | zero =>
            have hym : y = -1 := by omega
            subst hym
            clear hy hqm
            obtain ⟨ra, rc, hv3, hMR⟩ := HO3.out.mem_of (ctxOf h pb bf cf)
            rw [HEL3.out, Nat.sub_zero] at hv3
            rw [HEL3.out, Nat.sub_zero, List.drop_zero] at hMR
            subst hv3
            have HMR := hide_of' hMR
            have HSF := hide_of' (HSI.out.after HO3.out.below)
            have HMF := hide_of' (HMI.out.below HO3.out.below)
            have HBF : Hid (Below w.heap.size w wr) := below_step (HS14.out.ms.below) (HBI.out.trans (HO3.out.below.mono HBI.out.size))
            obtain ⟨ma2, mc2, hv4, hMM⟩ := HSF.out.ms.mem_of (ctxOf h pb bf cf)
            rw [HEL.out] at hv4 hMM
            obtain ⟨hq1, hq2⟩ : msa = ma2 ∧ msc = mc2 := by
              simp only [Value.slice.injEq] at hv4
              exact ⟨hv4.1, hv4.2.2⟩
            subst hq1 hq2
            have HMM := hide_of' hMM
            have S4 := hide_of' (stage4 wr (.slice ia (m + 1) ic) (.slice ra m rc) (.slice msa m msc))
            clear hMR hMM hv4 HO3 HEL3 HMI HSI HBI HS14 HEX HEL
            go_wp2_with (go_at_call 13; refine (new13 _ _ _ _ _ _ _ _ _ _).mono ?_; rintro e W13 ⟨rfl, rfl⟩)
            generalize hWC : ((((((wr.alloc (.cells (opC (.slice ia (m + 1) ic)) 36)).alloc (.cells (opC (.slice ia (m + 1) ic)) 36)).alloc (.cells (opC (.slice ra m rc)) 36)).alloc (.cells (opC (.slice ra m rc)) 36)).alloc (.cells (opC (.slice msa m msc)) 36)).alloc (.cells (opC (.slice msa m msc)) 36)) = WC at S4 ⊢
            clear hWC
            obtain ⟨ex, va', vn', vc', hop⟩ := HSF.out.x
            have HOP := hide_of' hop
            clear hop
            refine (zzhas26 (ctxOf h pb bf cf) WC (wr.heap.size + 1) 0 bx 0 ia (m + 1) ic _ ex (xD h) va' vn' vc' (HSF.out.ctx.below S4.out.below) S4.out.c1 (HMF.out.below S4.out.below) (by omega) (HOP.out.below S4.out.below)).mono ?_
            rw [ins_any _ _ _ _ (own_law h)]
            rintro e X1 ⟨rfl, hX1⟩
            have HB1 := hide_of' (below_step S4.out.below hX1)
            have HC2 := hide_of' ((hX1.cell (p := ⟨wr.heap.size + 1 + 1 + 1, 0 + 4, none⟩) (cell_lt S4.out.c2)).trans S4.out.c2)
            have HC3 := hide_of' ((hX1.cell (p := ⟨wr.heap.size + 1 + 1 + 1 + 1 + 1, 0 + 4, none⟩) (cell_lt S4.out.c3)).trans S4.out.c3)
            clear hX1
            go_wp2_with fail
            refine (zzhas26 (ctxOf h pb bf cf) X1 (wr.heap.size + 1 + 1 + 1) 0 bx 0 ra m rc _ ex (xD h) va' vn' vc' (HSF.out.ctx.below HB1.out) HC2.out (HMR.out.below HB1.out) (by omega) (HOP.out.below HB1.out)).mono ?_
            rw [rev_any]
            rintro e X2 ⟨rfl, hX2⟩
            have HB2 := hide_of' (below_step HB1.out hX2)
            have HC4 := hide_of' ((hX2.cell (p := ⟨wr.heap.size + 1 + 1 + 1 + 1 + 1, 0 + 4, none⟩) (cell_lt HC3.out)).trans HC3.out)
            clear hX2
            go_wp2_with fail
            refine (zzhas26 (ctxOf h pb bf cf) X2 (wr.heap.size + 1 + 1 + 1 + 1 + 1) 0 bx 0 msa m msc _ ex (xD h) va' vn' vc' (HSF.out.ctx.below HB2.out) HC4.out (HMM.out.below HB2.out) (by omega) (HOP.out.below HB2.out)).mono ?_
            rintro e X3 ⟨rfl, hX3⟩
            have HB3 := hide_of' (below_step HB2.out hX3)
            clear hX3
            generalize (memDs h m).any (eqD · (xD h)) = bb
            cases bb
            · go_wp2
              go_ret
              exact ⟨rfl, below_step HBF.out HB3.out⟩
            · go_wp2
              go_ret
              exact ⟨rfl, below_step HBF.out HB3.out⟩
end Go.Proofs.Qxb6616563a
