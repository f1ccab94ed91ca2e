import Derived.Test.Qxb6616563aFits5
import Derived.Test.Qxb6616563aSt7
import Derived.Deep.CutRange
namespace Go.Proofs.Qxb6616563a
open Go.RowKit

set_option maxRecDepth 100000 in
set_option maxHeartbeats 40000000 in
theorem main7 (h : HArgs) (p : Int) (w : World) (hi : HIn h w) (hR : ∀ i, i < h.nt → h.S i ≤ h.R i ∧ h.R i ≤ 9223372036854775807) :
    Calls Try.prog 7 #[.slice h.ak h.nk h.ck, .slice h.ta h.nt h.ct, .slice h.an h.nn h.cn, .slice h.af h.nf h.cf, .slice h.av h.nv h.cv, .int .u8 h.xk, .slice h.ax h.nx h.cx, .bool h.xn, .int .i64 h.xs, .int .i64 p] w fun e w' => e = .returned (.bool true) ∧ Below w.heap.size w w' := by
  have H19 := hide_of' (zz33_any h.xk h.xs p h.xn h.ak h.ta h.an h.af h.av h.ax h.nk h.nt h.nn h.nf h.nv h.nx h.ck h.ct h.cn h.cf h.cv h.cx h.T h.A h.S h.R h.L h.C w hi.t hi.v hi.bk hi.bt hi.bn hi.bf hi.bv (by have := hi.bx; omega) hi.bS hi.bL)
  have H20 := hide_of' (fits20_any h.xk h.xs h.ak h.ta h.an h.af h.av h.ax h.nk h.nt h.nn h.nf h.nv h.nx h.ck h.ct h.cn h.cf h.cv h.cx h.T h.A h.S h.R h.L h.C h.K h.z w hi.k hi.t hi.f hi.v hi.bk hi.bt hi.bn hi.bf hi.bv (by have := hi.bx; omega) hi.bS hi.bL)
  have HI := hide_of' hi
  have HRR := hide_of' hR
  clear hi hR
  obtain ⟨nk, hnk⟩ : ∃ n, n = h.nk := ⟨_, rfl⟩
  have HNK : Hid (nk = h.nk) := hnk
  clear hnk
  rw [← HNK.out] at H19 H20 ⊢
  obtain ⟨ak, hak⟩ : ∃ n, n = h.ak := ⟨_, rfl⟩
  have HAK : Hid (ak = h.ak) := hak
  obtain ⟨ta, hta⟩ : ∃ n, n = h.ta := ⟨_, rfl⟩
  have HTA : Hid (ta = h.ta) := hta
  obtain ⟨an, han⟩ : ∃ n, n = h.an := ⟨_, rfl⟩
  have HAN : Hid (an = h.an) := han
  obtain ⟨xn, hxn⟩ : ∃ n, n = h.xn := ⟨_, rfl⟩
  have HXN : Hid (xn = h.xn) := hxn
  rw [← hak, ← hta, ← han, ← hxn] at H19 ⊢
  rw [← hak, ← hta, ← han] at H20
  clear hak hta han hxn
  go_enter Try.func7, Try.ntmps7
  go_wp2_with fail
  refine H19.out.mono ?_
  rintro e w' ⟨⟨b, rfl, _⟩, hw⟩
  replace hw := hw.symm
  subst hw
  cases b
  · go_wp2
    go_ret
    exact ⟨rfl, Below.refl _ _⟩
  go_wp2_with fail
  refine H20.out.mono ?_
  rintro e w2 ⟨⟨b, rfl, hfit⟩, hw⟩
  replace hw := hw.symm
  subst hw
  cases b
  · go_wp2
    go_ret
    exact ⟨rfl, Below.refl _ _⟩
  have HF : Hid (HFit h) := by have := hfit rfl; rw [HNK.out] at this; exact this
  clear hfit H19 H20
  have hnt : h.nt = nk := by rw [HNK.out]; exact HF.out.t
  have hnn : h.nn = nk := by rw [HNK.out]; exact HF.out.n
  rw [hnt, hnn]
  clear hnt hnn
  by_cases h1 : 0 ≤ p
  rotate_left
  · go_wp2
    go_ret
    exact ⟨rfl, Below.refl _ _⟩
  by_cases h2 : p ≤ nk
  rotate_left
  · go_wp2
    go_ret
    exact ⟨rfl, Below.refl _ _⟩
  obtain ⟨p, rfl⟩ := Int.eq_ofNat_of_zero_le h1
  have hnk20 : nk ≤ 1048576 := by rw [HNK.out]; exact HF.out.k
  have hp1 : decide ((p : Int) < 0) = false := by simp
  have hp2 : decide ((nk : Int) < (p : Int)) = false := by simp; omega
  have hpn : p ≤ nk := by omega
  clear h1 h2
  go_wp2_with (go_at_call 21; refine (no21 _).mono ?_; rintro e W0 ⟨rfl, rfl⟩)
  go_loopw [21, 22] (fun ms i wr => ∃ (k : Nat) (es : List OpE) (v : Value), k ≤ nk ∧ v = ms ∧ i = .int .i64 k ∧ es.length = k ∧ OpsL w.heap.size w wr v es (memDs h k)) (fun _ i _ => nk - (intOf i).toNat)
  case atStart => exact ⟨0, [], _, Nat.zero_le _, rfl, rfl, rfl, OpsL.start w⟩
  case round =>
    obtain ⟨k, es, ms, hk, rfl, rfl, hel, ho⟩ := hrel
    have HEL : Hid (es.length = k) := hel
    have HO := hide_of' ho
    clear hel ho
    by_cases hlt : k < nk
    · have HLT : Hid (k < h.nk) := by show k < _; rw [← HNK.out]; exact hlt
      have HIR : Hid (HIn h wr) := HI.out.below HO.out.below
      have HSZ : Hid (w.heap.size ≤ wr.heap.size) := HO.out.below.size
      obtain ⟨kb, ko, hak, hkc⟩ := HIR.out.k (by have := HLT.out; omega)
      obtain ⟨tb, tof, hta, htc⟩ := HIR.out.t (by have := HLT.out; have := HF.out.t; omega)
      obtain ⟨nb, no, han, hnc⟩ := HIR.out.n (by have := HLT.out; have := HF.out.n; omega)
      have hkc' : wr.cell? ⟨kb, ko + k, none⟩ = some (.int .u8 (h.K k)) := hkc k HLT.out
      have htc' : wr.cell? ⟨tb, tof + k, none⟩ = some (.slice (h.T k) (h.S k) (h.R k)) := htc k (by have := HLT.out; have := HF.out.t; omega)
      have hnc' : wr.cell? ⟨nb, no + k, none⟩ = some (.bool (h.N k)) := hnc k (by have := HLT.out; have := HF.out.n; omega)
      clear hkc htc hnc
      rw [← HAK.out] at hak
      rw [← HTA.out] at hta
      rw [← HAN.out] at han
      subst hak hta han
      obtain ⟨kk, hkk⟩ : ∃ y, y = h.K k := ⟨_, rfl⟩
      rw [← hkk] at hkc'
      have HKK : Hid (kk = h.K k) := hkk
      obtain ⟨sk, hsk⟩ : ∃ y, y = h.S k := ⟨_, rfl⟩
      rw [← hsk] at htc'
      have HSK : Hid (sk = h.S k) := hsk
      obtain ⟨nn', hnn'⟩ : ∃ y, y = h.N k := ⟨_, rfl⟩
      rw [← hnn'] at hnc'
      have HNN : Hid (nn' = h.N k) := hnn'
      clear hkk hsk hnn'
      have DK : Hid (∀ W, Below wr.heap.size wr W → W.cell? ⟨kb, ko + k, none⟩ = some (.int .u8 kk)) := fun W hb => (hb.cell (p := ⟨kb, ko + k, none⟩) (cell_lt hkc')).trans hkc'
      have DN : Hid (∀ W, Below wr.heap.size wr W → W.cell? ⟨nb, no + k, none⟩ = some (.bool nn')) := fun W hb => (hb.cell (p := ⟨nb, no + k, none⟩) (cell_lt hnc')).trans hnc'
      have hsk20 : sk ≤ 1048576 := by rw [HSK.out]; exact HF.out.texts k (by have := HLT.out; have := HF.out.t; omega)
      have HBY : Hid (Bytes wr (h.T k) sk (h.M k)) := by show Bytes _ _ _ _; rw [HSK.out]; exact HIR.out.m k (by have := HLT.out; have := HF.out.t; omega)
      go_wp2_with fail
      refine (cloneBytes_new (h.T k) sk (h.R k) (h.M k) wr HBY.out (by omega)).mono ?_
      rintro e w1 ⟨⟨a', rfl, hb1, h36⟩, hbel⟩
      have HB1 := hide_of' hb1
      have H36 := hide_of' h36
      have HBL := hide_of' hbel
      clear hb1 h36 hbel hkc' htc' hnc'
      go_wp2_with fail
      refine (new23 w1).mono ?_
      rintro e W2 ⟨rfl, hW2⟩
      have HB2 : Hid (Below wr.heap.size wr W2) := by show Below _ _ _; rw [hW2]; exact below_alloc' HBL.out _
      have HB12 : Hid (Below w1.heap.size w1 W2) := by show Below _ _ _; rw [hW2]; exact below_alloc' (Below.refl _ _) _
      have HSP : Hid (NumSpot W2 w1.heap.size) := by show NumSpot _ _; rw [hW2]; exact spot_new w1
      have HRW : Hid (∃ f, W2.rowIs w1.heap.size 72 3 f) := by show ∃ _, _; rw [hW2]; exact row_new w1
      have HBT : Hid (Bytes W2 a' sk (h.M k)) := HB1.out.below HB12.out
      have HN36 : Hid (N36 W2 a' sk) := by
        show N36 _ _ _
        intro ad h1 h2
        obtain ⟨bb, oo, he, hcc⟩ := HB1.out.2 h2
        have hlt' := cell_lt (hcc 0 h2)
        rw [he] at h1
        cases h1
        rw [HB12.out.block _ hlt']
        exact H36.out _ he h2
      clear hW2 HB1 H36
      have dk2 := DK.out W2 HB2.out
      have dn2 := DN.out W2 HB2.out
      have hq : wr.heap.size ≤ w1.heap.size := HBL.out.size
      cases g1 : (kk == 0) with
      | false =>
        have g1' : (kk != 0) = true := by simp [bne, g1]
        have HNP : Hid (Stays (MemF ⟨kk, a', sk, sk, none, -1⟩ (memD h k)) W2) := by
          show Stays _ _
          have g2 : ¬ h.K k = 0 := by rw [← HKK.out]; simpa using g1
          rw [HKK.out, HSK.out]
          refine mem_new HF.out HI.out HLT.out (by rw [← HSK.out]; exact HBT.out) (by rw [← HSK.out]; exact HN36.out) (.inl ⟨rfl, ?_⟩)
          simp [memD, g2]
        have HB3 := HB2
        obtain ⟨W3, hW3⟩ : ∃ W, W = W2 := ⟨_, rfl⟩
        rw [← hW3] at HB3 HNP dk2 dn2 ⊢
        clear hW3 HB12 HSP HRW HBT HN36 HB2
        have dk3 := DK.out W3 HB3.out
        go_wp2_with (first
          | (go_at_call 13; refine (new13 _ _ _ _ _ _ _ _ _ _).mono ?_; rintro e W4 ⟨rfl, hW4⟩; have HO4 : Hid (OpsL w.heap.size w W4 ms es (memDs h k)) := (by show OpsL _ _ _ _ _ _; rw [hW4]; exact HO.out.after (below_alloc' HB3.out _)); have HNP4 : Hid (Stays (MemF ⟨kk, a', sk, sk, none, -1⟩ (memD h k)) W4) := (by show Stays _ _; rw [hW4]; exact HNP.out.on (Kp.of_below (below_alloc' (Below.refl _ _) _))); clear hW4)
          | (at_builtin; refine HO4.out.wp_app ⟨kk, a', sk, sk, none, -1⟩ (memD h k) HNP4.out HO4.out.below.size rfl (.tmp 97) (.tmp 105) rfl rfl rfl (by rw [HEL.out]; omega) ?_; intro ms' W5 ho kp hsz; have HO5 := hide_of' ho; clear ho kp hsz))
        go_roundw
        case rel => exact ⟨k + 1, es ++ [⟨kk, a', sk, sk, none, -1⟩], _, by omega, rfl, by go_num, by rw [List.length_append, HEL.out]; rfl, by rw [memDs_succ]; exact HO5.out⟩
        case measure => simp [intOf]; omega
      | true =>
        have g1' : (kk != 0) = false := by simp [bne, g1]
        have g0 : h.K k = 0 := by rw [← HKK.out]; simpa using g1
        have HG0 := hide_of' g0
        clear g0
        cases nn' with
        | false =>
          have HNP : Hid (Stays (MemF ⟨kk, a', sk, sk, none, -1⟩ (memD h k)) W2) := by
            show Stays _ _
            rw [HKK.out, HSK.out]
            refine mem_new HF.out HI.out HLT.out (by rw [← HSK.out]; exact HBT.out) (by rw [← HSK.out]; exact HN36.out) (.inl ⟨rfl, ?_⟩)
            simp [memD, ← HNN.out]
          have HB3 := HB2
          obtain ⟨W3, hW3⟩ : ∃ W, W = W2 := ⟨_, rfl⟩
          rw [← hW3] at HB3 HNP dk2 dn2 ⊢
          clear hW3 HB12 HSP HRW HBT HN36 HB2
          have dk3 := DK.out W3 HB3.out
          go_wp2_with (first
            | (go_at_call 13; refine (new13 _ _ _ _ _ _ _ _ _ _).mono ?_; rintro e W4 ⟨rfl, hW4⟩; have HO4 : Hid (OpsL w.heap.size w W4 ms es (memDs h k)) := (by show OpsL _ _ _ _ _ _; rw [hW4]; exact HO.out.after (below_alloc' HB3.out _)); have HNP4 : Hid (Stays (MemF ⟨kk, a', sk, sk, none, -1⟩ (memD h k)) W4) := (by show Stays _ _; rw [hW4]; exact HNP.out.on (Kp.of_below (below_alloc' (Below.refl _ _) _))); clear hW4)
            | (at_builtin; refine HO4.out.wp_app ⟨kk, a', sk, sk, none, -1⟩ (memD h k) HNP4.out HO4.out.below.size rfl (.tmp 97) (.tmp 105) rfl rfl rfl (by rw [HEL.out]; omega) ?_; intro ms' W5 ho kp hsz; have HO5 := hide_of' ho; clear ho kp hsz))
          go_roundw
          case rel => exact ⟨k + 1, es ++ [⟨kk, a', sk, sk, none, -1⟩], _, by omega, rfl, by go_num, by rw [List.length_append, HEL.out]; rfl, by rw [memDs_succ]; exact HO5.out⟩
          case measure => simp [intOf]; omega
        | true =>
          go_wp2_with fail
          refine (read24b w1.heap.size a' sk sk (h.M k) W2 HBT.out (Nat.le_refl _) (by omega) (by omega) HSP.out HRW.out).mono ?_
          rintro e W3 (⟨hnum, rfl, hW3⟩ | ⟨x, hnum, rfl, honly, hat⟩)
          · have HNP : Hid (Stays (MemF ⟨kk, a', sk, sk, none, -1⟩ (memD h k)) W3) := by
              show Stays _ _
              rw [HKK.out, HSK.out, hW3]
              refine mem_new HF.out HI.out HLT.out (by rw [← HSK.out]; exact HBT.out) (by rw [← HSK.out]; exact HN36.out) (.inl ⟨rfl, ?_⟩)
              simp [memD, hnum]
            have HB3 : Hid (Below wr.heap.size wr W3) := by show Below _ _ _; rw [hW3]; exact HB2.out
            clear hW3 HB12 HSP HRW HBT HN36 HB2 hnum dk2 dn2
            have dk3 := DK.out W3 HB3.out
            go_wp2_with (first
              | (go_at_call 13; refine (new13 _ _ _ _ _ _ _ _ _ _).mono ?_; rintro e W4 ⟨rfl, hW4⟩; have HO4 : Hid (OpsL w.heap.size w W4 ms es (memDs h k)) := (by show OpsL _ _ _ _ _ _; rw [hW4]; exact HO.out.after (below_alloc' HB3.out _)); have HNP4 : Hid (Stays (MemF ⟨kk, a', sk, sk, none, -1⟩ (memD h k)) W4) := (by show Stays _ _; rw [hW4]; exact HNP.out.on (Kp.of_below (below_alloc' (Below.refl _ _) _))); clear hW4)
              | (at_builtin; refine HO4.out.wp_app ⟨kk, a', sk, sk, none, -1⟩ (memD h k) HNP4.out HO4.out.below.size rfl (.tmp 97) (.tmp 105) rfl rfl rfl (by rw [HEL.out]; omega) ?_; intro ms' W5 ho kp hsz; have HO5 := hide_of' ho; clear ho kp hsz))
            go_roundw
            case rel => exact ⟨k + 1, es ++ [⟨kk, a', sk, sk, none, -1⟩], _, by omega, rfl, by go_num, by rw [List.length_append, HEL.out]; rfl, by rw [memDs_succ]; exact HO5.out⟩
            case measure => simp [intOf]; omega
          · have HB3 : Hid (Below wr.heap.size wr W3) := HB2.out.trans (honly.below hq)
            have HNP : Hid (Stays (MemF ⟨kk, a', sk, sk, some ⟨w1.heap.size, 0, none⟩, -1⟩ (memD h k)) W3) := by
              show Stays _ _
              have hoff := HBT.out.off_spot HSP.out
              have hb3 : Bytes W3 a' sk (h.M k) := cut_off HBT.out hoff honly
              have h363 : N36 W3 a' sk := by
                intro ad h1 h2
                rw [honly.block _ (hoff ad h1 h2)]
                exact HN36.out ad h1 h2
              rw [HSK.out] at hb3 h363 hat
              rw [HKK.out, HSK.out]
              refine mem_new HF.out HI.out HLT.out hb3 h363 (.inr ⟨_, x, rfl, ?_, hat⟩)
              simp [memD, HG0.out, ← HNN.out, hnum]
            clear HB12 HSP HRW HBT HN36 HB2 hnum dk2 dn2 honly hat
            have dk3 := DK.out W3 HB3.out
            go_wp2_with (first
              | (go_at_call 13; refine (new13 _ _ _ _ _ _ _ _ _ _).mono ?_; rintro e W4 ⟨rfl, hW4⟩; have HO4 : Hid (OpsL w.heap.size w W4 ms es (memDs h k)) := (by show OpsL _ _ _ _ _ _; rw [hW4]; exact HO.out.after (below_alloc' HB3.out _)); have HNP4 : Hid (Stays (MemF ⟨kk, a', sk, sk, some ⟨w1.heap.size, 0, none⟩, -1⟩ (memD h k)) W4) := (by show Stays _ _; rw [hW4]; exact HNP.out.on (Kp.of_below (below_alloc' (Below.refl _ _) _))); clear hW4)
              | (at_builtin; refine HO4.out.wp_app ⟨kk, a', sk, sk, some ⟨w1.heap.size, 0, none⟩, -1⟩ (memD h k) HNP4.out HO4.out.below.size rfl (.tmp 97) (.tmp 105) rfl rfl rfl (by rw [HEL.out]; omega) ?_; intro ms' W5 ho kp hsz; have HO5 := hide_of' ho; clear ho kp hsz))
            go_roundw
            case rel => exact ⟨k + 1, es ++ [⟨kk, a', sk, sk, some ⟨w1.heap.size, 0, none⟩, -1⟩], _, by omega, rfl, by go_num, by rw [List.length_append, HEL.out]; rfl, by rw [memDs_succ]; exact HO5.out⟩
            case measure => simp [intOf]; omega
    · have hkn : k = nk := by omega
      subst hkn
      obtain ⟨msa, msc, hms, hmsc, hmsl, hmsh⟩ := HO.out.shape
      rw [HEL.out] at hms
      subst hms
      clear hmsc hmsl hmsh hlt hk
      have HIR : Hid (HIn h wr) := HI.out.below HO.out.below
      go_upto_region 18 with (first
        | (go_at_call 22; refine (cloneBytes_new h.ax h.nx h.cx h.X wr HIR.out.x (by have := HF.out.x; omega)).mono ?_; rintro e w1 ⟨⟨a1, rfl, hb1, h36⟩, hbel⟩; have HB1 := hide_of' hb1; have HBL := hide_of' hbel; clear hb1 h36 hbel)
        | (go_at_call 23; refine (new23 w1).mono ?_; rintro e W2 ⟨rfl, hW2⟩; have HB12 : Hid (Below w1.heap.size w1 W2) := (by show Below _ _ _; rw [hW2]; exact below_alloc' (Below.refl _ _) _); have HSP : Hid (NumSpot W2 w1.heap.size) := (by show NumSpot _ _; rw [hW2]; exact spot_new w1); clear hW2))
      have HB2 : Hid (Below wr.heap.size wr W2) := HBL.out.trans (HB12.out.mono HBL.out.size)
      have HBT : Hid (Bytes W2 a1 h.nx h.X) := HB1.out.below HB12.out
      have HO2 : Hid (OpsL w.heap.size w W2 (.slice msa k msc) es (memDs h k)) := HO.out.after HB2.out
      have hq : wr.heap.size ≤ w1.heap.size := HBL.out.size
      have hnx20 := HF.out.x
      go_cut [125] from 125 to 125 (fun t wc => T18 h w wc (.slice msa k msc) es k a1 w1.heap.size t)
      case first =>
        by_cases g1 : 0 ≤ h.xs
        · go_wp2
          go_meet
          case rel => exact ⟨⟨true, rfl, HBT.out, fun h2 => absurd h2 (by omega)⟩, HO2.out⟩
        · have g1' : decide (0 ≤ h.xs) = false := by simp; omega
          cases g2 : (h.xk == 0) with
          | false =>
            have g2' : (h.xk != 0) = true := by simp [bne, g2]
            go_wp2
            go_meet
            case rel => exact ⟨⟨true, rfl, HBT.out, fun h2 => .inl ⟨rfl, by unfold xnum; rw [if_neg (by simp at g2; omega)]⟩⟩, HO2.out⟩
          | true =>
            have g2' : (h.xk != 0) = false := by simp [bne, g2]
            have HG : Hid (h.xk = 0) := by show _ = _; simpa using g2
            cases xn with
            | false =>
              go_wp2
              go_meet
              case rel => exact ⟨⟨true, rfl, HBT.out, fun h2 => .inl ⟨rfl, by unfold xnum; rw [if_neg (by rw [← HXN.out]; simp)]⟩⟩, HO2.out⟩
            | true =>
              go_wp2_with fail
              refine (read24 w1.heap.size a1 h.nx h.nx h.X W2 HBT.out (Nat.le_refl _) (by omega) (by omega) HSP.out).mono ?_
              rintro e W3 (⟨hnum, rfl, hW3⟩ | ⟨x, hnum, rfl, honly, hat⟩)
              · have HR : Hid (T18 h w W3 (.slice msa k msc) es k a1 w1.heap.size (.bool true)) := by
                  show T18 _ _ _ _ _ _ _ _ _
                  rw [hW3]
                  exact ⟨⟨true, rfl, HBT.out, fun h2 => .inl ⟨rfl, by unfold xnum; rw [if_pos ⟨HG.out, HXN.out.symm⟩]; exact hnum⟩⟩, HO2.out⟩
                clear hnum hW3
                go_wp2
                go_meet
                case rel => exact HR.out
              · have HR : Hid (T18 h w W3 (.slice msa k msc) es k a1 w1.heap.size (.bool false)) := by
                  show T18 _ _ _ _ _ _ _ _ _
                  exact ⟨⟨false, rfl, cut_off HBT.out (HBT.out.off_spot HSP.out) honly, fun h2 => .inr ⟨_, x, rfl, by unfold xnum; rw [if_pos ⟨HG.out, HXN.out.symm⟩]; exact hnum, hat⟩⟩, HO.out.after (HB2.out.trans (honly.below hq))⟩
                clear hnum honly hat
                go_wp2
                go_meet
                case rel => exact HR.out
      case rest =>
      obtain ⟨⟨b, rfl, hxn⟩, hoo⟩ := hcut
      have HXX := hide_of' hxn
      have HO3 := hide_of' hoo
      clear hxn hoo HO2 HBT HB2 HB12 HSP HBL HB1 hq HIR HO
      go_upto_if 125 with fail
      go_cut [26] from 125 to 125 (fun v wc => ∃ np, v = .pointer np ∧ XN h wc a1 np ∧ OpsL w.heap.size w wc (.slice msa k msc) es (memDs h k))
      case first =>
        cases b with
        | true =>
          go_wp2
          go_meet
          case rel => exact ⟨none, rfl, HXX.out, HO3.out⟩
        | false =>
          go_wp2
          go_meet
          case rel => exact ⟨_, rfl, HXX.out, HO3.out⟩
      case rest =>
      obtain ⟨np, rfl, hxn, hoo⟩ := hcut
      clear HXX HO3
      have HXX := hide_of' hxn
      have HO3 := hide_of' hoo
      clear hxn hoo
      go_upto_region 21 with (go_at_call 13; refine (new13 _ _ _ _ _ _ _ _ _ _).mono ?_; rintro e W4 ⟨rfl, hW4⟩; have HB4 : Hid (Below wc.heap.size wc W4) := (by show Below _ _ _; rw [hW4]; exact below_alloc' (Below.refl _ _) _); clear hW4)
      have HXC : Hid (∀ j, j < 4 → (W4.alloc (.cells #[.int .u8 h.xk, .slice a1 h.nx h.nx, .pointer np, .int .i64 h.xs, .slice none 0 0] 36)).cell? ⟨W4.heap.size, 0 + j, none⟩ = (cellsE (exOf h a1 np))[j]?) := by
        show ∀ _, _
        intro j hj
        rw [Nat.zero_add, World.cell?_alloc_new]
        simp [cellsE, exOf]
      generalize hWX : W4.alloc (.cells #[.int .u8 h.xk, .slice a1 h.nx h.nx, .pointer np, .int .i64 h.xs, .slice none 0 0] 36) = WX at HXC ⊢
      have HBX : Hid (Below wc.heap.size wc WX) := by show Below _ _ _; rw [← hWX]; exact below_alloc' HB4.out _
      have HLX : Hid (W4.heap.size < WX.heap.size) := by show _ < _; rw [← hWX, World.size_alloc]; omega
      obtain ⟨bx, hbx⟩ : ∃ n, n = W4.heap.size := ⟨_, rfl⟩
      rw [← hbx] at HXC HLX ⊢
      clear hWX hbx HB4
      have HOX : Hid (OpsL w.heap.size w WX (.slice msa k msc) es (memDs h k)) := HO3.out.after HBX.out
      have HXN2 : Hid (XN h WX a1 np) := HXX.out.below HBX.out
      have HIX : Hid (HIn h WX) := HI.out.below HOX.out.below
      clear HXX HO3 HBX
      have hmk := run_make_row' (P := Try.prog) 23 9 (.string ⟨#[]⟩) 16 Try.underlying23 Try.info9 rfl .i64 .i64 h.nf (by have := HF.out.f; omega) (by have := HF.out.f; omega)
      have C11 : Hid (∀ W, Below WX.heap.size WX W → Calls Try.prog 11 #[.slice h.af h.nf h.cf] W fun e w' => ∃ a' c', e = .returned (.slice a' h.nf c') ∧ Sl w' a' h.nf (fun i => .int .i64 (h.z i)) ∧ Below WX.heap.size WX w') := fun W hb => (cloneInts_any h.af h.nf h.cf h.z W (HIX.out.f.below hb) (by have := HF.out.f; omega)).mono fun e w' ⟨a', c', h1, h2, h3, _⟩ => ⟨a', c', h1, h2, below_step hb h3⟩
      go_cut [28] from 28 to 28 (fun v W => ∃ (pb : Nat) (bf : Option Addr) (cf : Nat), v = .pointer (some ⟨pb, 0, none⟩) ∧ St h (ctxOf h pb bf cf) w W (.slice msa k msc) es k bx)
      case first =>
        go_region_with (first
          | (go_at_call 11; refine (C11.out _ ?_).mono ?_; (repeat (first | exact Below.refl _ _ | refine Below.drew ?_ | refine below_alloc' ?_ _)); rintro e W11 ⟨bf, cf, rfl, hs11, hb11⟩; have HS11 := hide_of' hs11; have HB11 := hide_of' hb11; clear hs11 hb11)
          | (go_at_call 10; refine (new10b _ _ _ _ _ _ _).mono ?_; rintro e W10 ⟨pb, rfl, hp1, hb10⟩; have HP1 := hide_of' hp1; have HS10 := hide_of' (HS11.out.below (below_step (by repeat (first | exact Below.refl _ _ | refine Below.drew ?_ | refine below_alloc' ?_ _)) hb10)); have HB10 : Hid (Below WX.heap.size WX W10) := below_step (by repeat (first | exact HB11.out | refine Below.drew ?_ | refine below_alloc' ?_ _)) hb10; clear hp1 hb10))
        all_goals
          (try go_wp2)
          go_meet
          case rel => exact ⟨pb, bf, cf, rfl, HOX.out.after HB10.out, ctx_in (HIX.out.below HB10.out) HF.out HP1.out HS10.out, ⟨_, x_op (HIX.out.below HB10.out) HF.out (HXN2.out.below HB10.out) (fun j hj => (HB10.out.cell (p := ⟨bx, 0 + j, none⟩) HLX.out).trans (HXC.out j hj))⟩, HIX.out.below HB10.out⟩
      case rest =>
      obtain ⟨pb, bf, cf, rfl, hst⟩ := hcut
      have HST := hide_of' hst
      clear hst C11 hmk HXC HLX HOX HXN2 HIX
      obtain ⟨pb0, hpb0⟩ : ∃ n, n = wc.heap.size := ⟨_, rfl⟩
      clear hpb0 pb0
      have hK20 : k ≤ 1048576 := by rw [HNK.out]; exact HF.out.k
      have HHK : Hid (∀ W, HIn h W → Sl W ak k (fun i => .int .u8 (h.K i))) := fun W hw => by rw [HAK.out, HNK.out]; exact hw.k
      have HHT : Hid (∀ W, HIn h W → Sl W ta k (fun i => .slice (h.T i) (h.S i) (h.R i))) := fun W hw => by rw [HTA.out, HNK.out, ← HF.out.t]; exact hw.t
      have HHN : Hid (∀ W, HIn h W → Sl W an k (fun i => .bool (h.N i))) := fun W hw => by rw [HAN.out, HNK.out, ← HF.out.n]; exact hw.n
      have HNT : Hid (k = h.nt) := by show _ = _; rw [HNK.out]; exact HF.out.t.symm
      obtain ⟨mg, mcap, hmg, hMA⟩ := HST.out.ms.mem_of (ctxOf h pb bf cf)
      rw [HEL.out] at hmg hMA
      have hown := HST.out.ms.own.2
      rw [HEL.out] at hown
      rcases hown with ⟨hv0, hk0⟩ | ⟨g, cap, cur, hv0, hx1, hx2, hkc, hcm, hx3⟩
      · simp only [Value.slice.injEq] at hv0
        obtain ⟨hv1, _, hv2⟩ := hv0
        subst hv1 hv2 hk0
        have hp0 : p = 0 := by omega
        subst hp0
        clear hmg hMA
        go_upto_region 25 with (go_at_call 13; refine (new13 _ _ _ _ _ _ _ _ _ _).mono ?_; rintro e W13 ⟨rfl, rfl⟩)
        have S4 := hide_of' (stage4 wc (.slice none 0 0) (.slice none 0 0) (.slice none 0 0))
        have HMA : Hid (Mem (ctxOf h pb bf cf) wc none 0 (memDs h 0)) := ⟨rfl, fun h0 => absurd h0 (Nat.lt_irrefl 0)⟩
        have HMH : Hid (Mem (ctxOf h pb bf cf) wc none 0 ((memDs h 0).take 0)) := ⟨by simp [memDs], fun h0 => absurd h0 (Nat.lt_irrefl 0)⟩
        have HMT : Hid (Mem (ctxOf h pb bf cf) wc none 0 ((memDs h 0).drop 0)) := ⟨by simp [memDs], fun h0 => absurd h0 (Nat.lt_irrefl 0)⟩
        generalize hWC : ((((((wc.alloc (.cells (opC (.slice none 0 0)) 36)).alloc (.cells (opC (.slice none 0 0)) 36)).alloc (.cells (opC (.slice none 0 0)) 36)).alloc (.cells (opC (.slice none 0 0)) 36)).alloc (.cells (opC (.slice none 0 0)) 36)).alloc (.cells (opC (.slice none 0 0)) 36)) = WC at S4 ⊢
        clear hWC
        obtain ⟨ex, va', vn', vc', hop⟩ := HST.out.x
        have HOP := hide_of' hop
        clear hop
        obtain ⟨b1, hb1⟩ : ∃ b, b = ((memDs h 0).take 0).any (eqD · (xD h)) := ⟨_, rfl⟩
        have HV1 := hide_of' hb1
        obtain ⟨b2, hb2⟩ : ∃ b, b = ((memDs h 0).drop 0).any (eqD · (xD h)) := ⟨_, rfl⟩
        have HV2 := hide_of' hb2
        clear hb1 hb2
        go_wp2_with fail
        refine (zzhas26 (ctxOf h pb bf cf) WC (wc.heap.size + 1) 0 bx 0 none 0 0 _ ex (xD h) va' vn' vc' (HST.out.ctx.below S4.out.below) S4.out.c1 (HMA.out.below S4.out.below) (by omega) (HOP.out.below S4.out.below)).mono ?_
        rw [cut_any _ _ 0, ← HV1.out, ← HV2.out]
        rintro e X1 ⟨rfl, hX1⟩
        have HB1 := hide_of' (below_step S4.out.below hX1)
        have HC2 := hide_of' ((hX1.cell (p := ⟨wc.heap.size + 1 + 1 + 1, 0 + 4, none⟩) (cell_lt S4.out.c2)).trans S4.out.c2)
        have HC3 := hide_of' ((hX1.cell (p := ⟨wc.heap.size + 1 + 1 + 1 + 1 + 1, 0 + 4, none⟩) (cell_lt S4.out.c3)).trans S4.out.c3)
        clear hX1
        go_wp2_with fail
        refine (zzhas26 (ctxOf h pb bf cf) X1 (wc.heap.size + 1 + 1 + 1) 0 bx 0 none 0 0 _ ex (xD h) va' vn' vc' (HST.out.ctx.below HB1.out) HC2.out (HMH.out.below HB1.out) (by omega) (HOP.out.below HB1.out)).mono ?_
        rw [← HV1.out]
        rintro e X2 ⟨rfl, hX2⟩
        have HB2 := hide_of' (below_step HB1.out hX2)
        have HC4 := hide_of' ((hX2.cell (p := ⟨wc.heap.size + 1 + 1 + 1 + 1 + 1, 0 + 4, none⟩) (cell_lt HC3.out)).trans HC3.out)
        clear hX2
        go_wp2_with fail
        refine (zzhas26 (ctxOf h pb bf cf) X2 (wc.heap.size + 1 + 1 + 1 + 1 + 1) 0 bx 0 none 0 0 _ ex (xD h) va' vn' vc' (HST.out.ctx.below HB2.out) HC4.out (HMT.out.below HB2.out) (by omega) (HOP.out.below HB2.out)).mono ?_
        rw [← HV2.out]
        rintro e X3 ⟨rfl, hX3⟩
        have HB3 := hide_of' (below_step HB2.out hX3)
        have HS3 := hide_of' (HST.out.after HB3.out)
        clear hX3 HOP HMA HMH HMT HC2 HC3 HC4 S4
        go_wp2_with fail
        refine (xdesc25 _ h.af h.av h.ax h.nf h.nv h.nx h.cf h.cv h.cx h.z h.A h.L h.C h.V h.xk h.X xn h.xs HS3.out.inn.f HS3.out.inn.v (fun i hj => ⟨(HS3.out.inn.V i hj).1, HF.out.vals i hj⟩) HS3.out.inn.x HF.out.x HF.out.f HF.out.v HF.out.hxs.2.1 HF.out.fields).mono ?_
        rintro e W6 ⟨⟨va, vn, vc, val, isN, rfl, hxd⟩, hb6⟩
        rw [HXN.out] at hxd
        have HS6 := hide_of' (HS3.out.after hb6)
        have HTX := hide_of' (xdesc_txt HS6.out.inn HF.out hxd)
        have HAG := hide_of' (x_agree HTX.out.1 hxd)
        clear hxd hb6 HS3
        have C34 := hide_of' (model34 ak ta an va 0 h.ck h.ct h.cn vn vc h.K h.T h.S h.R h.M h.N h.xk (xval h) isN W6 (HHK.out _ HS6.out.inn) (HHT.out _ HS6.out.inn) (HHN.out _ HS6.out.inn) (fun i hi => ⟨HS6.out.inn.m i (by rw [← HNT.out]; exact hi), HF.out.texts i (by rw [← HNT.out]; exact hi), (HRR.out i (by rw [← HNT.out]; exact hi)).1, (HRR.out i (by rw [← HNT.out]; exact hi)).2⟩) HTX.out.2 (by omega))
        have HMO : Hid (((List.range 0).any fun i => mEq (mm h.K h.M h.N i) ⟨h.xk, xval h, isN⟩) = (((memDs h 0).take 0).any (eqD · (xD h)) || ((memDs h 0).drop 0).any (eqD · (xD h)))) := (model_any h 0 HAG.out).trans (cut_any h 0 0)
        rw [HMO.out, ← HV1.out, ← HV2.out] at C34
        clear HV1 HV2 HMO HAG HTX
        go_wp2_with fail
        refine C34.out.mono ?_
        rintro e W7 ⟨rfl, hb7⟩
        have HB7 : Hid (Below w.heap.size w W7) := below_step HS6.out.ms.below hb7
        clear hb7 C34
        cases b1
        all_goals
          cases b2
          all_goals
            go_wp2
            go_ret
            exact ⟨rfl, HB7.out⟩
      · clear hx1 hx2 hx3
        simp only [Value.slice.injEq] at hv0 hmg
        obtain ⟨hv1, _, hv2⟩ := hv0
        obtain ⟨hm1, _, hm2⟩ := hmg
        subst hv1 hv2 hm1 hm2
        have HM0 := hide_of' hMA
        have HKC := hide_of' hkc
        have hcap : msc ≤ 9223372036854775807 := hcm
        clear hMA hcm
        go_upto_region 25 with (go_at_call 13; refine (new13 _ _ _ _ _ _ _ _ _ _).mono ?_; rintro e W13 ⟨rfl, rfl⟩)
        obtain ⟨tad, htad⟩ : ∃ x, x = (if msc = p then some ⟨g, 0, none⟩ else some ⟨g, p * 5, none⟩ : Option Addr) := ⟨_, rfl⟩
        rw [← htad]
        have HTAD := hide_of' htad
        clear htad
        have S4 := hide_of' (stage4 wc (.slice (some ⟨g, 0, none⟩) k msc) (.slice (some ⟨g, 0, none⟩) p msc) (.slice tad (k - p) (msc - p)))
        have HMA : Hid (Mem (ctxOf h pb bf cf) wc (some ⟨g, 0, none⟩) k (memDs h k)) := HM0.out
        have HMH : Hid (Mem (ctxOf h pb bf cf) wc (some ⟨g, 0, none⟩) p ((memDs h k).take p)) := mem_take HM0.out hpn
        have HMT : Hid (Mem (ctxOf h pb bf cf) wc tad (k - p) ((memDs h k).drop p)) := by show Mem _ _ _ _ _; rw [HTAD.out]; exact mem_drop HM0.out hpn HKC.out
        generalize hWC : ((((((wc.alloc (.cells (opC (.slice (some ⟨g, 0, none⟩) k msc)) 36)).alloc (.cells (opC (.slice (some ⟨g, 0, none⟩) k msc)) 36)).alloc (.cells (opC (.slice (some ⟨g, 0, none⟩) p msc)) 36)).alloc (.cells (opC (.slice (some ⟨g, 0, none⟩) p msc)) 36)).alloc (.cells (opC (.slice tad (k - p) (msc - p))) 36)).alloc (.cells (opC (.slice tad (k - p) (msc - p))) 36)) = WC at S4 ⊢
        clear hWC
        obtain ⟨ex, va', vn', vc', hop⟩ := HST.out.x
        have HOP := hide_of' hop
        clear hop
        obtain ⟨b1, hb1⟩ : ∃ b, b = ((memDs h k).take p).any (eqD · (xD h)) := ⟨_, rfl⟩
        have HV1 := hide_of' hb1
        obtain ⟨b2, hb2⟩ : ∃ b, b = ((memDs h k).drop p).any (eqD · (xD h)) := ⟨_, rfl⟩
        have HV2 := hide_of' hb2
        clear hb1 hb2
        go_wp2_with fail
        refine (zzhas26 (ctxOf h pb bf cf) WC (wc.heap.size + 1) 0 bx 0 (some ⟨g, 0, none⟩) k msc _ ex (xD h) va' vn' vc' (HST.out.ctx.below S4.out.below) S4.out.c1 (HMA.out.below S4.out.below) (by omega) (HOP.out.below S4.out.below)).mono ?_
        rw [cut_any _ _ p, ← HV1.out, ← HV2.out]
        rintro e X1 ⟨rfl, hX1⟩
        have HB1 := hide_of' (below_step S4.out.below hX1)
        have HC2 := hide_of' ((hX1.cell (p := ⟨wc.heap.size + 1 + 1 + 1, 0 + 4, none⟩) (cell_lt S4.out.c2)).trans S4.out.c2)
        have HC3 := hide_of' ((hX1.cell (p := ⟨wc.heap.size + 1 + 1 + 1 + 1 + 1, 0 + 4, none⟩) (cell_lt S4.out.c3)).trans S4.out.c3)
        clear hX1
        go_wp2_with fail
        refine (zzhas26 (ctxOf h pb bf cf) X1 (wc.heap.size + 1 + 1 + 1) 0 bx 0 (some ⟨g, 0, none⟩) p msc _ ex (xD h) va' vn' vc' (HST.out.ctx.below HB1.out) HC2.out (HMH.out.below HB1.out) (by omega) (HOP.out.below HB1.out)).mono ?_
        rw [← HV1.out]
        rintro e X2 ⟨rfl, hX2⟩
        have HB2 := hide_of' (below_step HB1.out hX2)
        have HC4 := hide_of' ((hX2.cell (p := ⟨wc.heap.size + 1 + 1 + 1 + 1 + 1, 0 + 4, none⟩) (cell_lt HC3.out)).trans HC3.out)
        clear hX2
        go_wp2_with fail
        refine (zzhas26 (ctxOf h pb bf cf) X2 (wc.heap.size + 1 + 1 + 1 + 1 + 1) 0 bx 0 tad (k - p) (msc - p) _ ex (xD h) va' vn' vc' (HST.out.ctx.below HB2.out) HC4.out (HMT.out.below HB2.out) (by omega) (HOP.out.below HB2.out)).mono ?_
        rw [← HV2.out]
        rintro e X3 ⟨rfl, hX3⟩
        have HB3 := hide_of' (below_step HB2.out hX3)
        have HS3 := hide_of' (HST.out.after HB3.out)
        clear hX3 HOP HMA HMH HMT HC2 HC3 HC4 S4
        go_wp2_with fail
        refine (xdesc25 _ h.af h.av h.ax h.nf h.nv h.nx h.cf h.cv h.cx h.z h.A h.L h.C h.V h.xk h.X xn h.xs HS3.out.inn.f HS3.out.inn.v (fun i hj => ⟨(HS3.out.inn.V i hj).1, HF.out.vals i hj⟩) HS3.out.inn.x HF.out.x HF.out.f HF.out.v HF.out.hxs.2.1 HF.out.fields).mono ?_
        rintro e W6 ⟨⟨va, vn, vc, val, isN, rfl, hxd⟩, hb6⟩
        rw [HXN.out] at hxd
        have HS6 := hide_of' (HS3.out.after hb6)
        have HTX := hide_of' (xdesc_txt HS6.out.inn HF.out hxd)
        have HAG := hide_of' (x_agree HTX.out.1 hxd)
        clear hxd hb6 HS3
        have C34 := hide_of' (model34 ak ta an va k h.ck h.ct h.cn vn vc h.K h.T h.S h.R h.M h.N h.xk (xval h) isN W6 (HHK.out _ HS6.out.inn) (HHT.out _ HS6.out.inn) (HHN.out _ HS6.out.inn) (fun i hi => ⟨HS6.out.inn.m i (by rw [← HNT.out]; exact hi), HF.out.texts i (by rw [← HNT.out]; exact hi), (HRR.out i (by rw [← HNT.out]; exact hi)).1, (HRR.out i (by rw [← HNT.out]; exact hi)).2⟩) HTX.out.2 hK20)
        have HMO : Hid (((List.range k).any fun i => mEq (mm h.K h.M h.N i) ⟨h.xk, xval h, isN⟩) = (((memDs h k).take p).any (eqD · (xD h)) || ((memDs h k).drop p).any (eqD · (xD h)))) := (model_any h k HAG.out).trans (cut_any h k p)
        rw [HMO.out, ← HV1.out, ← HV2.out] at C34
        clear HV1 HV2 HMO HAG HTX
        go_wp2_with fail
        refine C34.out.mono ?_
        rintro e W7 ⟨rfl, hb7⟩
        have HB7 : Hid (Below w.heap.size w W7) := below_step HS6.out.ms.below hb7
        clear hb7 C34
        cases b1
        all_goals
          cases b2
          all_goals
            go_wp2
            go_ret
            exact ⟨rfl, HB7.out⟩
end Go.Proofs.Qxb6616563a
