import Derived.Test.Qxb6616563aOps
namespace Go.Proofs.Qxb6616563a
open Go.RowKit

theorem dig40 (z : Int) (w : World) : Calls Try.prog 40 #[.int .u8 z] w fun e w' => e = .returned (.bool (digP z)) ∧ w' = w := by
  by_cases h1 : 48 ≤ z
  · by_cases h2 : z ≤ 57
    · have HE : Hid (digP z = true) := by show _ = _; simp [digP, h1, h2]
      go_enter Try.func40, Try.ntmps40
      go_wp2
      go_ret
      exact ⟨by rw [HE.out]; rfl, rfl⟩
    · have HE : Hid (digP z = false) := by show _ = _; simp [digP, h2]
      have h2' : decide (z ≤ 57) = false := by simpa using h2
      go_enter Try.func40, Try.ntmps40
      go_wp2
      go_ret
      exact ⟨by rw [HE.out]; rfl, rfl⟩
  · have HE : Hid (digP z = false) := by show _ = _; simp [digP, h1]
    have h1' : decide (48 ≤ z) = false := by simpa using h1
    go_enter Try.func40, Try.ntmps40
    go_wp2
    go_ret
    exact ⟨by rw [HE.out]; rfl, rfl⟩

def dEnd (l : List UInt8) : Nat := runEnd digP l (fstI l)
def dEnd2 (l : List UInt8) : Nat := runEnd digP l (dEnd l + 1)
/-- b1IsDecimal -/
def decB (l : List UInt8) : Bool :=
  if dEnd l = fstI l then false else if dEnd l = l.length then true else if (byteAt l (dEnd l) == 46) = true then decide (dEnd l + 1 < dEnd2 l) && decide (dEnd2 l = l.length) else false

set_option maxRecDepth 100000 in
set_option maxHeartbeats 2000000 in
theorem dec28 (a : Option Addr) (n c : Nat) (l : List UInt8) (w : World) (ha : Bytes w a n l) (hn : n ≤ 1099511627776) :
    Calls Try.prog 28 #[.slice a n c] w fun e w' => e = .returned (.bool (decB l)) ∧ w' = w := by
  have HL : Hid (l.length = n) := ha.1
  rcases Nat.eq_zero_or_pos n with h0 | h0
  · subst h0
    have hl : l = [] := List.length_eq_zero_iff.1 HL.out
    have HD : Hid (decB l = false) := by show _ = _; rw [hl]; rfl
    clear hl
    go_enter Try.func28, Try.ntmps28
    go_wp2
    go_loop [3] (fun i => i = .int .i64 0) (fun _ => 0)
    case atStart => rfl
    case round =>
      subst hrel
      go_wp2
      go_ret
      exact ⟨by rw [HD.out]; rfl, rfl⟩
  · obtain ⟨b, o, rfl, hcl⟩ := ha.2 h0
    have HC : Hid (∀ i, i < n → w.cell? ⟨b, o + i, none⟩ = some (.int .u8 (byteAt l i))) := hcl
    clear hcl
    have d0 := HC.out 0 h0
    rw [Nat.add_zero] at d0
    have HS : Hid (sgn l = (byteAt l 0 == 45)) := by show _ = _; rw [sgn, HL.out]; simp [h0]
    go_enter Try.func28, Try.ntmps28
    go_upto_if 16 with fail
    go_cut [3] (fun i wc => ∃ f : Nat, i = .int .i64 f ∧ f ≤ 1 ∧ Hid (f = fstI l) ∧ w = wc)
    case first =>
      go_wp2
      · go_meet
        case rel => exact ⟨1, rfl, Nat.le_refl _, by show 1 = fstI l; unfold fstI; rw [HS.out]; simp_all, rfl⟩
      · go_meet
        case rel => exact ⟨0, rfl, Nat.zero_le _, by show 0 = fstI l; unfold fstI; rw [HS.out]; simp_all, rfl⟩
    case rest =>
      obtain ⟨f, rfl, hf1, HF, rfl⟩ := hcut
      clear d0
      go_upto_block 0 with fail
      go_cut [3] (fun i wc => ∃ k : Nat, i = .int .i64 k ∧ f ≤ k ∧ k ≤ n ∧ Hid (dEnd l = k) ∧ w = wc)
      case first =>
        go_wp2
        go_loop [3] (fun i => ∃ k : Nat, i = .int .i64 k ∧ f ≤ k ∧ k ≤ n ∧ ∀ j, f ≤ j → j < k → digP (byteAt l j) = true) (fun i => n - (intOf i).toNat)
        case atStart => exact ⟨f, rfl, Nat.le_refl _, by omega, fun j h1 h2 => by omega⟩
        case round =>
          obtain ⟨k, rfl, hfk, hkn, hj⟩ := hrel
          have HJ : Hid (∀ j, f ≤ j → j < k → digP (byteAt l j) = true) := hj
          clear hj
          by_cases hlt : k < n
          · have d1 := HC.out k hlt
            cases hz : digP (byteAt l k) with
            | true =>
              go_wp2_with (go_at_call 40; refine (dig40 _ _).mono ?_; rintro e w' ⟨rfl, rfl⟩)
              go_round
              case rel => exact ⟨k + 1, by go_num, by omega, by omega, fun j h1 h2 => by rcases Nat.lt_succ_iff_lt_or_eq.1 h2 with h | rfl; exact HJ.out j h1 h; exact hz⟩
              case measure => simp [intOf]; omega
            | false =>
              go_wp2_with (go_at_call 40; refine (dig40 _ _).mono ?_; rintro e w' ⟨rfl, rfl⟩)
              go_meet
              case rel => exact ⟨k, rfl, hfk, hkn, by show _ = _; unfold dEnd; rw [← HF.out]; exact runEnd_eq HL.out hfk hkn HJ.out (fun _ => hz), rfl⟩
          · have hlt' : decide ((k : Int) < (n : Int)) = false := by simp; omega
            go_wp2
            go_meet
            case rel => exact ⟨k, rfl, hfk, hkn, by show _ = _; unfold dEnd; rw [← HF.out]; exact runEnd_eq HL.out hfk hkn HJ.out (fun h => absurd h hlt), rfl⟩
      case rest =>
        obtain ⟨e1, rfl, he1, he2, HE, rfl⟩ := hcut
        by_cases hef : e1 = f
        · have HZ : Hid (decB l = false) := by show _ = _; unfold decB; rw [HE.out, ← HF.out, if_pos hef]
          have hef' : ((e1 : Int) == (f : Int)) = true := by simp [hef]
          clear hef
          go_wp2
          go_ret
          exact ⟨by rw [HZ.out]; rfl, rfl⟩
        · have hef' : ((e1 : Int) == (f : Int)) = false := by simp; omega
          by_cases hen : e1 = n
          · have HZ : Hid (decB l = true) := by show _ = _; unfold decB; rw [HE.out, ← HF.out, if_neg hef, if_pos (by rw [HL.out]; exact hen)]
            have hen' : ((e1 : Int) == (n : Int)) = true := by simp [hen]
            clear hen hef
            go_wp2
            go_ret
            exact ⟨by rw [HZ.out]; rfl, rfl⟩
          · have hen' : ((e1 : Int) == (n : Int)) = false := by simp; omega
            have hlt1 : e1 < n := by omega
            have d1 := HC.out e1 hlt1
            cases g2 : (byteAt l e1 == 46) with
            | false =>
              have HZ : Hid (decB l = false) := by show _ = _; unfold decB; rw [HE.out, ← HF.out, if_neg hef, if_neg (by rw [HL.out]; exact hen), g2]; rfl
              have g2' : (byteAt l e1 != 46) = true := by simp [bne, g2]
              clear hen hef
              go_wp2
              go_ret
              exact ⟨by rw [HZ.out]; rfl, rfl⟩
            | true =>
              have HZ : Hid (decB l = (decide (e1 + 1 < dEnd2 l) && decide (dEnd2 l = n))) := by show _ = _; unfold decB; rw [HE.out, ← HF.out, if_neg hef, if_neg (by rw [HL.out]; exact hen), g2, HL.out]; rfl
              have g2' : (byteAt l e1 != 46) = false := by simp [bne, g2]
              clear hen hef
              go_upto_block 2 with fail
              go_cut [3] (fun i wc => ∃ k : Nat, i = .int .i64 k ∧ e1 + 1 ≤ k ∧ k ≤ n ∧ Hid (dEnd2 l = k) ∧ w = wc)
              case first =>
                go_wp2
                go_loop [3] (fun i => ∃ k : Nat, i = .int .i64 k ∧ e1 + 1 ≤ k ∧ k ≤ n ∧ ∀ j, e1 + 1 ≤ j → j < k → digP (byteAt l j) = true) (fun i => n - (intOf i).toNat)
                case atStart => exact ⟨e1 + 1, by go_num, Nat.le_refl _, by omega, fun j h1 h2 => by omega⟩
                case round =>
                  obtain ⟨k, rfl, hfk, hkn, hj⟩ := hrel
                  have HJ : Hid (∀ j, e1 + 1 ≤ j → j < k → digP (byteAt l j) = true) := hj
                  clear hj
                  by_cases hlt : k < n
                  · have d2 := HC.out k hlt
                    cases hz : digP (byteAt l k) with
                    | true =>
                      go_wp2_with (go_at_call 40; refine (dig40 _ _).mono ?_; rintro e w' ⟨rfl, rfl⟩)
                      go_round
                      case rel => exact ⟨k + 1, by go_num, by omega, by omega, fun j h1 h2 => by rcases Nat.lt_succ_iff_lt_or_eq.1 h2 with h | rfl; exact HJ.out j h1 h; exact hz⟩
                      case measure => simp [intOf]; omega
                    | false =>
                      go_wp2_with (go_at_call 40; refine (dig40 _ _).mono ?_; rintro e w' ⟨rfl, rfl⟩)
                      go_meet
                      case rel => exact ⟨k, rfl, hfk, hkn, by show _ = _; unfold dEnd2; rw [HE.out]; exact runEnd_eq HL.out hfk hkn HJ.out (fun _ => hz), rfl⟩
                  · have hlt' : decide ((k : Int) < (n : Int)) = false := by simp; omega
                    go_wp2
                    go_meet
                    case rel => exact ⟨k, rfl, hfk, hkn, by show _ = _; unfold dEnd2; rw [HE.out]; exact runEnd_eq HL.out hfk hkn HJ.out (fun h => absurd h hlt), rfl⟩
              case rest =>
                obtain ⟨e2, rfl, hg1, hg2, HE2, rfl⟩ := hcut
                rw [HE2.out] at HZ
                by_cases q1 : e1 + 1 < e2
                · have q1' : (e1 : Int) + 1 < (e2 : Int) := by omega
                  have HZ2 : Hid (decB l = ((e2 : Int) == (n : Int))) := by
                    show _ = _
                    rw [HZ.out]
                    by_cases q : e2 = n
                    · simp [q]; omega
                    · have q3 : ((e2 : Int) == (n : Int)) = false := by simp; omega
                      rw [q3]; simp [q]
                  go_wp2
                  go_ret
                  exact ⟨by rw [HZ2.out]; rfl, rfl⟩
                · have q1' : decide ((e1 : Int) + 1 < (e2 : Int)) = false := by simp; omega
                  have HZ2 : Hid (decB l = false) := by
                    show _ = _
                    rw [HZ.out]
                    simp [q1]
                  go_wp2
                  go_ret
                  exact ⟨by rw [HZ2.out]; rfl, rfl⟩

/-- what b1XDesc answers: which slice, and is it a number -/
structure XDesc (nf nv : Nat) (z : Nat → Int) (A : Nat → Option Addr) (L C : Nat → Nat) (V : Nat → List UInt8) (kd : Int) (ax : Option Addr) (nx cx : Nat) (X : List UInt8) (xn : Bool) (s : Int) (va : Option Addr) (vn vc : Nat) (val : List UInt8) (isN : Bool) : Prop where
  res : (s < 0 ∧ va = ax ∧ vn = nx ∧ vc = cx ∧ val = X ∧ isN = (decide (kd = 0) && xn && decB X)) ∨ (∃ m : Nat, s = (m : Int) ∧ m < nf ∧ z m < 0 ∧ va = ax ∧ vn = nx ∧ vc = cx ∧ val = X ∧ isN = decB X) ∨ (∃ m f : Nat, s = (m : Int) ∧ m < nf ∧ z m = (f : Int) ∧ f < nv ∧ va = A f ∧ vn = L f ∧ vc = C f ∧ val = V f ∧ isN = decB (V f))

structure XDescR (w : World) (nf nv : Nat) (z : Nat → Int) (A : Nat → Option Addr) (L C : Nat → Nat) (V : Nat → List UInt8) (kd : Int) (ax : Option Addr) (nx cx : Nat) (X : List UInt8) (xn : Bool) (s : Int) (e : Ending) (w' : World) : Prop where
  ex : ∃ va vn vc val isN, e = .returned (.agg #[.int .u8 kd, .slice va vn vc, .bool isN]) ∧ XDesc nf nv z A L C V kd ax nx cx X xn s va vn vc val isN
  below : Below w.heap.size w w'

set_option maxRecDepth 100000 in
set_option maxHeartbeats 2000000 in
theorem xdesc25 (w : World) (af av ax : Option Addr) (nf nv nx cf cv cx : Nat) (z : Nat → Int) (A : Nat → Option Addr) (L C : Nat → Nat) (V : Nat → List UInt8) (kd : Int) (X : List UInt8) (xn : Bool) (s : Int)
    (hf : Sl w af nf (fun i => .int .i64 (z i))) (hv : Sl w av nv (fun i => .slice (A i) (L i) (C i))) (hV : ∀ i, i < nv → Bytes w (A i) (L i) (V i) ∧ L i ≤ 1048576) (hX : Bytes w ax nx X) (hx : nx ≤ 1048576)
    (hnf : nf ≤ 1048576) (hnv : nv ≤ 1048576) (hs : s < nf) (hz : ∀ j, j < nf → -1 ≤ z j ∧ z j < nv) :
    Calls Try.prog 25 #[.slice af nf cf, .slice av nv cv, .int .u8 kd, .slice ax nx cx, .bool xn, .int .i64 s] w fun e w' => XDescR w nf nv z A L C V kd ax nx cx X xn s e w' := by
  by_cases h1 : s < 0
  · have HX : Hid (∀ W, Below w.heap.size w W → Calls Try.prog 28 #[.slice ax nx cx] W fun e w' => e = .returned (.bool (decB X)) ∧ w' = W) := fun W hb => dec28 ax nx cx X W (hX.below hb) (by omega)
    have HN : Hid (s < 0) := h1
    have h1' : decide (0 ≤ s) = false := by simp; omega
    clear hf hv hV hX hz
    cases hk : (kd == 0) with
    | false =>
      have HK : Hid (decide (kd = 0) = false) := by show _ = _; simpa using hk
      go_enter Try.func25, Try.ntmps25
      go_wp2
      refine bodyPost_ret (v := .agg #[.int .u8 kd, .slice ax nx cx, .bool false]) (by simp [results, Try.results25, go_sem]) rfl ⟨⟨ax, nx, cx, X, false, rfl, ⟨.inl ⟨HN.out, rfl, rfl, rfl, rfl, by rw [HK.out]; rfl⟩⟩⟩, ?_⟩
      repeat (first | exact Below.refl _ _ | exact below_alloc' (Below.refl _ _) _ | refine Below.setCell ?_ (by simp) _)
    | true =>
      have HK : Hid (decide (kd = 0) = true) := by show _ = _; simpa using hk
      cases xn with
      | false =>
        go_enter Try.func25, Try.ntmps25
        go_wp2
        refine bodyPost_ret (v := .agg #[.int .u8 kd, .slice ax nx cx, .bool false]) (by simp [results, Try.results25, go_sem]) rfl ⟨⟨ax, nx, cx, X, false, rfl, ⟨.inl ⟨HN.out, rfl, rfl, rfl, rfl, by simp⟩⟩⟩, ?_⟩
        repeat (first | exact Below.refl _ _ | exact below_alloc' (Below.refl _ _) _ | refine Below.setCell ?_ (by simp) _)
      | true =>
        go_enter Try.func25, Try.ntmps25
        go_wp2_with (go_at_call 28; refine (HX.out _ (below_alloc' (Below.refl _ _) _)).mono ?_; rintro e w' ⟨rfl, rfl⟩)
        refine bodyPost_ret (v := .agg #[.int .u8 kd, .slice ax nx cx, .bool (decB X)]) (by simp [results, Try.results25, go_sem]) rfl ⟨⟨ax, nx, cx, X, decB X, rfl, ⟨.inl ⟨HN.out, rfl, rfl, rfl, rfl, by rw [HK.out]; rfl⟩⟩⟩, ?_⟩
        repeat (first | exact Below.refl _ _ | exact below_alloc' (Below.refl _ _) _ | refine Below.setCell ?_ (by simp) _)
  · obtain ⟨m, rfl⟩ := Int.eq_ofNat_of_zero_le (show 0 ≤ s by omega)
    have hmn : m < nf := by omega
    obtain ⟨bb, ob, rfl, hcl⟩ := hf (by omega)
    have d1 : w.cell? ⟨bb, ob + m, none⟩ = some (.int .i64 (z m)) := hcl m hmn
    have hz1 := hz m hmn
    by_cases hz0 : z m < 0
    · have HX : Hid (∀ W, Below w.heap.size w W → Calls Try.prog 28 #[.slice ax nx cx] W fun e w' => e = .returned (.bool (decB X)) ∧ w' = W) := fun W hb => dec28 ax nx cx X W (hX.below hb) (by omega)
      have HM : Hid (m < nf) := hmn
      obtain ⟨y, hy⟩ : ∃ y, y = z m := ⟨_, rfl⟩
      have HY : Hid (y = z m) := hy
      rw [← hy] at d1 hz1 hz0
      have y' : decide (0 ≤ y) = false := by simp; omega
      have D1 : Hid (∀ o, (w.alloc o).cell? ⟨bb, ob + m, none⟩ = some (.int .i64 y)) := fun o => ((below_alloc' (Below.refl w.heap.size w) o).cell (p := ⟨bb, ob + m, none⟩) (cell_lt d1)).trans d1
      have d2 := D1.out (.cells #[.int .u8 0, .slice none 0 0, .bool false] 53)
      clear hf hv hV hX hz hcl hy h1
      go_enter Try.func25, Try.ntmps25
      go_wp2_with (go_at_call 28; refine (HX.out _ (below_alloc' (Below.refl _ _) _)).mono ?_; rintro e w' ⟨rfl, rfl⟩)
      refine bodyPost_ret (v := .agg #[.int .u8 kd, .slice ax nx cx, .bool (decB X)]) (by simp [results, Try.results25, go_sem]) rfl ⟨⟨ax, nx, cx, X, decB X, rfl, ⟨.inr (.inl ⟨m, rfl, HM.out, by rw [← HY.out]; exact hz0, rfl, rfl, rfl, rfl, rfl⟩)⟩⟩, ?_⟩
      repeat (first | exact Below.refl _ _ | exact below_alloc' (Below.refl _ _) _ | refine Below.setCell ?_ (by simp) _)
    · obtain ⟨f, hf'⟩ := Int.eq_ofNat_of_zero_le (show 0 ≤ z m by omega)
      have hfn : f < nv := by omega
      have HM : Hid (m < nf ∧ z m = (f : Int)) := ⟨hmn, hf'⟩
      rw [hf'] at d1
      obtain ⟨b2, o2, rfl, hcl2⟩ := hv (by omega)
      have e1 : w.cell? ⟨b2, o2 + f, none⟩ = some (.slice (A f) (L f) (C f)) := hcl2 f hfn
      have hVf := hV f hfn
      have HX : Hid (∀ W, Below w.heap.size w W → Calls Try.prog 28 #[.slice (A f) (L f) (C f)] W fun e w' => e = .returned (.bool (decB (V f))) ∧ w' = W) := fun W hb => dec28 (A f) (L f) (C f) (V f) W (hVf.1.below hb) (by omega)
      have d2 := ((below_alloc' (Below.refl w.heap.size w) (.cells #[.int .u8 0, .slice none 0 0, .bool false] 53)).cell (p := ⟨bb, ob + m, none⟩) (cell_lt d1)).trans d1
      have e2 := ((below_alloc' (Below.refl w.heap.size w) (.cells #[.int .u8 0, .slice none 0 0, .bool false] 53)).cell (p := ⟨b2, o2 + f, none⟩) (cell_lt e1)).trans e1
      clear hf hv hV hX hz hcl hcl2 h1 hz1 hz0 hf' hVf
      go_enter Try.func25, Try.ntmps25
      go_wp2_with (go_at_call 28; refine (HX.out _ (below_alloc' (Below.refl _ _) _)).mono ?_; rintro e w' ⟨rfl, rfl⟩)
      refine bodyPost_ret (v := .agg #[.int .u8 kd, .slice (A f) (L f) (C f), .bool (decB (V f))]) (by simp [results, Try.results25, go_sem]) rfl ⟨⟨A f, L f, C f, V f, decB (V f), rfl, ⟨.inr (.inr ⟨m, f, rfl, HM.out.1, HM.out.2, hfn, rfl, rfl, rfl, rfl, rfl⟩)⟩⟩, ?_⟩
      repeat (first | exact Below.refl _ _ | exact below_alloc' (Below.refl _ _) _ | refine Below.setCell ?_ (by simp) _)
end Go.Proofs.Qxb6616563a
