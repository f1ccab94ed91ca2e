import Derived.Test.Qxb6616889aEnc
namespace Go.Proofs.Qxb6616889a
open Go.RowKit

theorem byteAt_be (v : Nat) (hv : v < 4294967296) : byteAt (Lib.beBytes 4 v) 0 = (v / 16777216 : Nat) ∧ byteAt (Lib.beBytes 4 v) 1 = (v / 65536 % 256 : Nat) ∧ byteAt (Lib.beBytes 4 v) 2 = (v / 256 % 256 : Nat) ∧ byteAt (Lib.beBytes 4 v) 3 = (v % 256 : Nat) := by
  have h1 : v / 256 / 256 / 256 % 256 = v / 16777216 := by omega
  have h2 : v / 256 / 256 % 256 = v / 65536 % 256 := by omega
  refine ⟨?_, ?_, ?_, ?_⟩ <;> simp only [byteAt, Lib.beBytes, Lib.leBytes, List.reverse_cons, List.reverse_nil, List.nil_append, List.cons_append, List.getD_cons_zero, List.getD_cons_succ, Lib.toUInt8_mod] <;> omega

/-- the order of the encodings is the order of the numbers -/
theorem order (v u : Nat) (hv : v < 4294967296) (hu : u < 4294967296) {r : Int} (h : CmpIs (Lib.beBytes 4 v) (Lib.beBytes 4 u) r) : r = if v < u then -1 else if u < v then 1 else 0 := by
  obtain ⟨a0, a1, a2, a3⟩ := byteAt_be v hv
  obtain ⟨b0, b1, b2, b3⟩ := byteAt_be u hu
  unfold CmpIs at h
  simp only [Lib.beBytes_length] at h
  rcases h with ⟨k, hk, _, hj, hl, rfl⟩ | ⟨k, hk, _, hj, hl, rfl⟩ | ⟨hj, rfl⟩
  · have : v < u := by
      have j0 := hj 0; have j1 := hj 1; have j2 := hj 2
      rw [a0, b0] at j0; rw [a1, b1] at j1; rw [a2, b2] at j2
      rcases k with _ | _ | _ | _ | k
      · rw [a0, b0] at hl; omega
      · rw [a1, b1] at hl; have := j0 (by omega); omega
      · rw [a2, b2] at hl; have := j0 (by omega); have := j1 (by omega); omega
      · rw [a3, b3] at hl; have := j0 (by omega); have := j1 (by omega); have := j2 (by omega); omega
      · omega
    rw [if_pos this]
  · have : u < v := by
      have j0 := hj 0; have j1 := hj 1; have j2 := hj 2
      rw [a0, b0] at j0; rw [a1, b1] at j1; rw [a2, b2] at j2
      rcases k with _ | _ | _ | _ | k
      · rw [a0, b0] at hl; omega
      · rw [a1, b1] at hl; have := j0 (by omega); omega
      · rw [a2, b2] at hl; have := j0 (by omega); have := j1 (by omega); omega
      · rw [a3, b3] at hl; have := j0 (by omega); have := j1 (by omega); have := j2 (by omega); omega
      · omega
    rw [if_neg (by omega), if_pos this]
  · have : v = u := by
      have j0 := hj 0 (by omega) (by omega); have j1 := hj 1 (by omega) (by omega); have j2 := hj 2 (by omega) (by omega); have j3 := hj 3 (by omega) (by omega)
      rw [a0, b0] at j0; rw [a1, b1] at j1; rw [a2, b2] at j2; rw [a3, b3] at j3
      omega
    subst this
    simp

theorem hid {p : Prop} (h : p) : Hid p := h

theorem Bytes.step {w w' : World} {B : Nat} {a : Option Addr} {n : Nat} {l : List UInt8} (h : Bytes w a n l) (hb : Below B w w') (hB : w.heap.size ≤ B) : Bytes w' a n l := h.below (hb.mono hB)

theorem zz9_in (a : Option Addr) (n c : Nat) (x y : Int) (w : World) (h : n ≤ 1048576) :
    Calls Try.prog 9 #[.slice a n c, .int .u32 x, .int .u32 y] w fun e w' => e = .returned (.bool true) ∧ w = w' := by
  go_enter Try.func9, Try.ntmps9
  go_wp2
  go_ret
  exact ⟨rfl, rfl⟩
theorem zz9_out (a : Option Addr) (n c : Nat) (x y : Int) (w : World) (h : ¬ n ≤ 1048576) :
    Calls Try.prog 9 #[.slice a n c, .int .u32 x, .int .u32 y] w fun e w' => e = .returned (.bool false) ∧ w = w' := by
  go_enter Try.func9, Try.ntmps9
  go_wp2
  go_ret
  exact ⟨rfl, rfl⟩

theorem own_bytes {w : World} {B n c : Nat} {a : Option Addr} {l : List UInt8} (h : w.ownsRow B 5 1 (.slice a n c) n (Lib.byteCells l)) : Bytes w a n l := by
  obtain ⟨a', c', h1, h2⟩ := ownsRow_bytes h
  cases h1
  exact h2
theorem eqB_self (l : List UInt8) : eqB l l = true := by simp [eqB]

theorem sl_drawn {w wr : World} {a : Option Addr} {n : Nat} {l : List UInt8} (h : Bytes w a n l) (hq : ∃ q, wr = w.drewN q) : Bytes wr a n l := ⟨h.1, h.2.drawn hq⟩
theorem below_drawn {B : Nat} {w0 w wr : World} (h : Below B w0 w) (hq : ∃ q, wr = w.drewN q) : Below B w0 wr := by
  obtain ⟨q, rfl⟩ := hq
  exact below_drewN' h q

set_option maxHeartbeats 8000000 in
theorem main5_lt (a : Option Addr) (n c : Nat) (l : List UInt8) (v u : Nat) (hv : v < 4294967296) (hu : u < 4294967296) (w : World) (ha : Bytes w a n l) (hs : n ≤ 1048576) (ho : v < u) :
    Calls Try.prog 5 #[.slice a n c, .int .u32 v, .int .u32 u] w fun e w' => e = .returned (.bool true) ∧ Below w.heap.size w w' := by
  have HA : Hid (Bytes w a n l) := ha
  have HV : Hid (v < 4294967296) := hv
  have HU : Hid (u < 4294967296) := hu
  clear ha
  have HO : Hid (∀ r, CmpIs (Lib.beBytes 4 v) (Lib.beBytes 4 u) r → r = -1) := fun r h => by rw [order v u hv hu h, if_pos ho]
  go_enter Try.func5, Try.ntmps5
  go_wp2_with (first
    | (go_at_call 9; refine (zz9_in a n c v u w hs).mono ?_; rintro _ _ ⟨rfl, rfl⟩)
    | (go_at_call 10; refine (clone_any a n c l w HA.out (by omega)).mono ?_; rintro _ W1 ⟨⟨_, rfl, h1⟩, b1⟩; have T1 := hid b1; have H1 := hid h1; clear b1 h1; obtain ⟨_, a1, c1, rfl, _⟩ := ownsRow_shape H1.out)
    | (go_at_call 11; refine (enc_any W4.heap.size 0 u 0 none HU.out [] W4 (World.ownsRow_nil _ _ _ _) (Nat.le_refl _) (by omega)).mono ?_; rintro _ W5 ⟨⟨a5, c5, rfl, h5⟩, b5⟩; have B5 := hid b5; have E5 : Hid (Bytes W5 a5 4 (Lib.beBytes 4 u)) := own_bytes h5; have T5 := hid (T4.out.trans (b5.mono T4.out.size)); clear b5 h5)
    | (go_at_call 11; refine (enc_any W3.heap.size 0 v 0 none HV.out [] W3 (World.ownsRow_nil _ _ _ _) (Nat.le_refl _) (by omega)).mono ?_; rintro _ W4 ⟨⟨a4, c4, rfl, h4⟩, b4⟩; have B4 := hid b4; have E4 : Hid (Bytes W4 a4 4 (Lib.beBytes 4 v)) := own_bytes h4; have T4 := hid (T3.out.trans (b4.mono T3.out.size)); clear b4 h4)
    | (go_at_call 11; refine (enc_any w.heap.size (n + 4) u c2 a2 HU.out _ W2 H2.out T2.out.size (by omega)).mono ?_; rintro _ W3 ⟨⟨a3, c3, rfl, h3⟩, b3⟩; have T3 := hid (T2.out.trans b3); have E3 := hid (own_bytes h3); clear b3 h3)
    | (go_at_call 11; refine (enc_any w.heap.size n v c1 a1 HV.out l W1 H1.out T1.out.size (by omega)).mono ?_; rintro _ W2 ⟨⟨a2, c2, rfl, h2⟩, b2⟩; have T2 := hid (T1.out.trans b2); have H2 := hid h2; clear b2 h2)
    | (go_at_call 12; refine (concat_any a6 a5 (n + 4) 4 (n + 4) c5 _ _ W6 E6.out (E5.out.below B6.out) (by omega) (by omega)).mono ?_; rintro _ W7 ⟨⟨a7, rfl, h7⟩, b7⟩; have B7 := hid b7; have E7 := hid h7; have T7 := hid (T6.out.trans (b7.mono T6.out.size)); clear b7 h7)
    | (go_at_call 12; refine (concat_any a a4 n 4 c c4 _ _ W5 (HA.out.below T5.out) (E4.out.below B5.out) (by omega) (by omega)).mono ?_; rintro _ W6 ⟨⟨a6, rfl, h6⟩, b6⟩; have B6 := hid b6; have E6 := hid h6; have T6 := hid (T5.out.trans (b6.mono T5.out.size)); clear b6 h6)
    | (go_at_call 13; refine (bytesEq_any a3 a7 (n + 4 + 4) (n + 4 + 4) c3 (n + 4 + 4) _ _ W7 (((E3.out.below B4.out).below B5.out).below (B6.out.trans (B7.out.mono B6.out.size))) E7.out (by omega) (by omega)).mono ?_; rintro _ W8 ⟨rfl, q8⟩; have T8 := hid q8; clear q8; rw [eqB_self])
    | (go_at_call 14; have K4 : Hid (Bytes W8 a4 4 (Lib.beBytes 4 v)) := sl_drawn (((E4.out.below B5.out).below B6.out).below B7.out) T8.out; have K5 : Hid (Bytes W8 a5 4 (Lib.beBytes 4 u)) := sl_drawn ((E5.out.below B6.out).below B7.out) T8.out; have K6 := hid (cmp_any a4 a5 4 c4 c5 _ _ W8 K4.out K5.out (by decide)); refine K6.out.mono ?_; rintro _ W9 ⟨⟨r, rfl, h9⟩, q9⟩; have T9 := hid q9; clear q9; obtain rfl := HO.out _ h9; clear h9 K4 K5 K6)
    | fail)
  go_ret
  exact ⟨rfl, below_drawn (below_drawn T7.out T8.out) T9.out⟩

set_option maxHeartbeats 8000000 in
theorem main5_eq (a : Option Addr) (n c : Nat) (l : List UInt8) (v : Nat) (hv : v < 4294967296) (w : World) (ha : Bytes w a n l) (hs : n ≤ 1048576) :
    Calls Try.prog 5 #[.slice a n c, .int .u32 v, .int .u32 v] w fun e w' => e = .returned (.bool true) ∧ Below w.heap.size w w' := by
  have HA : Hid (Bytes w a n l) := ha
  have HV : Hid (v < 4294967296) := hv
  clear ha
  have HO : Hid (∀ r, CmpIs (Lib.beBytes 4 v) (Lib.beBytes 4 v) r → r = 0) := fun r h => by rw [order v v hv hv h, if_neg (by omega), if_neg (by omega)]
  go_enter Try.func5, Try.ntmps5
  go_wp2_with (first
    | (go_at_call 9; refine (zz9_in a n c v v w hs).mono ?_; rintro _ _ ⟨rfl, rfl⟩)
    | (go_at_call 10; refine (clone_any a n c l w HA.out (by omega)).mono ?_; rintro _ W1 ⟨⟨_, rfl, h1⟩, b1⟩; have T1 := hid b1; have H1 := hid h1; clear b1 h1; obtain ⟨_, a1, c1, rfl, _⟩ := ownsRow_shape H1.out)
    | (go_at_call 11; refine (enc_any W4.heap.size 0 v 0 none HV.out [] W4 (World.ownsRow_nil _ _ _ _) (Nat.le_refl _) (by omega)).mono ?_; rintro _ W5 ⟨⟨a5, c5, rfl, h5⟩, b5⟩; have B5 := hid b5; have E5 : Hid (Bytes W5 a5 4 (Lib.beBytes 4 v)) := own_bytes h5; have T5 := hid (T4.out.trans (b5.mono T4.out.size)); clear b5 h5)
    | (go_at_call 11; refine (enc_any W3.heap.size 0 v 0 none HV.out [] W3 (World.ownsRow_nil _ _ _ _) (Nat.le_refl _) (by omega)).mono ?_; rintro _ W4 ⟨⟨a4, c4, rfl, h4⟩, b4⟩; have B4 := hid b4; have E4 : Hid (Bytes W4 a4 4 (Lib.beBytes 4 v)) := own_bytes h4; have T4 := hid (T3.out.trans (b4.mono T3.out.size)); clear b4 h4)
    | (go_at_call 11; refine (enc_any w.heap.size (n + 4) v c2 a2 HV.out _ W2 H2.out T2.out.size (by omega)).mono ?_; rintro _ W3 ⟨⟨a3, c3, rfl, h3⟩, b3⟩; have T3 := hid (T2.out.trans b3); have E3 := hid (own_bytes h3); clear b3 h3)
    | (go_at_call 11; refine (enc_any w.heap.size n v c1 a1 HV.out l W1 H1.out T1.out.size (by omega)).mono ?_; rintro _ W2 ⟨⟨a2, c2, rfl, h2⟩, b2⟩; have T2 := hid (T1.out.trans b2); have H2 := hid h2; clear b2 h2)
    | (go_at_call 12; refine (concat_any a6 a5 (n + 4) 4 (n + 4) c5 _ _ W6 E6.out (E5.out.below B6.out) (by omega) (by omega)).mono ?_; rintro _ W7 ⟨⟨a7, rfl, h7⟩, b7⟩; have B7 := hid b7; have E7 := hid h7; have T7 := hid (T6.out.trans (b7.mono T6.out.size)); clear b7 h7)
    | (go_at_call 12; refine (concat_any a a4 n 4 c c4 _ _ W5 (HA.out.below T5.out) (E4.out.below B5.out) (by omega) (by omega)).mono ?_; rintro _ W6 ⟨⟨a6, rfl, h6⟩, b6⟩; have B6 := hid b6; have E6 := hid h6; have T6 := hid (T5.out.trans (b6.mono T5.out.size)); clear b6 h6)
    | (go_at_call 13; refine (bytesEq_any a3 a7 (n + 4 + 4) (n + 4 + 4) c3 (n + 4 + 4) _ _ W7 (((E3.out.below B4.out).below B5.out).below (B6.out.trans (B7.out.mono B6.out.size))) E7.out (by omega) (by omega)).mono ?_; rintro _ W8 ⟨rfl, q8⟩; have T8 := hid q8; clear q8; rw [eqB_self])
    | (go_at_call 14; have K4 : Hid (Bytes W8 a4 4 (Lib.beBytes 4 v)) := sl_drawn (((E4.out.below B5.out).below B6.out).below B7.out) T8.out; have K5 : Hid (Bytes W8 a5 4 (Lib.beBytes 4 v)) := sl_drawn ((E5.out.below B6.out).below B7.out) T8.out; have K6 := hid (cmp_any a4 a5 4 c4 c5 _ _ W8 K4.out K5.out (by decide)); refine K6.out.mono ?_; rintro _ W9 ⟨⟨r, rfl, h9⟩, q9⟩; have T9 := hid q9; clear q9; obtain rfl := HO.out _ h9; clear h9 K4 K5 K6)
    | fail)
  go_ret
  exact ⟨rfl, below_drawn (below_drawn T7.out T8.out) T9.out⟩

set_option maxHeartbeats 8000000 in
theorem main5_gt (a : Option Addr) (n c : Nat) (l : List UInt8) (v u : Nat) (hv : v < 4294967296) (hu : u < 4294967296) (w : World) (ha : Bytes w a n l) (hs : n ≤ 1048576) (ho : u < v) :
    Calls Try.prog 5 #[.slice a n c, .int .u32 v, .int .u32 u] w fun e w' => e = .returned (.bool true) ∧ Below w.heap.size w w' := by
  have HA : Hid (Bytes w a n l) := ha
  have HV : Hid (v < 4294967296) := hv
  have HU : Hid (u < 4294967296) := hu
  clear ha
  have HO : Hid (∀ r, CmpIs (Lib.beBytes 4 v) (Lib.beBytes 4 u) r → r = 1) := fun r h => by rw [order v u hv hu h, if_neg (by omega), if_pos ho]
  go_enter Try.func5, Try.ntmps5
  go_wp2_with (first
    | (go_at_call 9; refine (zz9_in a n c v u w hs).mono ?_; rintro _ _ ⟨rfl, rfl⟩)
    | (go_at_call 10; refine (clone_any a n c l w HA.out (by omega)).mono ?_; rintro _ W1 ⟨⟨_, rfl, h1⟩, b1⟩; have T1 := hid b1; have H1 := hid h1; clear b1 h1; obtain ⟨_, a1, c1, rfl, _⟩ := ownsRow_shape H1.out)
    | (go_at_call 11; refine (enc_any W4.heap.size 0 u 0 none HU.out [] W4 (World.ownsRow_nil _ _ _ _) (Nat.le_refl _) (by omega)).mono ?_; rintro _ W5 ⟨⟨a5, c5, rfl, h5⟩, b5⟩; have B5 := hid b5; have E5 : Hid (Bytes W5 a5 4 (Lib.beBytes 4 u)) := own_bytes h5; have T5 := hid (T4.out.trans (b5.mono T4.out.size)); clear b5 h5)
    | (go_at_call 11; refine (enc_any W3.heap.size 0 v 0 none HV.out [] W3 (World.ownsRow_nil _ _ _ _) (Nat.le_refl _) (by omega)).mono ?_; rintro _ W4 ⟨⟨a4, c4, rfl, h4⟩, b4⟩; have B4 := hid b4; have E4 : Hid (Bytes W4 a4 4 (Lib.beBytes 4 v)) := own_bytes h4; have T4 := hid (T3.out.trans (b4.mono T3.out.size)); clear b4 h4)
    | (go_at_call 11; refine (enc_any w.heap.size (n + 4) u c2 a2 HU.out _ W2 H2.out T2.out.size (by omega)).mono ?_; rintro _ W3 ⟨⟨a3, c3, rfl, h3⟩, b3⟩; have T3 := hid (T2.out.trans b3); have E3 := hid (own_bytes h3); clear b3 h3)
    | (go_at_call 11; refine (enc_any w.heap.size n v c1 a1 HV.out l W1 H1.out T1.out.size (by omega)).mono ?_; rintro _ W2 ⟨⟨a2, c2, rfl, h2⟩, b2⟩; have T2 := hid (T1.out.trans b2); have H2 := hid h2; clear b2 h2)
    | (go_at_call 12; refine (concat_any a6 a5 (n + 4) 4 (n + 4) c5 _ _ W6 E6.out (E5.out.below B6.out) (by omega) (by omega)).mono ?_; rintro _ W7 ⟨⟨a7, rfl, h7⟩, b7⟩; have B7 := hid b7; have E7 := hid h7; have T7 := hid (T6.out.trans (b7.mono T6.out.size)); clear b7 h7)
    | (go_at_call 12; refine (concat_any a a4 n 4 c c4 _ _ W5 (HA.out.below T5.out) (E4.out.below B5.out) (by omega) (by omega)).mono ?_; rintro _ W6 ⟨⟨a6, rfl, h6⟩, b6⟩; have B6 := hid b6; have E6 := hid h6; have T6 := hid (T5.out.trans (b6.mono T5.out.size)); clear b6 h6)
    | (go_at_call 13; refine (bytesEq_any a3 a7 (n + 4 + 4) (n + 4 + 4) c3 (n + 4 + 4) _ _ W7 (((E3.out.below B4.out).below B5.out).below (B6.out.trans (B7.out.mono B6.out.size))) E7.out (by omega) (by omega)).mono ?_; rintro _ W8 ⟨rfl, q8⟩; have T8 := hid q8; clear q8; rw [eqB_self])
    | (go_at_call 14; have K4 : Hid (Bytes W8 a4 4 (Lib.beBytes 4 v)) := sl_drawn (((E4.out.below B5.out).below B6.out).below B7.out) T8.out; have K5 : Hid (Bytes W8 a5 4 (Lib.beBytes 4 u)) := sl_drawn ((E5.out.below B6.out).below B7.out) T8.out; have K6 := hid (cmp_any a4 a5 4 c4 c5 _ _ W8 K4.out K5.out (by decide)); refine K6.out.mono ?_; rintro _ W9 ⟨⟨r, rfl, h9⟩, q9⟩; have T9 := hid q9; clear q9; obtain rfl := HO.out _ h9; clear h9 K4 K5 K6)
    | fail)
  go_ret
  exact ⟨rfl, below_drawn (below_drawn T7.out T8.out) T9.out⟩

theorem main5 (a : Option Addr) (n c : Nat) (l : List UInt8) (v u : Nat) (hv : v < 4294967296) (hu : u < 4294967296) (w : World) (ha : Bytes w a n l) :
    Calls Try.prog 5 #[.slice a n c, .int .u32 v, .int .u32 u] w fun e w' => e = .returned (.bool true) ∧ Below w.heap.size w w' := by
  by_cases hs : n ≤ 1048576
  · rcases Nat.lt_trichotomy v u with ho | ho | ho
    · exact main5_lt a n c l v u hv hu w ha hs ho
    · subst ho; exact main5_eq a n c l v hv w ha hs
    · exact main5_gt a n c l v u hv hu w ha hs ho
  · clear ha
    go_enter Try.func5, Try.ntmps5
    go_wp2_with (go_at_call 9; refine (zz9_out a n c v u w hs).mono ?_; rintro _ _ ⟨rfl, rfl⟩)
    go_ret
    exact ⟨rfl, Below.refl _ _⟩
end Go.Proofs.Qxb6616889a
