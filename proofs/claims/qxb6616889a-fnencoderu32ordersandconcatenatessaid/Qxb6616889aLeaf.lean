import Derived.Test.Qxb6616889aBytesEq
namespace Go.Proofs.Qxb6616889a
open Go.RowKit

theorem Try.info5' : (Try.prog.info? 5).map (fun i => (i.zero, i.size, i.bytes)) = some (some (.int .u8 0), 1, 1) := by kernel_rfl

theorem zz9_any (a : Option Addr) (n c : Nat) (x y : Int) (w : World) (hn : n ≤ 1152921504606846976) :
    Calls Try.prog 9 #[.slice a n c, .int .u32 x, .int .u32 y] w fun e w' => (∃ b : Bool, e = .returned (.bool b) ∧ (b = true → n ≤ 1048576)) ∧ w' = w := by
  by_cases h : n ≤ 1048576
  · go_enter Try.func9, Try.ntmps9
    go_wp2
    go_ret
    exact ⟨⟨true, rfl, fun _ => h⟩, rfl⟩
  · go_enter Try.func9, Try.ntmps9
    go_wp2
    go_ret
    exact ⟨⟨false, rfl, fun h => by cases h⟩, rfl⟩

theorem rowIs_own {w : World} {b n B : Nat} {l : List UInt8} (h : w.rowIs b 5 n (fun i => .int .u8 (byteAt l i))) (hl : l.length = n) (hB : B ≤ b) (hm : n ≤ maxLen) :
    w.ownsRow B 5 1 (.slice (some ⟨b, 0, none⟩) n n) n (Lib.byteCells l) := by
  obtain ⟨cur, h1, h2, h3⟩ := h
  refine ⟨by rw [Lib.byteCells_length]; omega, .inr ⟨b, n, cur, rfl, hB, h1, Nat.le_refl _, hm, by omega, ?_⟩⟩
  refine List.ext_getElem? fun i => ?_
  rw [Nat.mul_one, List.take_of_length_le (by simp; omega), Array.getElem?_toList]
  rcases Nat.lt_or_ge i n with hi | hi
  · rw [h3 i hi]
    unfold byteAt Lib.byteCells
    show some (Value.int .u8 ((l.getD i 0).toNat : Int)) = _
    rw [List.getElem?_map, List.getD_eq_getElem?_getD, List.getElem?_eq_getElem (by omega)]
    rfl
  · rw [Array.getElem?_eq_none (by omega), List.getElem?_eq_none (by rw [Lib.byteCells_length]; omega)]

set_option maxHeartbeats 400000 in
theorem clone_any (a : Option Addr) (n c : Nat) (l : List UInt8) (w : World) (ha : Bytes w a n l) (hn : n ≤ 1099511627776) :
    Calls Try.prog 10 #[.slice a n c] w fun e w' => (∃ v, e = .returned v ∧ w'.ownsRow w.heap.size 5 1 v n (Lib.byteCells l)) ∧ Below w.heap.size w w' := by
  have heq := fun (w : World) => Lib.run_eql_slice_nil (P := Try.prog) w 25 5 a n c 0 0 Try.underlying25
  obtain ⟨hl, ha⟩ := ha
  have HL : Hid (l.length = n) := hl
  clear hl
  cases a with
  | none =>
    have h0 : n = 0 := by
      rcases Nat.eq_zero_or_pos n with h | h
      · exact h
      · obtain ⟨b, off, h1, _⟩ := ha h
        cases h1
    subst h0
    have : l = [] := List.eq_nil_of_length_eq_zero HL.out
    subst this
    go_enter Try.func10, Try.ntmps10
    go_wp2
    go_ret
    exact ⟨⟨_, rfl, World.ownsRow_nil _ _ _ _⟩, Below.refl _ _⟩
  | some ad =>
    have hmk := run_make_row' (P := Try.prog) 25 5 (.int .u8 0) 1 Try.underlying25 Try.info5' rfl .i64 .i64 n (by omega) (by omega)
    go_enter Try.func10, Try.ntmps10
    go_wp2
    go_loopw [4] (fun i wr => ∃ k : Nat, k ≤ n ∧ i = .int .i64 k ∧ wr.rowIs w.heap.size 5 n (fun j => if j < k then .int .u8 (byteAt l j) else .int .u8 0) ∧ Below w.heap.size w wr) (fun i _ => n - (intOf i).toNat)
    case atStart => exact ⟨0, Nat.zero_le _, rfl, (World.rowIs_made w _ n 5).congr (fun i _ => by simp), (Below.refl _ _).alloc (Nat.le_refl _) _⟩
    case round =>
      obtain ⟨k, hk, rfl, hrow, hbel⟩ := hrel
      have HR : Hid (wr.rowIs w.heap.size 5 n (fun j => if j < k then .int .u8 (byteAt l j) else .int .u8 0)) := hrow
      have HB : Hid (Below w.heap.size w wr) := hbel
      clear hrow hbel hmk
      by_cases hlt : k < n
      · obtain ⟨b1, o1, hA, hc1⟩ := (ha.below HB.out) (by omega)
        cases hA
        have d1 := hc1 k hlt
        have d2 := HR.out.cell hlt
        have d3 := HR.out.frozen k
        simp only [Nat.lt_irrefl, if_false] at d2
        clear hc1
        go_wp2
        go_roundw
        case rel =>
          refine ⟨k + 1, by omega, by go_num, (HR.out.set k _).congr (fun i _ => ?_), HB.out.setCell (Nat.le_refl _) _⟩
          by_cases h1 : i = k
          · subst h1; simp
          · by_cases h2 : i < k
            · simp [h1, h2, Nat.lt_succ_of_lt h2]
            · have h3 : ¬ i < k + 1 := by omega
              simp [h1, h2, h3]
        case measure => simp [intOf]; omega
      · go_wp2
        go_ret
        refine ⟨⟨_, rfl, rowIs_own (HR.out.congr (fun i hi => ?_)) HL.out (Nat.le_refl _) (by unfold maxLen; omega)⟩, HB.out⟩
        rw [if_pos (by omega)]

theorem byteAt_app_l {l m : List UInt8} {i : Nat} (h : i < l.length) : byteAt (l ++ m) i = byteAt l i := by
  simp [byteAt, List.getD_eq_getElem?_getD, List.getElem?_append_left h]
theorem byteAt_app_r {l m : List UInt8} {i : Nat} (h : l.length ≤ i) : byteAt (l ++ m) i = byteAt m (i - l.length) := by
  simp [byteAt, List.getD_eq_getElem?_getD, List.getElem?_append_right h]

set_option maxHeartbeats 800000 in
theorem concat_any (a b : Option Addr) (n m ca cb : Nat) (la lb : List UInt8) (w : World) (ha : Bytes w a n la) (hb : Bytes w b m lb) (hn : n ≤ 1099511627776) (hm : m ≤ 1099511627776) :
    Calls Try.prog 12 #[.slice a n ca, .slice b m cb] w fun e w' => (∃ a', e = .returned (.slice a' (n + m) (n + m)) ∧ Bytes w' a' (n + m) (la ++ lb)) ∧ Below w.heap.size w w' := by
  obtain ⟨hla, ha⟩ := ha
  obtain ⟨hlb, hb⟩ := hb
  have HLA : Hid (la.length = n) := hla
  have HLB : Hid (lb.length = m) := hlb
  clear hla hlb
  have hmk := run_make_row' (P := Try.prog) 25 5 (.int .u8 0) 1 Try.underlying25 Try.info5' rfl .i64 .i64 (n + m) (by omega) (by omega)
  have ec : ((n + m : Nat) : Int) = (n : Int) + m := by omega
  rw [ec] at hmk
  go_enter Try.func12, Try.ntmps12
  go_wp2
  go_loopw [6] (fun i wr => ∃ k : Nat, k ≤ n ∧ i = .int .i64 k ∧ wr.rowIs w.heap.size 5 (n + m) (fun j => if j < k then .int .u8 (byteAt (la ++ lb) j) else .int .u8 0) ∧ Below w.heap.size w wr) (fun i _ => n - (intOf i).toNat)
  case atStart => exact ⟨0, Nat.zero_le _, rfl, (World.rowIs_made w _ (n + m) 5).congr (fun i _ => by simp), (Below.refl _ _).alloc (Nat.le_refl _) _⟩
  case round =>
    obtain ⟨k, hk, rfl, hrow, hbel⟩ := hrel
    have HR : Hid (wr.rowIs w.heap.size 5 (n + m) (fun j => if j < k then .int .u8 (byteAt (la ++ lb) j) else .int .u8 0)) := hrow
    have HB : Hid (Below w.heap.size w wr) := hbel
    clear hrow hbel hmk
    by_cases hlt : k < n
    · obtain ⟨b1, o1, rfl, hc1⟩ := (ha.below HB.out) (by omega)
      have d1 := hc1 k hlt
      have d2 := HR.out.cell (i := k) (by omega)
      have d3 := HR.out.frozen k
      simp only [Nat.lt_irrefl, if_false] at d2
      have HE : Hid (byteAt (la ++ lb) k = byteAt la k) := byteAt_app_l (by rw [HLA.out]; exact hlt)
      clear hc1
      go_wp2
      go_roundw
      case rel =>
        refine ⟨k + 1, by omega, by go_num, (HR.out.set k _).congr (fun i _ => ?_), HB.out.setCell (Nat.le_refl _) _⟩
        by_cases h1 : i = k
        · subst h1; simp [HE.out]
        · by_cases h2 : i < k
          · simp [h1, h2, Nat.lt_succ_of_lt h2]
          · have h3 : ¬ i < k + 1 := by omega
            simp [h1, h2, h3]
      case measure => simp [intOf]; omega
    · have hkn : k = n := by omega
      subst hkn
      go_wp2
      go_loopw [7] (fun i wr => ∃ j : Nat, j ≤ m ∧ i = .int .i64 j ∧ wr.rowIs w.heap.size 5 (k + m) (fun t => if t < k + j then .int .u8 (byteAt (la ++ lb) t) else .int .u8 0) ∧ Below w.heap.size w wr) (fun i _ => m - (intOf i).toNat)
      case atStart => exact ⟨0, Nat.zero_le _, rfl, HR.out, HB.out⟩
      case round =>
        obtain ⟨j, hj, rfl, hrow, hbel⟩ := hrel
        have HR2 : Hid (wr.rowIs w.heap.size 5 (k + m) (fun t => if t < k + j then .int .u8 (byteAt (la ++ lb) t) else .int .u8 0)) := hrow
        have HB2 : Hid (Below w.heap.size w wr) := hbel
        clear hrow hbel
        by_cases hlt2 : j < m
        · obtain ⟨b1, o1, rfl, hc1⟩ := (hb.below HB2.out) (by omega)
          have d1 := hc1 j hlt2
          have d2 := HR2.out.cell (i := k + j) (by omega)
          have d3 := HR2.out.frozen (k + j)
          simp only [Nat.lt_irrefl, if_false] at d2
          have HE : Hid (byteAt (la ++ lb) (k + j) = byteAt lb j) := by
            have h := byteAt_app_r (l := la) (m := lb) (i := k + j) (by rw [HLA.out]; omega)
            rw [HLA.out, Nat.add_sub_cancel_left] at h
            exact h
          have ej : ((k : Int) + (j : Int)).toNat = k + j := by omega
          clear hc1
          go_wp2
          go_roundw
          case rel =>
            refine ⟨j + 1, by omega, by go_num, (HR2.out.set (k + j) _).congr (fun i _ => ?_), HB2.out.setCell (Nat.le_refl _) _⟩
            by_cases h1 : i = k + j
            · subst h1; simp [HE.out]
            · by_cases h2 : i < k + j
              · have h3 : i < k + (j + 1) := by omega
                simp [h1, h2, h3]
              · have h3 : ¬ i < k + (j + 1) := by omega
                simp [h1, h2, h3]
          case measure => simp [intOf]; omega
        · go_wp2
          go_ret
          refine ⟨⟨_, rfl, by rw [List.length_append, HLA.out, HLB.out], fun _ => ⟨w.heap.size, 0, rfl, fun i hi => ?_⟩⟩, HB2.out⟩
          have := HR2.out.cell hi
          rw [if_pos (by omega)] at this
          simpa using this

def CmpIs (la lb : List UInt8) (r : Int) : Prop :=
  (∃ k, k < la.length ∧ k < lb.length ∧ (∀ j, j < k → byteAt la j = byteAt lb j) ∧ byteAt la k < byteAt lb k ∧ r = -1) ∨
  (∃ k, k < la.length ∧ k < lb.length ∧ (∀ j, j < k → byteAt la j = byteAt lb j) ∧ byteAt lb k < byteAt la k ∧ r = 1) ∨
  ((∀ j, j < la.length → j < lb.length → byteAt la j = byteAt lb j) ∧ r = if la.length < lb.length then -1 else if lb.length < la.length then 1 else 0)

set_option maxHeartbeats 800000 in
theorem cmp_any (a b : Option Addr) (n ca cb : Nat) (la lb : List UInt8) (w : World) (ha : Bytes w a n la) (hb : Bytes w b n lb) (hn : n ≤ 1099511627776) :
    Calls Try.prog 14 #[.slice a n ca, .slice b n cb] w fun e w' => (∃ r, e = .returned (.int .i64 r) ∧ CmpIs la lb r) ∧ ∃ k, w' = w.drewN k := by
  obtain ⟨hla, ha⟩ := ha
  obtain ⟨hlb, hb⟩ := hb
  have HLA : Hid (la.length = n) := hla
  have HLB : Hid (lb.length = n) := hlb
  clear hla hlb
  go_enter Try.func14, Try.ntmps14
  go_wp2
  go_loopw [6] (fun i wr => ∃ k : Nat, k ≤ n ∧ i = .int .i64 k ∧ (∀ j, j < k → byteAt la j = byteAt lb j) ∧ ∃ q, wr = w.drewN q) (fun i _ => n - (intOf i).toNat)
  case atStart => exact ⟨0, Nat.zero_le _, rfl, fun j h => absurd h (Nat.not_lt_zero _), 0, rfl⟩
  case round =>
    obtain ⟨k, hk, rfl, hj, q, rfl⟩ := hrel
    have HJ : Hid (∀ j, j < k → byteAt la j = byteAt lb j) := hj
    clear hj
    by_cases hlt : k < n
    · obtain ⟨b1, o1, rfl, hc1⟩ := ha (by omega)
      obtain ⟨b2, o2, rfl, hc2⟩ := hb (by omega)
      have d1 := hc1 k hlt
      have d2 := hc2 k hlt
      clear hc1 hc2
      rcases Int.lt_trichotomy (byteAt la k) (byteAt lb k) with he | he | he
      · have HE : Hid (byteAt la k < byteAt lb k) := he
        have he' : decide (byteAt la k < byteAt lb k) = true := by simpa using he
        clear he
        go_wp2
        go_quiet (fail)
        go_wp2
        go_ret
        exact ⟨⟨_, rfl, .inl ⟨k, by rw [HLA.out]; exact hlt, by rw [HLB.out]; exact hlt, HJ.out, HE.out, rfl⟩⟩, drew_end⟩
      · have HE : Hid (byteAt la k = byteAt lb k) := he
        have he' : decide (byteAt la k < byteAt lb k) = false := by simp; omega
        have he2 : decide (byteAt lb k < byteAt la k) = false := by simp; omega
        clear he
        go_wp2
        go_quiet (fail)
        go_wp2
        go_quiet (fail)
        go_wp2
        go_roundw
        case rel => exact ⟨k + 1, by omega, by go_num, fun j h => by rcases Nat.lt_succ_iff_lt_or_eq.1 h with h | rfl; exact HJ.out j h; exact HE.out, _, rfl⟩
        case measure => simp [intOf]; omega
      · have HE : Hid (byteAt lb k < byteAt la k) := he
        have he' : decide (byteAt la k < byteAt lb k) = false := by simp; omega
        have he2 : decide (byteAt lb k < byteAt la k) = true := by simpa using he
        clear he
        go_wp2
        go_quiet (fail)
        go_wp2
        go_quiet (fail)
        go_wp2
        go_ret
        exact ⟨⟨_, rfl, .inr (.inl ⟨k, by rw [HLA.out]; exact hlt, by rw [HLB.out]; exact hlt, HJ.out, HE.out, rfl⟩)⟩, drew_more drew_end⟩
    · have HE : Hid (CmpIs la lb 0) := .inr (.inr ⟨fun j h _ => HJ.out j (by rw [HLA.out] at h; omega), by rw [HLA.out, HLB.out]; simp⟩)
      go_wp2
      go_ret
      exact ⟨⟨_, rfl, HE.out⟩, _, rfl⟩
end Go.Proofs.Qxb6616889a
