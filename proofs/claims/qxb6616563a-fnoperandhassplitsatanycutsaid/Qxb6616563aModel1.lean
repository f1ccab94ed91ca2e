/-
  The model's small functions.
-/
import Derived.Test.Qxb6616563aDec
namespace Go.Proofs.Qxb6616563a
open Go.RowKit

/-- b1DigitsAllZero -/
def allZ (l : List UInt8) : Bool := l.all (fun c => !(digP (c.toNat : Int)) || (c.toNat : Int) == 48)
theorem allZ_no {l : List UInt8} {k : Nat} (hk : k < l.length) (h : digP (byteAt l k) = true) (h2 : (byteAt l k == 48) = false) : allZ l = false := by
  unfold allZ
  rw [List.all_eq_false]
  refine ⟨l[k], List.getElem_mem hk, ?_⟩
  rw [byteAt_get hk] at h h2
  simp [h, h2]
theorem allZ_yes {l : List UInt8} {n : Nat} (hn : l.length = n) (h : ∀ k, k < n → digP (byteAt l k) = false ∨ (byteAt l k == 48) = true) : allZ l = true := by
  unfold allZ
  rw [List.all_eq_true]
  intro c hc
  obtain ⟨i, hi, rfl⟩ := List.mem_iff_getElem.1 hc
  rcases h i (by omega) with h | h
  · rw [byteAt_get hi] at h; simp [h]
  · rw [byteAt_get hi] at h; simp [h]

set_option maxHeartbeats 400000 in
theorem allZ30 (a : Option Addr) (n c : Nat) (l : List UInt8) (w : World) (ha : Bytes w a n l) (hn : n ≤ 1099511627776) :
    Calls Try.prog 30 #[.slice a n c] w fun e w' => e = .returned (.bool (allZ l)) ∧ w' = w := by
  have HL : Hid (l.length = n) := ha.1
  have ha := ha.2
  go_enter Try.func30, Try.ntmps30
  go_wp2
  go_loop [3] (fun i => ∃ k : Nat, k ≤ n ∧ i = .int .i64 k ∧ ∀ j, j < k → digP (byteAt l j) = false ∨ (byteAt l j == 48) = true) (fun i => n - (intOf i).toNat)
  case atStart => exact ⟨0, Nat.zero_le _, rfl, fun j h => absurd h (Nat.not_lt_zero _)⟩
  case round =>
    obtain ⟨k, hk, rfl, hj⟩ := hrel
    have HJ : Hid (∀ j, j < k → digP (byteAt l j) = false ∨ (byteAt l j == 48) = true) := hj
    clear hj
    by_cases hlt : k < n
    · obtain ⟨b1, o1, rfl, hc1⟩ := ha (by omega)
      have d1 : w.cell? ⟨b1, o1 + k, none⟩ = some (.int .u8 (byteAt l k)) := hc1 k hlt
      clear hc1
      cases hz : digP (byteAt l k) with
      | false =>
        go_wp2_with (go_at_call 40; refine (dig40 _ _).mono ?_; rintro e w' ⟨rfl, rfl⟩)
        go_round
        case rel => exact ⟨k + 1, by omega, by go_num, fun j h => by rcases Nat.lt_succ_iff_lt_or_eq.1 h with h | rfl; exact HJ.out j h; exact .inl hz⟩
        case measure => simp [intOf]; omega
      | true =>
        cases hq : (byteAt l k == 48) with
        | true =>
          have hq' : (byteAt l k != 48) = false := by simp [bne, hq]
          go_wp2_with (go_at_call 40; refine (dig40 _ _).mono ?_; rintro e w' ⟨rfl, rfl⟩)
          go_round
          case rel => exact ⟨k + 1, by omega, by go_num, fun j h => by rcases Nat.lt_succ_iff_lt_or_eq.1 h with h | rfl; exact HJ.out j h; exact .inr hq⟩
          case measure => simp [intOf]; omega
        | false =>
          have hq' : (byteAt l k != 48) = true := by simp [bne, hq]
          have HZ : Hid (allZ l = false) := allZ_no (by rw [HL.out]; exact hlt) hz hq
          go_wp2_with (go_at_call 40; refine (dig40 _ _).mono ?_; rintro e w' ⟨rfl, rfl⟩)
          go_ret
          exact ⟨by rw [HZ.out]; rfl, rfl⟩
    · have HZ : Hid (allZ l = true) := allZ_yes HL.out (fun j h => HJ.out j (by omega))
      go_wp2
      go_ret
      exact ⟨by rw [HZ.out]; rfl, rfl⟩

def fromRight (l : List UInt8) (p : Nat) : Int := if p < l.length then byteAt l (l.length - 1 - p) else 48
def fromLeft (l : List UInt8) (p : Nat) : Int := if p < l.length then byteAt l p else 48

theorem right62 (a : Option Addr) (n c p : Nat) (l : List UInt8) (w : World) (ha : Bytes w a n l) (hn : n ≤ 1099511627776) (hp : p ≤ 1099511627776) :
    Calls Try.prog 62 #[.slice a n c, .int .i64 p] w fun e w' => e = .returned (.int .u8 (fromRight l p)) ∧ w = w' := by
  have HL : Hid (l.length = n) := ha.1
  by_cases h : p < n
  · obtain ⟨b1, o1, rfl, hc1⟩ := ha.2 (by omega)
    obtain ⟨q, hq⟩ : ∃ q, q = n - 1 - p := ⟨_, rfl⟩
    have d1 : w.cell? ⟨b1, o1 + q, none⟩ = some (.int .u8 (byteAt l q)) := hc1 q (by omega)
    have HR : Hid (fromRight l p = byteAt l q) := by show _ = _; unfold fromRight; rw [HL.out, if_pos h, hq]
    have hnq : n = q + 1 + p := by omega
    subst hnq
    clear hc1 hq ha
    have e1 : ((q + 1 + p : Nat) : Int) - 1 - (p : Int) = (q : Int) := by omega
    go_enter Try.func62, Try.ntmps62
    go_wp2
    go_ret
    exact ⟨by rw [HR.out]; rfl, rfl⟩
  · have HR : Hid (fromRight l p = 48) := by show _ = _; unfold fromRight; rw [HL.out, if_neg h]
    go_enter Try.func62, Try.ntmps62
    go_wp2
    go_ret
    exact ⟨by rw [HR.out]; rfl, rfl⟩

theorem left63 (a : Option Addr) (n c p : Nat) (l : List UInt8) (w : World) (ha : Bytes w a n l) (hn : n ≤ 1099511627776) (hp : p ≤ 1099511627776) :
    Calls Try.prog 63 #[.slice a n c, .int .i64 p] w fun e w' => e = .returned (.int .u8 (fromLeft l p)) ∧ w = w' := by
  have HL : Hid (l.length = n) := ha.1
  by_cases h : p < n
  · obtain ⟨b1, o1, rfl, hc1⟩ := ha.2 (by omega)
    have d1 : w.cell? ⟨b1, o1 + p, none⟩ = some (.int .u8 (byteAt l p)) := hc1 p h
    have HR : Hid (fromLeft l p = byteAt l p) := by show _ = _; unfold fromLeft; rw [HL.out, if_pos h]
    clear hc1 ha
    go_enter Try.func63, Try.ntmps63
    go_wp2
    go_ret
    exact ⟨by rw [HR.out]; rfl, rfl⟩
  · have HR : Hid (fromLeft l p = 48) := by show _ = _; unfold fromLeft; rw [HL.out, if_neg h]
    go_enter Try.func63, Try.ntmps63
    go_wp2
    go_ret
    exact ⟨by rw [HR.out]; rfl, rfl⟩
end Go.Proofs.Qxb6616563a
