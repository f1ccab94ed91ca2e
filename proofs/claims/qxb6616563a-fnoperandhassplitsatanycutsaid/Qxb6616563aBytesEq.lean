import Derived.Test.Qxb6616563aBase
namespace Go.Proofs.Qxb6616563a
open Go.RowKit

set_option maxHeartbeats 400000 in
theorem bytesEq_any (a b : Option Addr) (n m ca cb : Nat) (la lb : List UInt8) (w : World) (ha : Bytes w a n la) (hb : Bytes w b m lb) (hn : n ≤ 1152921504606846976) (hm : m ≤ 1152921504606846976) :
    Calls Try.prog 37 #[.slice a n ca, .slice b m cb] w fun e w' => e = .returned (.bool (eqB la lb)) ∧ ∃ k, w' = w.drewN k := by
  by_cases hnm : n = m
  · subst hnm
    go_enter Try.func37, Try.ntmps37
    go_wp2
    go_loopw [5] (fun i wr => ∃ k : Nat, k ≤ n ∧ i = .int .i64 k ∧ (∀ j, j < k → byteAt la j = byteAt lb j) ∧ ∃ q, wr = w.drewN q) (fun i _ => n - (intOf i).toNat)
    case atStart => exact ⟨0, Nat.zero_le _, rfl, fun j h => absurd h (Nat.not_lt_zero _), 0, rfl⟩
    case round =>
      obtain ⟨k, hk, rfl, hj, q, rfl⟩ := hrel
      by_cases hlt : k < n
      · obtain ⟨b1, o1, rfl, hc1⟩ := ha.2 (by omega)
        obtain ⟨b2, o2, rfl, hc2⟩ := hb.2 (by omega)
        have d1 := hc1 k hlt
        have d2 := hc2 k hlt
        have HJ : Hid (∀ j, j < k → byteAt la j = byteAt lb j) := hj
        clear hj hc1 hc2
        by_cases he : byteAt la k = byteAt lb k
        · have he' : (byteAt la k != byteAt lb k) = false := by simpa using he
          have HE : Hid (byteAt la k = byteAt lb k) := he
          clear he
          go_wp2
          go_quiet (fail)
          go_wp2
          go_roundw
          case rel => exact ⟨k + 1, by omega, by go_num, fun j h => by rcases Nat.lt_succ_iff_lt_or_eq.1 h with h | rfl; exact HJ.out j h; exact HE.out, _, rfl⟩
          case measure => simp [intOf]; omega
        · have he' : (byteAt la k != byteAt lb k) = true := by simpa using he
          have HE : Hid (eqB la lb = false) := eqB_at he
          clear he
          go_wp2
          go_quiet (fail)
          go_wp2
          go_ret
          exact ⟨by rw [HE.out]; rfl, drew_end⟩
      · have HE : Hid (eqB la lb = true) := eqB_of ha.1 hb.1 (fun j h => hj j (by omega))
        go_wp2
        go_ret
        exact ⟨by rw [HE.out]; rfl, _, rfl⟩
  · have HE : Hid (eqB la lb = false) := eqB_len ha.1 hb.1 hnm
    have hnm' : ((n : Int) != (m : Int)) = true := by simp; omega
    go_enter Try.func37, Try.ntmps37
    go_wp2
    go_ret
    exact ⟨by rw [HE.out]; rfl, 0, rfl⟩
end Go.Proofs.Qxb6616563a
