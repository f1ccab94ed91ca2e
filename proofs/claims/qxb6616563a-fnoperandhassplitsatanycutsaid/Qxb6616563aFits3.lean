import Derived.Test.Qxb6616563aFits2
namespace Go.Proofs.Qxb6616563a
open Go.RowKit

set_option maxRecDepth 100000 in
set_option maxHeartbeats 4000000 in
theorem zz19_any (xk xs p : Int) (xn : Bool) (ak ta an af av ax : Option Addr) (nk nt nn nf nv nx ck ct cn cf cv cx : Nat) (T A : Nat → Option Addr) (S R L C : Nat → Nat) (w : World)
    (ht : Sl w ta nt (fun i => .slice (T i) (S i) (R i))) (hv : Sl w av nv (fun i => .slice (A i) (L i) (C i)))
    (hnk : nk ≤ 9223372036854775807) (hnt : nt ≤ 9223372036854775807) (hnn : nn ≤ 9223372036854775807) (hnf : nf ≤ 9223372036854775807) (hnv : nv ≤ 9223372036854775807) (hnx : nx ≤ 9223372036854775807)
    (hS : ∀ i, i < nt → S i ≤ 9223372036854775807) (hL : ∀ i, i < nv → L i ≤ 9223372036854775807) :
    Calls Try.prog 19 #[.slice ak nk ck, .slice ta nt ct, .slice an nn cn, .slice af nf cf, .slice av nv cv, .int .u8 xk, .slice ax nx cx, .bool xn, .int .i64 xs, .int .i64 p] w fun e w' => SaysB e True ∧ w' = w := by
  have HS : Hid (∀ i, i < nt → S i ≤ 9223372036854775807) := hS
  have HL : Hid (∀ i, i < nv → L i ≤ 9223372036854775807) := hL
  clear hS hL
  go_enter Try.func19, Try.ntmps19
  go_wp2
  all_goals try (go_ret; exact ⟨SaysB.no rfl, rfl⟩)
  go_loop [21, 22] (fun t i => ∃ (k : Nat) (T : Int), k ≤ nt ∧ i = .int .i64 k ∧ t = .int .i64 T ∧ 0 ≤ T ∧ T ≤ 1048576) (fun _ i => nt - (intOf i).toNat)
  case atStart => exact ⟨0, _, Nat.zero_le _, rfl, rfl, by omega, by omega⟩
  case round =>
    obtain ⟨k, T, hk, rfl, rfl, hT0, hT1⟩ := hrel
    by_cases hlt : k < nt
    · obtain ⟨b1, o1, rfl, hc1⟩ := ht (by omega)
      have d1 := hc1 k hlt
      have d2 := HS.out k hlt
      clear hc1
      go_wp2
      all_goals try (go_ret; exact ⟨SaysB.no rfl, rfl⟩)
      go_round
      case rel => exact ⟨k + 1, _, by omega, by go_num, rfl, by omega, by omega⟩
      case measure => simp [intOf]; omega
    · go_wp2
      all_goals try (go_ret; exact ⟨SaysB.no rfl, rfl⟩)
      go_loop [21, 23] (fun t i => ∃ (k : Nat) (T : Int), k ≤ nv ∧ i = .int .i64 k ∧ t = .int .i64 T ∧ 0 ≤ T ∧ T ≤ 1048576) (fun _ i => nv - (intOf i).toNat)
      case atStart => exact ⟨0, _, Nat.zero_le _, rfl, rfl, by omega, by omega⟩
      case round =>
        obtain ⟨k2, T2, hk2, rfl, rfl, hS0, hS1⟩ := hrel
        by_cases hlt2 : k2 < nv
        · obtain ⟨b2, o2, rfl, hc2⟩ := hv (by omega)
          have d1 := hc2 k2 hlt2
          have d2 := HL.out k2 hlt2
          clear hc2
          go_wp2
          all_goals try (go_ret; exact ⟨SaysB.no rfl, rfl⟩)
          go_round
          case rel => exact ⟨k2 + 1, _, by omega, by go_num, rfl, by omega, by omega⟩
          case measure => simp [intOf]; omega
        · go_wp2
          all_goals try (go_ret; exact ⟨SaysB.no rfl, rfl⟩)
          go_ret
          exact ⟨SaysB.yes rfl trivial, rfl⟩

end Go.Proofs.Qxb6616563a
