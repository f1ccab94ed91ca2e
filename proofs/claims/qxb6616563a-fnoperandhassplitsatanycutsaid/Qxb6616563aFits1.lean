import Derived.Test.Qxb6616563aLeaf2
namespace Go.Proofs.Qxb6616563a
open Go.RowKit

/-- it returned a bool; and if it is true, p holds -/
def SaysB (e : Ending) (p : Prop) : Prop := ∃ b, e = .returned (.bool b) ∧ (b = true → p)
theorem SaysB.no {e : Ending} {p : Prop} (h : e = .returned (.bool false)) : SaysB e p := ⟨false, h, fun h => by cases h⟩
theorem SaysB.yes {e : Ending} {p : Prop} (h : e = .returned (.bool true)) (hp : p) : SaysB e p := ⟨true, h, fun _ => hp⟩

set_option maxHeartbeats 1000000 in
theorem zz8_any (op lk rk ls rs : Int) (text : ByteArray) (af aw av : Option Addr) (nf nw nv cf cw cv : Nat) (W : Nat → ByteArray) (A : Nat → Option Addr) (L C : Nat → Nat) (w : World)
    (hw : Sl w aw nw (fun i => .string (W i))) (hv : Sl w av nv (fun i => .slice (A i) (L i) (C i)))
    (ht : text.size ≤ 9223372036854775807) (hnf : nf ≤ 9223372036854775807) (hnw : nw ≤ 9223372036854775807) (hnv : nv ≤ 9223372036854775807) (hW : ∀ i, i < nw → (W i).size ≤ 9223372036854775807) (hL : ∀ i, i < nv → L i ≤ 9223372036854775807) :
    Calls Try.prog 8 #[.int .u8 op, .int .u8 lk, .int .i64 ls, .int .u8 rk, .int .i64 rs, .string text, .slice af nf cf, .slice aw nw cw, .slice av nv cv] w fun e w' => SaysB e True ∧ w' = w := by
  have HW : Hid (∀ i, i < nw → (W i).size ≤ 9223372036854775807) := hW
  have HL : Hid (∀ i, i < nv → L i ≤ 9223372036854775807) := hL
  clear hW hL
  go_enter Try.func8, Try.ntmps8
  go_wp2
  all_goals try (go_ret; exact ⟨SaysB.no rfl, rfl⟩)
  go_loop [19, 20] (fun t i => ∃ (k : Nat) (T : Int), k ≤ nw ∧ i = .int .i64 k ∧ t = .int .i64 T ∧ 0 ≤ T ∧ T ≤ 1048576) (fun _ i => nw - (intOf i).toNat)
  case atStart => exact ⟨0, _, Nat.zero_le _, rfl, rfl, by omega, by omega⟩
  case round =>
    obtain ⟨k, T, hk, rfl, rfl, hT0, hT1⟩ := hrel
    by_cases hlt : k < nw
    · obtain ⟨b1, o1, rfl, hc1⟩ := hw (by omega)
      have d1 := hc1 k hlt
      have d2 := HW.out k hlt
      clear hc1
      go_wp2
      all_goals try (go_ret; exact ⟨SaysB.no rfl, rfl⟩)
      go_round
      case rel => exact ⟨k + 1, _, by omega, by go_num, rfl, by omega, by omega⟩
      case measure => simp [intOf]; omega
    · go_wp2
      all_goals try (go_ret; exact ⟨SaysB.no rfl, rfl⟩)
      go_loop [19, 21] (fun t i => ∃ (k : Nat) (T : Int), k ≤ nv ∧ i = .int .i64 k ∧ t = .int .i64 T ∧ 0 ≤ T ∧ T ≤ 1048576) (fun _ i => nv - (intOf i).toNat)
      case atStart => exact ⟨0, _, Nat.zero_le _, rfl, rfl, by omega, by omega⟩
      case round =>
        obtain ⟨k2, T2, hk2, rfl, rfl, hS0, hS1⟩ := hrel
        by_cases hlt2 : k2 < nv
        · obtain ⟨b2, o2, rfl, hc2⟩ := hv (by omega)
          have d1 := hc2 k2 hlt2
          have d2 := HL.out k2 hlt2
          clear hc2
          go_wp2
          all_goals try (go_ret; exact ⟨SaysB.no rfl, rfl⟩)
          go_round
          case rel => exact ⟨k2 + 1, _, by omega, by go_num, rfl, by omega, by omega⟩
          case measure => simp [intOf]; omega
        · go_wp2
          go_ret
          exact ⟨SaysB.yes rfl trivial, rfl⟩
end Go.Proofs.Qxb6616563a
