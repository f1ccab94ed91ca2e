import Derived.Test.Qxb6616563aFits1
namespace Go.Proofs.Qxb6616563a
open Go.RowKit

/-- what b1ExplainFits's yes says -/
structure XFits (ls rs : Int) (text : ByteArray) (nf nw nv : Nat) (z : Nat → Int) (W : Nat → ByteArray) (L : Nat → Nat) : Prop where
  t : text.size ≤ 1048576
  f : nf ≤ 1048576
  v : nv ≤ 1048576
  wf : nw = nf
  words : ∀ i, i < nw → (W i).size ≤ 1048576
  vals : ∀ i, i < nv → L i ≤ 1048576
  l0 : -1 ≤ ls
  l1 : ls < nf
  r0 : -1 ≤ rs
  r1 : rs < nf
  fields : ∀ j, j < nf → -1 ≤ z j ∧ z j < nv

set_option maxRecDepth 100000 in
set_option maxHeartbeats 4000000 in
theorem fits9_any (op lk rk ls rs : Int) (text : ByteArray) (af aw av : Option Addr) (nf nw nv cf cw cv : Nat) (z : Nat → Int) (W : Nat → ByteArray) (A : Nat → Option Addr) (L C : Nat → Nat) (w : World)
    (hf : Sl w af nf (fun i => .int .i64 (z i))) (hw : Sl w aw nw (fun i => .string (W i))) (hv : Sl w av nv (fun i => .slice (A i) (L i) (C i)))
    (ht : text.size ≤ 9223372036854775807) (hnf : nf ≤ 9223372036854775807) (hnw : nw ≤ 9223372036854775807) (hnv : nv ≤ 9223372036854775807) (hW : ∀ i, i < nw → (W i).size ≤ 9223372036854775807) (hL : ∀ i, i < nv → L i ≤ 9223372036854775807) :
    Calls Try.prog 9 #[.int .u8 op, .int .u8 lk, .int .i64 ls, .int .u8 rk, .int .i64 rs, .string text, .slice none 0 0, .slice af nf cf, .slice aw nw cw, .slice av nv cv] w fun e w' => SaysB e (XFits ls rs text nf nw nv z W L) ∧ w' = w := by
  have HW : Hid (∀ i, i < nw → (W i).size ≤ 9223372036854775807) := hW
  have HL : Hid (∀ i, i < nv → L i ≤ 9223372036854775807) := hL
  clear hW hL
  by_cases h1 : text.size ≤ 1048576
  rotate_left
  · go_enter Try.func9, Try.ntmps9
    go_wp2
    go_ret
    exact ⟨SaysB.no rfl, rfl⟩
  by_cases h2 : nf ≤ 1048576
  rotate_left
  · go_enter Try.func9, Try.ntmps9
    go_wp2
    go_ret
    exact ⟨SaysB.no rfl, rfl⟩
  by_cases h3 : nw ≤ 1048576
  rotate_left
  · go_enter Try.func9, Try.ntmps9
    go_wp2
    go_ret
    exact ⟨SaysB.no rfl, rfl⟩
  by_cases h4 : nv ≤ 1048576
  rotate_left
  · go_enter Try.func9, Try.ntmps9
    go_wp2
    go_ret
    exact ⟨SaysB.no rfl, rfl⟩
  by_cases h5 : text.size + 8 * nf + 8 * nw + 8 * nv ≤ 1048576
  rotate_left
  · go_enter Try.func9, Try.ntmps9
    go_wp2
    go_ret
    exact ⟨SaysB.no rfl, rfl⟩
  go_enter Try.func9, Try.ntmps9
  go_wp2
  go_loop [21, 22] (fun t i => ∃ (k : Nat) (T : Int), k ≤ nw ∧ i = .int .i64 k ∧ t = .int .i64 T ∧ 0 ≤ T ∧ T ≤ 1048576 ∧ ∀ j, j < k → (W j).size ≤ 1048576) (fun _ i => nw - (intOf i).toNat)
  case atStart => exact ⟨0, _, Nat.zero_le _, rfl, rfl, by omega, by omega, fun j h => absurd h (Nat.not_lt_zero _)⟩
  case round =>
    obtain ⟨k, T, hk, rfl, rfl, hT0, hT1, hj⟩ := hrel
    have HJ : Hid (∀ j, j < k → (W j).size ≤ 1048576) := hj
    clear hj
    by_cases hlt : k < nw
    · obtain ⟨b1, o1, rfl, hc1⟩ := hw (by omega)
      have d1 := hc1 k hlt
      have d2 := HW.out k hlt
      clear hc1
      go_wp2
      all_goals try (go_ret; exact ⟨SaysB.no rfl, rfl⟩)
      go_round
      case rel => exact ⟨k + 1, _, by omega, by go_num, rfl, by omega, by omega, fun j h => by rcases Nat.lt_succ_iff_lt_or_eq.1 h with h | rfl; exact HJ.out j h; omega⟩
      case measure => simp [intOf]; omega
    · have HJ' : Hid (∀ j, j < nw → (W j).size ≤ 1048576) := fun j h => HJ.out j (by omega)
      clear HJ
      go_wp2
      go_loop [21, 23] (fun t i => ∃ (k : Nat) (T : Int), k ≤ nv ∧ i = .int .i64 k ∧ t = .int .i64 T ∧ 0 ≤ T ∧ T ≤ 1048576 ∧ ∀ j, j < k → L j ≤ 1048576) (fun _ i => nv - (intOf i).toNat)
      case atStart => exact ⟨0, _, Nat.zero_le _, rfl, rfl, by omega, by omega, fun j h => absurd h (Nat.not_lt_zero _)⟩
      case round =>
        obtain ⟨k2, T2, hk2, rfl, rfl, hS0, hS1, hj2⟩ := hrel
        have HJ2 : Hid (∀ j, j < k2 → L j ≤ 1048576) := hj2
        clear hj2
        by_cases hlt2 : k2 < nv
        · obtain ⟨b2, o2, rfl, hc2⟩ := hv (by omega)
          have d1 := hc2 k2 hlt2
          have d2 := HL.out k2 hlt2
          clear hc2
          go_wp2
          all_goals try (go_ret; exact ⟨SaysB.no rfl, rfl⟩)
          go_round
          case rel => exact ⟨k2 + 1, _, by omega, by go_num, rfl, by omega, by omega, fun j h => by rcases Nat.lt_succ_iff_lt_or_eq.1 h with h | rfl; exact HJ2.out j h; omega⟩
          case measure => simp [intOf]; omega
        · have HJ3 : Hid (∀ j, j < nv → L j ≤ 1048576) := fun j h => HJ2.out j (by omega)
          clear HJ2
          by_cases g4 : nw = nf
          rotate_left
          · have g4' : ((nw : Int) != (nf : Int)) = true := by simp; omega
            go_wp2
            all_goals (go_ret; exact ⟨SaysB.no rfl, rfl⟩)
          have G4 : Hid (nw = nf) := g4
          have g4' : ((nw : Int) != (nf : Int)) = false := by simp; omega
          clear g4
          go_wp2
          all_goals try (go_ret; exact ⟨SaysB.no rfl, rfl⟩)
          all_goals
            have HX : Hid ((-1 ≤ ls ∧ ls < nf) ∧ -1 ≤ rs ∧ rs < nf) := by
              show (-1 ≤ ls ∧ ls < nf) ∧ -1 ≤ rs ∧ rs < nf
              omega
            go_loop [24] (fun i => ∃ (k : Nat), k ≤ nf ∧ i = .int .i64 k ∧ ∀ j, j < k → -1 ≤ z j ∧ z j < nv) (fun i => nf - (intOf i).toNat)
            case atStart => exact ⟨0, Nat.zero_le _, rfl, fun j h => absurd h (Nat.not_lt_zero _)⟩
            case round =>
              obtain ⟨k3, hk3, rfl, hj3⟩ := hrel
              have HJ4 : Hid (∀ j, j < k3 → -1 ≤ z j ∧ z j < nv) := hj3
              clear hj3
              by_cases hlt3 : k3 < nf
              · obtain ⟨b3, o3, rfl, hc3⟩ := hf (by omega)
                have d1 := hc3 k3 hlt3
                clear hc3
                go_wp2
                all_goals try (go_ret; exact ⟨SaysB.no rfl, rfl⟩)
                all_goals
                  go_round
                  case rel => exact ⟨k3 + 1, by omega, by go_num, fun j h => by rcases Nat.lt_succ_iff_lt_or_eq.1 h with h | rfl; exact HJ4.out j h; omega⟩
                  case measure => simp [intOf]; omega
              · go_wp2
                go_ret
                exact ⟨SaysB.yes rfl ⟨h1, h2, h4, G4.out, HJ'.out, HJ3.out, HX.out.1.1, HX.out.1.2, HX.out.2.1, HX.out.2.2, fun j h => HJ4.out j (by omega)⟩, rfl⟩
end Go.Proofs.Qxb6616563a
