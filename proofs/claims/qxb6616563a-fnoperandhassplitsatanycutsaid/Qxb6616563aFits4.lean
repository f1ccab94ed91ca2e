import Derived.Test.Qxb6616563aFits2
namespace Go.Proofs.Qxb6616563a
open Go.RowKit

/-- what b1HasFits's yes says -/
structure HFits (nk nt nn nf nv nx : Nat) (K z : Nat → Int) (S L : Nat → Nat) (xk xs : Int) : Prop where
  k : nk ≤ 1048576
  f : nf ≤ 1048576
  v : nv ≤ 1048576
  x : nx ≤ 1048576
  t : nt = nk
  n : nn = nk
  texts : ∀ i, i < nt → S i ≤ 1048576
  vals : ∀ i, i < nv → L i ≤ 1048576
  kinds : ∀ i, i < nk → ¬ K i = 1 ∧ K i ≤ 6
  hxk : ¬ xk = 1 ∧ xk ≤ 6
  hxs : -1 ≤ xs ∧ xs < nf ∧ (0 ≤ xs → xk = 0)
  fields : ∀ j, j < nf → -1 ≤ z j ∧ z j < nv

set_option maxRecDepth 100000 in
set_option maxHeartbeats 4000000 in
theorem fits20_any (xk xs : Int) (ak ta an af av ax : Option Addr) (nk nt nn nf nv nx ck ct cn cf cv cx : Nat) (T A : Nat → Option Addr) (S R L C : Nat → Nat) (K z : Nat → Int) (w : World)
    (hK : Sl w ak nk (fun i => .int .u8 (K i))) (ht : Sl w ta nt (fun i => .slice (T i) (S i) (R i))) (hf : Sl w af nf (fun i => .int .i64 (z i))) (hv : Sl w av nv (fun i => .slice (A i) (L i) (C i)))
    (hnk : nk ≤ 9223372036854775807) (hnt : nt ≤ 9223372036854775807) (hnn : nn ≤ 9223372036854775807) (hnf : nf ≤ 9223372036854775807) (hnv : nv ≤ 9223372036854775807) (hnx : nx ≤ 9223372036854775807)
    (hS : ∀ i, i < nt → S i ≤ 9223372036854775807) (hL : ∀ i, i < nv → L i ≤ 9223372036854775807) :
    Calls Try.prog 20 #[.slice ak nk ck, .slice ta nt ct, .slice an nn cn, .slice af nf cf, .slice av nv cv, .int .u8 xk, .slice ax nx cx, .int .i64 xs] w fun e w' => SaysB e (HFits nk nt nn nf nv nx K z S L xk xs) ∧ w' = w := by
  have HS : Hid (∀ i, i < nt → S i ≤ 9223372036854775807) := hS
  have HL : Hid (∀ i, i < nv → L i ≤ 9223372036854775807) := hL
  clear hS hL
  by_cases h1 : nk ≤ 1048576
  rotate_left
  · go_enter Try.func20, Try.ntmps20
    go_wp2
    go_ret
    exact ⟨SaysB.no rfl, rfl⟩
  by_cases h2 : nt ≤ 1048576
  rotate_left
  · go_enter Try.func20, Try.ntmps20
    go_wp2
    go_ret
    exact ⟨SaysB.no rfl, rfl⟩
  by_cases h3 : nn ≤ 1048576
  rotate_left
  · go_enter Try.func20, Try.ntmps20
    go_wp2
    go_ret
    exact ⟨SaysB.no rfl, rfl⟩
  by_cases h4 : nf ≤ 1048576
  rotate_left
  · go_enter Try.func20, Try.ntmps20
    go_wp2
    go_ret
    exact ⟨SaysB.no rfl, rfl⟩
  by_cases h5 : nv ≤ 1048576
  rotate_left
  · go_enter Try.func20, Try.ntmps20
    go_wp2
    go_ret
    exact ⟨SaysB.no rfl, rfl⟩
  by_cases h6 : nx ≤ 1048576
  rotate_left
  · go_enter Try.func20, Try.ntmps20
    go_wp2
    go_ret
    exact ⟨SaysB.no rfl, rfl⟩
  by_cases h7 : nk + nn + 8 * nt + 8 * nf + 8 * nv + nx ≤ 1048576
  rotate_left
  · go_enter Try.func20, Try.ntmps20
    go_wp2
    go_ret
    exact ⟨SaysB.no rfl, rfl⟩
  go_enter Try.func20, Try.ntmps20
  go_wp2
  go_loop [17, 18] (fun t i => ∃ (k : Nat) (T : Int), k ≤ nt ∧ i = .int .i64 k ∧ t = .int .i64 T ∧ 0 ≤ T ∧ T ≤ 1048576 ∧ ∀ j, j < k → S j ≤ 1048576) (fun _ i => nt - (intOf i).toNat)
  case atStart => exact ⟨0, _, Nat.zero_le _, rfl, rfl, by omega, by omega, fun j h => absurd h (Nat.not_lt_zero _)⟩
  case round =>
    obtain ⟨k, T, hk, rfl, rfl, hT0, hT1, hj⟩ := hrel
    have HJ : Hid (∀ j, j < k → S j ≤ 1048576) := hj
    clear hj
    by_cases hlt : k < nt
    · obtain ⟨b1, o1, rfl, hc1⟩ := ht (by omega)
      have d1 := hc1 k hlt
      have d2 := HS.out k hlt
      clear hc1
      go_wp2
      all_goals try (go_ret; exact ⟨SaysB.no rfl, rfl⟩)
      go_round
      case rel => exact ⟨k + 1, _, by omega, by go_num, rfl, by omega, by omega, fun j h => by rcases Nat.lt_succ_iff_lt_or_eq.1 h with h | rfl; exact HJ.out j h; omega⟩
      case measure => simp [intOf]; omega
    · have HJ' : Hid (∀ j, j < nt → S j ≤ 1048576) := fun j h => HJ.out j (by omega)
      clear HJ
      go_wp2
      go_loop [17, 19] (fun t i => ∃ (k : Nat) (T : Int), k ≤ nv ∧ i = .int .i64 k ∧ t = .int .i64 T ∧ 0 ≤ T ∧ T ≤ 1048576 ∧ ∀ j, j < k → L j ≤ 1048576) (fun _ i => nv - (intOf i).toNat)
      case atStart => exact ⟨0, _, Nat.zero_le _, rfl, rfl, by omega, by omega, fun j h => absurd h (Nat.not_lt_zero _)⟩
      case round =>
        obtain ⟨k2, T2, hk2, rfl, rfl, hS0, hS1, hj2⟩ := hrel
        have HJ2 : Hid (∀ j, j < k2 → L j ≤ 1048576) := hj2
        clear hj2
        by_cases hlt2 : k2 < nv
        · obtain ⟨b2, o2, rfl, hc2⟩ := hv (by omega)
          have d1 := hc2 k2 hlt2
          have d2 := HL.out k2 hlt2
          clear hc2
          go_wp2
          all_goals try (go_ret; exact ⟨SaysB.no rfl, rfl⟩)
          go_round
          case rel => exact ⟨k2 + 1, _, by omega, by go_num, rfl, by omega, by omega, fun j h => by rcases Nat.lt_succ_iff_lt_or_eq.1 h with h | rfl; exact HJ2.out j h; omega⟩
          case measure => simp [intOf]; omega
        · have HJ3 : Hid (∀ j, j < nv → L j ≤ 1048576) := fun j h => HJ2.out j (by omega)
          clear HJ2
          by_cases g4 : nt = nk
          rotate_left
          · have g4' : ((nt : Int) != (nk : Int)) = true := by simp; omega
            go_wp2
            all_goals (go_ret; exact ⟨SaysB.no rfl, rfl⟩)
          by_cases g5 : nn = nk
          rotate_left
          · have g4' : ((nt : Int) != (nk : Int)) = false := by simp; omega
            have g5' : ((nn : Int) != (nk : Int)) = true := by simp; omega
            go_wp2
            all_goals (go_ret; exact ⟨SaysB.no rfl, rfl⟩)
          have G4 : Hid (nt = nk) := g4
          have G5 : Hid (nn = nk) := g5
          have g4' : ((nt : Int) != (nk : Int)) = false := by simp; omega
          have g5' : ((nn : Int) != (nk : Int)) = false := by simp; omega
          clear g4 g5
          go_wp2
          go_loop [20] (fun i => ∃ (k : Nat), k ≤ nk ∧ i = .int .i64 k ∧ ∀ j, j < k → ¬ K j = 1 ∧ K j ≤ 6) (fun i => nk - (intOf i).toNat)
          case atStart => exact ⟨0, Nat.zero_le _, rfl, fun j h => absurd h (Nat.not_lt_zero _)⟩
          case round =>
            obtain ⟨k4, hk4, rfl, hj4⟩ := hrel
            have HJ4 : Hid (∀ j, j < k4 → ¬ K j = 1 ∧ K j ≤ 6) := hj4
            clear hj4
            by_cases hlt4 : k4 < nk
            · obtain ⟨b4, o4, rfl, hc4⟩ := hK (by omega)
              have d1 := hc4 k4 hlt4
              clear hc4
              cases e1 : (K k4 == 1) with
              | true =>
                go_wp2
                all_goals (go_ret; exact ⟨SaysB.no rfl, rfl⟩)
              | false =>
                have HE : Hid (¬ K k4 = 1) := by show ¬ _; simpa using e1
                go_wp2
                all_goals try (go_ret; exact ⟨SaysB.no rfl, rfl⟩)
                all_goals
                  go_round
                  case rel => exact ⟨k4 + 1, by omega, by go_num, fun j h => by rcases Nat.lt_succ_iff_lt_or_eq.1 h with h | rfl; exact HJ4.out j h; exact ⟨HE.out, by omega⟩⟩
                  case measure => simp [intOf]; omega
            · have HJ5 : Hid (∀ j, j < nk → ¬ K j = 1 ∧ K j ≤ 6) := fun j h => HJ4.out j (by omega)
              clear HJ4
              cases e1 : (xk == 1) with
              | true =>
                go_wp2
                all_goals (go_ret; exact ⟨SaysB.no rfl, rfl⟩)
              | false =>
              have HE1 : Hid (¬ xk = 1) := by show ¬ _; simpa using e1
              by_cases e2 : xk ≤ 6
              rotate_left
              · go_wp2
                all_goals (go_ret; exact ⟨SaysB.no rfl, rfl⟩)
              by_cases e3 : -1 ≤ xs ∧ xs < nf
              rotate_left
              · by_cases e3' : -1 ≤ xs
                · go_wp2
                  all_goals (go_ret; exact ⟨SaysB.no rfl, rfl⟩)
                · go_wp2
                  all_goals (go_ret; exact ⟨SaysB.no rfl, rfl⟩)
              obtain ⟨e3, e4⟩ := e3
              cases e5 : (decide (0 ≤ xs) && (xk != 0)) with
              | true =>
                have e6 : 0 ≤ xs := by revert e5; simp; omega
                have e7 : (xk != 0) = true := by revert e5; simp
                clear e5
                go_wp2
                all_goals (go_ret; exact ⟨SaysB.no rfl, rfl⟩)
              | false =>
              have HE5 : Hid (0 ≤ xs → xk = 0) := by
                show _ → _
                intro h
                revert e5
                simp [h]
              have HGO : Hid ((0 ≤ xs ∧ (xk != 0) = false) ∨ xs < 0) := by
                show _ ∨ _
                by_cases h : 0 ≤ xs
                · exact .inl ⟨h, by simp [HE5.out h]⟩
                · exact .inr (by omega)
              clear e5
              have fin : ∀ (a : Nat), True := fun _ => trivial
              clear fin
              rcases HGO.out with ⟨q1, q2⟩ | q1
              all_goals
                go_wp2
                go_loop [21] (fun i => ∃ (k : Nat), k ≤ nf ∧ i = .int .i64 k ∧ ∀ j, j < k → -1 ≤ z j ∧ z j < nv) (fun i => nf - (intOf i).toNat)
                case atStart => exact ⟨0, Nat.zero_le _, rfl, fun j h => absurd h (Nat.not_lt_zero _)⟩
                case round =>
                  obtain ⟨k3, hk3, rfl, hj3⟩ := hrel
                  have HJ6 : Hid (∀ j, j < k3 → -1 ≤ z j ∧ z j < nv) := hj3
                  clear hj3
                  by_cases hlt3 : k3 < nf
                  · obtain ⟨b3, o3, rfl, hc3⟩ := hf (by omega)
                    have d1 := hc3 k3 hlt3
                    clear hc3
                    go_wp2
                    all_goals try (go_ret; exact ⟨SaysB.no rfl, rfl⟩)
                    all_goals
                      go_round
                      case rel => exact ⟨k3 + 1, by omega, by go_num, fun j h => by rcases Nat.lt_succ_iff_lt_or_eq.1 h with h | rfl; exact HJ6.out j h; omega⟩
                      case measure => simp [intOf]; omega
                  · go_wp2
                    go_ret
                    exact ⟨SaysB.yes rfl ⟨h1, h4, h5, h6, G4.out, G5.out, HJ'.out, HJ3.out, HJ5.out, ⟨HE1.out, e2⟩, ⟨e3, e4, HE5.out⟩, fun j h => HJ6.out j (by omega)⟩, rfl⟩
end Go.Proofs.Qxb6616563a
