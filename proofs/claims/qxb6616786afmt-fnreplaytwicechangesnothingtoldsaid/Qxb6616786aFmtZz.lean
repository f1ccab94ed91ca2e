import Derived.Test.Qxb6616786aFmtMent
namespace Go.Proofs.Qxb6616786aFmt
open Go.RowKit Go.WideMaps Go.Maps

def Small (n : Nat) (L : LkF) : Prop := ∀ i, i < n → (L i).1.size ≤ 1048576 ∧ (L i).2.size ≤ 1048576
structure AnsB (e : Ending) (P : Prop) : Prop where
  ex : ∃ b : Bool, e = .returned (.bool b) ∧ (b = true → P)

set_option maxRecDepth 100000 in
set_option maxHeartbeats 2000000 in
theorem zz5 (a : Option Addr) (n c : Nat) (L : LkF) (p : Int) (w : World) (h : Ins w a n L) (hn : n ≤ 9223372036854775807) (hL : ∀ i, (L i).1.size ≤ maxLen ∧ (L i).2.size ≤ maxLen) :
    Calls Tryf.prog 5 #[.slice a n c, .int .i64 p] w fun e w' => AnsB e (Small n L) ∧ w = w' := by
  have HI := hid h
  have HL := hid hL
  clear h hL
  by_cases hs : n ≤ 1048576
  · go_enter Tryf.func5, Tryf.ntmps5
    go_wp2
    go_loop [5, 6] (fun t i => ∃ (k : Nat) (z : Int), k ≤ n ∧ i = .int .i64 k ∧ t = .int .i64 z ∧ 0 ≤ z ∧ z ≤ 1048576 ∧ Small k L) (fun _ i => n - (intOf i).toNat)
    case atStart => exact ⟨0, _, Nat.zero_le _, rfl, rfl, by omega, by omega, fun i hi => absurd hi (Nat.not_lt_zero _)⟩
    case round =>
      obtain ⟨k, z, hk, rfl, rfl, hz0, hz1, hsm⟩ := hrel
      have HSM := hid hsm
      clear hsm
      by_cases hlt : k < n
      · obtain ⟨b, o, rfl, hc⟩ := HI.out (by omega)
        obtain ⟨d1, d2⟩ := hc k hlt
        clear hc
        obtain ⟨x, hx⟩ : ∃ x, x = (L k).1 := ⟨_, rfl⟩
        obtain ⟨y, hy⟩ : ∃ x, x = (L k).2 := ⟨_, rfl⟩
        rw [← hx] at d1
        rw [← hy] at d2
        have hkm : (k : Int) < (n : Int) := by omega
        have HX := hid hx
        have HY := hid hy
        clear hx hy
        by_cases g1 : (x.size : Int) ≤ 1048576
        rotate_left
        · have g1' : decide ((1048576 : Int) < (x.size : Int)) = true := by simp; omega
          go_wp2
          go_ret
          exact ⟨⟨false, rfl, fun h => by cases h⟩, rfl⟩
        have g1' : decide ((1048576 : Int) < (x.size : Int)) = false := by simp; omega
        by_cases g2 : z + (x.size : Int) ≤ 1048576
        rotate_left
        · have g2' : decide ((1048576 : Int) < z + (x.size : Int)) = true := by simp; omega
          go_wp2
          go_ret
          exact ⟨⟨false, rfl, fun h => by cases h⟩, rfl⟩
        have g2' : decide ((1048576 : Int) < z + (x.size : Int)) = false := by simp; omega
        by_cases g3 : (y.size : Int) ≤ 1048576
        rotate_left
        · have g3' : decide ((1048576 : Int) < (y.size : Int)) = true := by simp; omega
          go_wp2
          go_ret
          exact ⟨⟨false, rfl, fun h => by cases h⟩, rfl⟩
        have g3' : decide ((1048576 : Int) < (y.size : Int)) = false := by simp; omega
        by_cases g4 : z + (x.size : Int) + (y.size : Int) ≤ 1048576
        rotate_left
        · have g4' : decide ((1048576 : Int) < z + (x.size : Int) + (y.size : Int)) = true := by simp; omega
          go_wp2
          go_ret
          exact ⟨⟨false, rfl, fun h => by cases h⟩, rfl⟩
        have g4' : decide ((1048576 : Int) < z + (x.size : Int) + (y.size : Int)) = false := by simp; omega
        go_wp2
        go_round
        case rel => exact ⟨k + 1, _, by omega, by go_num, rfl, by omega, by omega, fun i hi => by rcases Nat.lt_succ_iff_lt_or_eq.1 hi with hh | rfl; exact HSM.out i hh; exact ⟨by rw [← HX.out]; omega, by rw [← HY.out]; omega⟩⟩
        case measure => simp [intOf]; omega
      · have hkn : k = n := by omega
        subst hkn
        go_wp2
        go_ret
        exact ⟨⟨true, rfl, fun _ => HSM.out⟩, rfl⟩
  · go_enter Tryf.func5, Tryf.ntmps5
    go_wp2
    go_ret
    exact ⟨⟨false, rfl, fun h => by cases h⟩, rfl⟩

set_option maxRecDepth 100000 in
set_option maxHeartbeats 2000000 in
theorem zz12 (a : Option Addr) (n c : Nat) (L : LkF) (w : World) (h : Ins w a n L) (hn : n ≤ 9223372036854775807) (hL : ∀ i, (L i).1.size ≤ maxLen ∧ (L i).2.size ≤ maxLen) :
    Calls Tryf.prog 12 #[.slice a n c] w fun e w' => AnsB e (Small n L) ∧ w = w' := by
  have HI := hid h
  have HL := hid hL
  clear h hL
  by_cases hs : n ≤ 1048576
  · go_enter Tryf.func12, Tryf.ntmps12
    go_wp2
    go_loop [3, 4] (fun t i => ∃ (k : Nat) (z : Int), k ≤ n ∧ i = .int .i64 k ∧ t = .int .i64 z ∧ 0 ≤ z ∧ z ≤ 1048576 ∧ Small k L) (fun _ i => n - (intOf i).toNat)
    case atStart => exact ⟨0, _, Nat.zero_le _, rfl, rfl, by omega, by omega, fun i hi => absurd hi (Nat.not_lt_zero _)⟩
    case round =>
      obtain ⟨k, z, hk, rfl, rfl, hz0, hz1, hsm⟩ := hrel
      have HSM := hid hsm
      clear hsm
      by_cases hlt : k < n
      · obtain ⟨b, o, rfl, hc⟩ := HI.out (by omega)
        obtain ⟨d1, d2⟩ := hc k hlt
        clear hc
        obtain ⟨x, hx⟩ : ∃ x, x = (L k).1 := ⟨_, rfl⟩
        obtain ⟨y, hy⟩ : ∃ x, x = (L k).2 := ⟨_, rfl⟩
        rw [← hx] at d1
        rw [← hy] at d2
        have hkm : (k : Int) < (n : Int) := by omega
        have HX := hid hx
        have HY := hid hy
        clear hx hy
        by_cases g1 : (x.size : Int) ≤ 1048576
        rotate_left
        · have g1' : decide ((1048576 : Int) < (x.size : Int)) = true := by simp; omega
          go_wp2
          go_ret
          exact ⟨⟨false, rfl, fun h => by cases h⟩, rfl⟩
        have g1' : decide ((1048576 : Int) < (x.size : Int)) = false := by simp; omega
        by_cases g2 : z + (x.size : Int) ≤ 1048576
        rotate_left
        · have g2' : decide ((1048576 : Int) < z + (x.size : Int)) = true := by simp; omega
          go_wp2
          go_ret
          exact ⟨⟨false, rfl, fun h => by cases h⟩, rfl⟩
        have g2' : decide ((1048576 : Int) < z + (x.size : Int)) = false := by simp; omega
        by_cases g3 : (y.size : Int) ≤ 1048576
        rotate_left
        · have g3' : decide ((1048576 : Int) < (y.size : Int)) = true := by simp; omega
          go_wp2
          go_ret
          exact ⟨⟨false, rfl, fun h => by cases h⟩, rfl⟩
        have g3' : decide ((1048576 : Int) < (y.size : Int)) = false := by simp; omega
        by_cases g4 : z + (x.size : Int) + (y.size : Int) ≤ 1048576
        rotate_left
        · have g4' : decide ((1048576 : Int) < z + (x.size : Int) + (y.size : Int)) = true := by simp; omega
          go_wp2
          go_ret
          exact ⟨⟨false, rfl, fun h => by cases h⟩, rfl⟩
        have g4' : decide ((1048576 : Int) < z + (x.size : Int) + (y.size : Int)) = false := by simp; omega
        go_wp2
        go_round
        case rel => exact ⟨k + 1, _, by omega, by go_num, rfl, by omega, by omega, fun i hi => by rcases Nat.lt_succ_iff_lt_or_eq.1 hi with hh | rfl; exact HSM.out i hh; exact ⟨by rw [← HX.out]; omega, by rw [← HY.out]; omega⟩⟩
        case measure => simp [intOf]; omega
      · have hkn : k = n := by omega
        subst hkn
        go_wp2
        go_ret
        exact ⟨⟨true, rfl, fun _ => HSM.out⟩, rfl⟩
  · go_enter Tryf.func12, Tryf.ntmps12
    go_wp2
    go_ret
    exact ⟨⟨false, rfl, fun h => by cases h⟩, rfl⟩

set_option maxRecDepth 100000 in
set_option maxHeartbeats 2000000 in
theorem big6 (a : Option Addr) (n c : Nat) (L : LkF) (w : World) (h : Ins w a n L) (hn : n ≤ 4096) (hL : Small n L) :
    Calls Tryf.prog 6 #[.slice a n c] w fun e w' => AnsB e True ∧ w = w' := by
  have HI := hid h
  have HL := hid hL
  clear h hL
  go_enter Tryf.func6, Tryf.ntmps6
  go_wp2
  go_loop [3, 4] (fun t i => ∃ (k : Nat) (z : Int), k ≤ n ∧ i = .int .i64 k ∧ t = .int .i64 z ∧ 0 ≤ z ∧ z ≤ 1048576) (fun _ i => n - (intOf i).toNat)
  case atStart => exact ⟨0, _, Nat.zero_le _, rfl, rfl, by omega, by omega⟩
  case round =>
    obtain ⟨k, z, hk, rfl, rfl, hz0, hz1⟩ := hrel
    by_cases hlt : k < n
    · obtain ⟨b, o, rfl, hc⟩ := HI.out (by omega)
      obtain ⟨d1, d2⟩ := hc k hlt
      clear hc
      obtain ⟨hsx, hsy⟩ := HL.out k hlt
      obtain ⟨x, hx⟩ : ∃ x, x = (L k).1 := ⟨_, rfl⟩
      obtain ⟨y, hy⟩ : ∃ x, x = (L k).2 := ⟨_, rfl⟩
      rw [← hx] at d1 hsx
      rw [← hy] at d2 hsy
      have hkm : (k : Int) < (n : Int) := by omega
      clear hx hy
      by_cases g2 : z + (x.size : Int) ≤ 1048576
      rotate_left
      · have g2' : decide ((1048576 : Int) < z + (x.size : Int)) = true := by simp; omega
        go_wp2
        go_ret
        exact ⟨⟨true, rfl, fun _ => trivial⟩, rfl⟩
      have g2' : decide ((1048576 : Int) < z + (x.size : Int)) = false := by simp; omega
      by_cases g4 : z + (x.size : Int) + (y.size : Int) ≤ 1048576
      rotate_left
      · have g4' : decide ((1048576 : Int) < z + (x.size : Int) + (y.size : Int)) = true := by simp; omega
        go_wp2
        go_ret
        exact ⟨⟨true, rfl, fun _ => trivial⟩, rfl⟩
      have g4' : decide ((1048576 : Int) < z + (x.size : Int) + (y.size : Int)) = false := by simp; omega
      go_wp2
      go_round
      case rel => exact ⟨k + 1, _, by omega, by go_num, rfl, by omega, by omega⟩
      case measure => simp [intOf]; omega
    · go_wp2
      go_ret
      exact ⟨⟨_, rfl, fun _ => trivial⟩, rfl⟩
end Go.Proofs.Qxb6616786aFmt
