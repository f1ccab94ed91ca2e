import Derived.Test.Qxb6616563aModel1
namespace Go.Proofs.Qxb6616563a
open Go.RowKit

def ndotP (z : Int) : Bool := z != 46
def dotI (l : List UInt8) : Nat := runEnd ndotP l (fstI l)
def sW (l : List UInt8) : List UInt8 := cutL l (fstI l) (dotI l)
def sF (l : List UInt8) : List UInt8 := if dotI l < l.length then cutL l (dotI l + 1) l.length else []

/-- what b1SplitDecimal hands back -/
structure SplitR (w : World) (l : List UInt8) (e : Ending) : Prop where
  ex : ∃ (wa fa : Option Addr) (wn wc fn fc : Nat), e = .returned (.tuple #[.bool (sgn l), .slice wa wn wc, .slice fa fn fc]) ∧ Bytes w wa wn (sW l) ∧ Bytes w fa fn (sF l) ∧ wn ≤ l.length ∧ fn ≤ l.length

set_option maxRecDepth 100000 in
set_option maxHeartbeats 2000000 in
theorem split61 (a : Option Addr) (n c : Nat) (l : List UInt8) (w : World) (ha : Bytes w a n l) (hnc : n ≤ c) (hn : n ≤ 1099511627776) (hc : c ≤ 9223372036854775807) :
    Calls Try.prog 61 #[.slice a n c] w fun e w' => SplitR w l e ∧ w = w' := by
  have HL : Hid (l.length = n) := ha.1
  rcases Nat.eq_zero_or_pos n with h0 | h0
  · subst h0
    have hl : l = [] := List.length_eq_zero_iff.1 HL.out
    subst hl
    go_enter Try.func61, Try.ntmps61
    go_wp2
    go_loop [7] (fun i => i = .int .i64 0) (fun _ => 0)
    case atStart => rfl
    case round =>
      subst hrel
      go_wp2
      all_goals
        refine bodyPost_ret (v := .tuple #[.bool false, .slice a 0 c, .slice none 0 0]) (by simp [results, Try.results61, go_sem]) rfl ⟨⟨a, none, 0, c, 0, 0, rfl, ⟨rfl, fun h => absurd h (Nat.lt_irrefl 0)⟩, ⟨rfl, fun h => absurd h (Nat.lt_irrefl 0)⟩, Nat.le_refl _, Nat.le_refl _⟩, rfl⟩
  · obtain ⟨b, o, rfl, hcl⟩ := ha.2 h0
    have HC : Hid (∀ i, i < n → w.cell? ⟨b, o + i, none⟩ = some (.int .u8 (byteAt l i))) := hcl
    clear hcl
    have d0 := HC.out 0 h0
    rw [Nat.add_zero] at d0
    obtain ⟨sg, hsg⟩ : ∃ sg, sg = sgn l := ⟨_, rfl⟩
    have HSG : Hid (sg = sgn l) := hsg
    have hsg0 : sg = (byteAt l 0 == 45) := by rw [hsg, sgn, HL.out]; simp [h0]
    have HSG0 : Hid (sg = (byteAt l 0 == 45)) := hsg0
    clear hsg hsg0
    go_enter Try.func61, Try.ntmps61
    go_upto_if 20 with fail
    go_cut [6, 5] (fun ng i wc => ∃ f : Nat, ng = .bool sg ∧ i = .int .i64 f ∧ f ≤ 1 ∧ Hid (f = fstI l) ∧ w = wc)
    case first =>
      go_wp2
      · go_meet
        case rel => exact ⟨1, by have := HSG0.out; simp_all, rfl, Nat.le_refl _, by show 1 = fstI l; unfold fstI; rw [← HSG.out, HSG0.out]; simp_all, rfl⟩
      · go_meet
        case rel => exact ⟨0, by have := HSG0.out; simp_all, rfl, Nat.zero_le _, by show 0 = fstI l; unfold fstI; rw [← HSG.out, HSG0.out]; simp_all, rfl⟩
    case rest =>
      obtain ⟨f, rfl, rfl, hf1, HF, rfl⟩ := hcut
      clear d0
      go_upto_block 0 with fail
      go_cut [7] (fun i wc => ∃ k : Nat, i = .int .i64 k ∧ f ≤ k ∧ k ≤ n ∧ Hid (dotI l = k) ∧ w = wc)
      case first =>
        go_wp2
        go_loop [7] (fun i => ∃ k : Nat, i = .int .i64 k ∧ f ≤ k ∧ k ≤ n ∧ ∀ j, f ≤ j → j < k → ndotP (byteAt l j) = true) (fun i => n - (intOf i).toNat)
        case atStart => exact ⟨f, rfl, Nat.le_refl _, by omega, fun j h1 h2 => by omega⟩
        case round =>
          obtain ⟨k, rfl, hfk, hkn, hj⟩ := hrel
          have HJ : Hid (∀ j, f ≤ j → j < k → ndotP (byteAt l j) = true) := hj
          clear hj
          by_cases hlt : k < n
          · have d1 := HC.out k hlt
            cases hz : (byteAt l k != 46) with
            | true =>
              go_wp2
              go_round
              case rel => exact ⟨k + 1, by go_num, by omega, by omega, fun j h1 h2 => by rcases Nat.lt_succ_iff_lt_or_eq.1 h2 with h | rfl; exact HJ.out j h1 h; exact hz⟩
              case measure => simp [intOf]; omega
            | false =>
              go_wp2
              go_meet
              case rel => exact ⟨k, rfl, hfk, hkn, by show _ = _; unfold dotI; rw [← HF.out]; exact runEnd_eq HL.out hfk hkn HJ.out (fun _ => hz), rfl⟩
          · have hlt' : decide ((k : Int) < (n : Int)) = false := by simp; omega
            go_wp2
            go_meet
            case rel => exact ⟨k, rfl, hfk, hkn, by show _ = _; unfold dotI; rw [← HF.out]; exact runEnd_eq HL.out hfk hkn HJ.out (fun h => absurd h hlt), rfl⟩
      case rest =>
        obtain ⟨e1, rfl, he1, he2, HE, rfl⟩ := hcut
        have hfc : f ≤ c := by omega
        go_upto_region 9 with fail
        go_cut [0, 8] (fun s0 v wc => ∃ (wa : Option Addr) (wn wc1 : Nat), s0 = .slice (some ⟨b, o, none⟩) n c ∧ v = .slice wa wn wc1 ∧ Bytes w wa wn (sW l) ∧ wn ≤ n ∧ w = wc)
        case first =>
          go_wp2
          all_goals
            go_meet
            case rel => exact ⟨_, _, _, by first | rfl | (simp; omega), rfl, by unfold sW; rw [HE.out, ← HF.out]; exact ha.cut he1 he2 (fun h => by first | rfl | omega), by omega, rfl⟩
        case rest =>
          obtain ⟨wa, wn, wc1, rfl, rfl, hwb, hwn, rfl⟩ := hcut
          have HWB : Hid (Bytes w wa wn (sW l)) := hwb
          clear hwb
          go_upto_if 44 with fail
          go_cut [0, 9] (fun s0 v wc => ∃ (fa : Option Addr) (fn fc1 : Nat), s0 = .slice (some ⟨b, o, none⟩) n c ∧ v = .slice fa fn fc1 ∧ Bytes w fa fn (sF l) ∧ fn ≤ n ∧ w = wc)
          case first =>
            by_cases g1 : e1 < n
            · have hsc : e1 + 1 ≤ c := by omega
              have g1' : (e1 : Int) + 1 ≤ (n : Int) := by omega
              go_wp2
              all_goals
                go_meet
                case rel => exact ⟨_, _, _, by first | rfl | (simp; omega), rfl, by unfold sF; rw [HE.out, HL.out, if_pos g1]; exact ha.cut (by omega) (Nat.le_refl _) (fun h => by first | rfl | omega), by omega, rfl⟩
            · go_wp2
              all_goals
                go_meet
                case rel => exact ⟨none, 0, 0, rfl, rfl, by unfold sF; rw [HE.out, HL.out, if_neg g1]; exact ⟨rfl, fun h => absurd h (Nat.lt_irrefl 0)⟩, Nat.zero_le _, rfl⟩
          case rest =>
            obtain ⟨fa, fn, fc1, rfl, rfl, hfb, hfn, rfl⟩ := hcut
            have HFB : Hid (Bytes w fa fn (sF l)) := hfb
            clear hfb
            go_wp2
            refine bodyPost_ret (v := .tuple #[.bool sg, .slice wa wn wc1, .slice fa fn fc1]) (by simp [results, Try.results61, go_sem]) rfl ⟨⟨wa, fa, wn, wc1, fn, fc1, by rw [HSG.out], HWB.out, HFB.out, by rw [HL.out]; exact hwn, by rw [HL.out]; exact hfn⟩, rfl⟩
end Go.Proofs.Qxb6616563a
