import Derived.Test.Qxb6619173aFmtFmt
import Derived.WalkKit
import Derived.WalkSpells
import Derived.WalkLawsBesides
import Derived.Below
namespace Go.Proofs.Qxb6619173aFmt
open Go.RowKit Go.Extern.Stop Go.Stop Go.Extern

/-- the bytes of the other named variant, quorum-2f -/
abbrev qL : List UInt8 := [113, 117, 111, 114, 117, 109, 45, 50, 102]

theorem new_empty (s : ByteArray) (w : World) (h1 : s.toList.isEmpty = true) :
    Calls Tryf.prog 6 #[.string s] w fun e w' => e = .returned (.tuple #[.agg #[.string s], .nilIface]) ∧ Below w.heap.size w w' := by
  go_enter Tryf.func6, Tryf.ntmps6
  go_wp2
  exact bodyPost_ret (v := .tuple #[.agg #[.string s], .nilIface]) (by simp [results, Tryf.results6, go_sem]) rfl ⟨rfl, (Below.refl _ _).alloc (Nat.le_refl _) _⟩

theorem new_q2f (s : ByteArray) (w : World) (h1 : s.toList.isEmpty = false) (h2 : (s.toList == [113, 117, 111, 114, 117, 109, 45, 50, 102]) = true) :
    Calls Tryf.prog 6 #[.string s] w fun e w' => e = .returned (.tuple #[.agg #[.string s], .nilIface]) ∧ Below w.heap.size w w' := by
  go_enter Tryf.func6, Tryf.ntmps6
  go_wp2
  exact bodyPost_ret (v := .tuple #[.agg #[.string s], .nilIface]) (by simp [results, Tryf.results6, go_sem]) rfl ⟨rfl, (Below.refl _ _).alloc (Nat.le_refl _) _⟩

theorem new_bad (F : Interp) (s : ByteArray) (w : World) (hF : F.answers w.tape)
    (h1 : s.toList.isEmpty = false) (h2 : (s.toList == [113, 117, 111, 114, 117, 109, 45, 50, 102]) = false) :
    Calls Tryf.prog 6 #[.string s] w fun e w' => e = .returned (.tuple #[.agg #[.string ⟨#[]⟩], .iface 35 (.pointer (some ⟨w.heap.size + 1 + 1, 0, none⟩))]) ∧ Below w.heap.size w w' := by
  have hF' := answers_open hF
  go_enter Tryf.func6, Tryf.ntmps6
  go_wp2
  refine bodyPost_ret (v := .tuple #[.agg #[.string ⟨#[]⟩], .iface 35 (.pointer (some ⟨w.heap.size + 1 + 1, 0, none⟩))]) (by simp [results, Tryf.results6, go_sem]) rfl ⟨rfl, ?_⟩
  exact ((((Below.refl _ _).alloc (Nat.le_refl _) _).alloc (by simp) _).alloc (by simp; omega) _).drew

def good (s : ByteArray) : Bool := s.toList.isEmpty || s.toList == [113, 117, 111, 114, 117, 109, 45, 50, 102]

theorem new_good (s : ByteArray) (w : World) (h : good s = true) :
    Calls Tryf.prog 6 #[.string s] w fun e w' => e = .returned (.tuple #[.agg #[.string s], .nilIface]) ∧ Below w.heap.size w w' := by
  unfold good at h
  cases h1 : s.toList.isEmpty with
  | true => exact new_empty s w h1
  | false => rw [h1] at h; exact new_q2f s w h1 h

theorem new_no (F : Interp) (s : ByteArray) (w : World) (hF : F.answers w.tape) (h : good s = false) :
    Calls Tryf.prog 6 #[.string s] w fun e w' => e = .returned (.tuple #[.agg #[.string ⟨#[]⟩], .iface 35 (.pointer (some ⟨w.heap.size + 1 + 1, 0, none⟩))]) ∧ Below w.heap.size w w' := by
  unfold good at h
  simp only [Bool.or_eq_false_iff] at h
  exact new_bad F s w hF h.1 h.2

theorem good_congr {a b : ByteArray} (h : (a.toList == b.toList) = true) : good a = good b := by
  unfold good
  rw [beq_iff_eq.1 h]

theorem zz5 (a b : ByteArray) (w : World) (ha : a.size ≤ 9223372036854775807) (hb : b.size ≤ 9223372036854775807) :
    Calls Tryf.prog 5 #[.string a, .string b] w fun e w' => e = .returned (.bool (decide (a.size + b.size ≤ 1048576))) ∧ w' = w := by
  by_cases h1 : a.size ≤ 1048576
  · by_cases h2 : b.size ≤ 1048576
    · by_cases h3 : a.size + b.size ≤ 1048576
      · go_enter Tryf.func5, Tryf.ntmps5
        go_wp2
        go_ret
        exact ⟨by simp [h3], rfl⟩
      · go_enter Tryf.func5, Tryf.ntmps5
        go_wp2
        go_ret
        exact ⟨by simp [h3], rfl⟩
    · have h3 : ¬ a.size + b.size ≤ 1048576 := by omega
      go_enter Tryf.func5, Tryf.ntmps5
      go_wp2
      go_ret
      exact ⟨by simp [h3], rfl⟩
  · have h3 : ¬ a.size + b.size ≤ 1048576 := by omega
    go_enter Tryf.func5, Tryf.ntmps5
    go_wp2
    go_ret
    exact ⟨by simp [h3], rfl⟩

theorem zz7 (a b c : ByteArray) (w : World) (ha : a.size ≤ 9223372036854775807) (hb : b.size ≤ 9223372036854775807) (hc : c.size ≤ 9223372036854775807) :
    Calls Tryf.prog 7 #[.string a, .string b, .string c] w fun e w' => e = .returned (.bool (decide (a.size + b.size + c.size ≤ 1048576))) ∧ w' = w := by
  by_cases h3 : a.size + b.size + c.size ≤ 1048576
  · go_enter Tryf.func7, Tryf.ntmps7
    go_wp2
    go_ret
    exact ⟨by simp [h3], rfl⟩
  · by_cases h1 : a.size ≤ 1048576
    · by_cases h2 : b.size ≤ 1048576
      · by_cases h4 : a.size + b.size ≤ 1048576
        · by_cases h5 : c.size ≤ 1048576
          · go_enter Tryf.func7, Tryf.ntmps7
            go_wp2
            go_ret
            exact ⟨by simp [h3], rfl⟩
          · go_enter Tryf.func7, Tryf.ntmps7
            go_wp2
            go_ret
            exact ⟨by simp [h3], rfl⟩
        · go_enter Tryf.func7, Tryf.ntmps7
          go_wp2
          go_ret
          exact ⟨by simp [h3], rfl⟩
      · go_enter Tryf.func7, Tryf.ntmps7
        go_wp2
        go_ret
        exact ⟨by simp [h3], rfl⟩
    · go_enter Tryf.func7, Tryf.ntmps7
      go_wp2
      go_ret
      exact ⟨by simp [h3], rfl⟩
end Go.Proofs.Qxb6619173aFmt
