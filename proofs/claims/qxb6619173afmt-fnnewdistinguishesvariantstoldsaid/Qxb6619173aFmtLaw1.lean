import Derived.Test.Qxb6619173aFmtWalks
import Derived.Deep.QuietTactic
import Derived.BigQuiet
namespace Go.Proofs.Qxb6619173aFmt
open Go.RowKit Go.Extern.Stop Go.Stop Go.Extern

theorem bcell {W w1 : World} (hb : Below W.heap.size W w1) : (∀ b o, b < W.heap.size → w1.cell? ⟨b, o, none⟩ = W.cell? ⟨b, o, none⟩) ∧ (∀ b o, b < W.heap.size → w1.frozen? ⟨b, o, none⟩ = W.frozen? ⟨b, o, none⟩) :=
  ⟨fun b o h => hb.cell (p := ⟨b, o, none⟩) h, fun b o h => hb.frozen (p := ⟨b, o, none⟩) h⟩

theorem below_end {w w1 w2 : World} {o : Obj} (h1 : Below w.heap.size w w1) (h2 : Below (w1.heap.size + 1) (w1.alloc o) w2) (p : Obj) : Below w.heap.size w (w2.alloc p) := by
  have s1 := h1.size
  have s2 := h2.size
  rw [World.size_alloc] at s2
  exact (((h1.alloc s1 o).trans (h2.mono (by omega)))).alloc (by omega) p

set_option maxHeartbeats 400000 in
theorem walk_gg (a b : ByteArray) (w : World)
    (ha : a.size ≤ 65536) (hb : b.size ≤ 65536) (ha1 : good a = true) (hb0 : good b = true) :
    Calls Tryf.prog 3 #[.string a, .string b] w fun e w' => e = .returned (.bool true) ∧ Below w.heap.size w w' := by
  go_enter Tryf.func3, Tryf.ntmps3
  go_wp2_with fail
  refine (zz5 _ _ _ (by omega) (by omega)).mono ?_
  rintro e w' ⟨rfl, rfl⟩
  have hz : decide (a.size + b.size ≤ 1048576) = true := by simp; omega
  rw [hz]
  go_wp2_with fail
  refine (new_good _ _ ha1).mono ?_
  rintro e w1 ⟨rfl, hb1⟩
  go_wp2_with fail
  refine (new_good _ _ hb0).mono ?_
  rintro e w2 ⟨rfl, hb2⟩
  obtain ⟨hc2, hf2⟩ := bcell hb2
  have hs2 := hb2.size
  rw [World.size_alloc] at hc2 hf2 hs2 hb2
  have hlt : w1.heap.size < w2.heap.size := hs2
  go_wp2
  · go_quiet (fail)
    go_wp2
    go_ret
    exact ⟨rfl, below_drewN (below_end hb1 hb2 _) _⟩
  · go_ret
    exact ⟨rfl, below_end hb1 hb2 _⟩

set_option maxHeartbeats 400000 in
theorem walk_gb (F : Interp) (a b : ByteArray) (w : World) (hF : F.answers w.tape)
    (ha : a.size ≤ 65536) (hb : b.size ≤ 65536) (ha1 : good a = true) (hb0 : good b = false) :
    Calls Tryf.prog 3 #[.string a, .string b] w fun e w' => e = .returned (.bool true) ∧ Below w.heap.size w w' := by
  have hne : (a.toList == b.toList) = false := by
    cases h : (a.toList == b.toList) with
    | false => rfl
    | true => rw [good_congr h] at ha1; rw [ha1] at hb0; cases hb0
  go_enter Tryf.func3, Tryf.ntmps3
  go_wp2_with fail
  refine (zz5 _ _ _ (by omega) (by omega)).mono ?_
  rintro e w' ⟨rfl, rfl⟩
  have hz : decide (a.size + b.size ≤ 1048576) = true := by simp; omega
  rw [hz]
  go_wp2_with fail
  refine (new_good _ _ ha1).mono ?_
  rintro e w1 ⟨rfl, hb1⟩
  go_wp2_with fail
  refine (new_no F _ _ (by show F.answers w1.tape; rw [hb1.tape]; exact hF) hb0).mono ?_
  rintro e w2 ⟨rfl, hb2⟩
  obtain ⟨hc2, hf2⟩ := bcell hb2
  have hs2 := hb2.size
  rw [World.size_alloc] at hc2 hf2 hs2 hb2
  have hlt : w1.heap.size < w2.heap.size := hs2
  go_wp2
  go_ret
  exact ⟨rfl, below_end hb1 hb2 _⟩

set_option maxHeartbeats 400000 in
theorem walk_bg (F : Interp) (a b : ByteArray) (w : World) (hF : F.answers w.tape)
    (ha : a.size ≤ 65536) (hb : b.size ≤ 65536) (ha1 : good a = false) (hb0 : good b = true) :
    Calls Tryf.prog 3 #[.string a, .string b] w fun e w' => e = .returned (.bool true) ∧ Below w.heap.size w w' := by
  have hne : (a.toList == b.toList) = false := by
    cases h : (a.toList == b.toList) with
    | false => rfl
    | true => rw [good_congr h] at ha1; rw [ha1] at hb0; cases hb0
  go_enter Tryf.func3, Tryf.ntmps3
  go_wp2_with fail
  refine (zz5 _ _ _ (by omega) (by omega)).mono ?_
  rintro e w' ⟨rfl, rfl⟩
  have hz : decide (a.size + b.size ≤ 1048576) = true := by simp; omega
  rw [hz]
  go_wp2_with fail
  refine (new_no F _ _ hF ha1).mono ?_
  rintro e w1 ⟨rfl, hb1⟩
  go_wp2_with fail
  refine (new_good _ _ hb0).mono ?_
  rintro e w2 ⟨rfl, hb2⟩
  obtain ⟨hc2, hf2⟩ := bcell hb2
  have hs2 := hb2.size
  rw [World.size_alloc] at hc2 hf2 hs2 hb2
  have hlt : w1.heap.size < w2.heap.size := hs2
  go_wp2
  go_ret
  exact ⟨rfl, below_end hb1 hb2 _⟩

set_option maxHeartbeats 400000 in
theorem walk_bb (F : Interp) (a b : ByteArray) (w : World) (hF : F.answers w.tape)
    (ha : a.size ≤ 65536) (hb : b.size ≤ 65536) (ha1 : good a = false) (hb0 : good b = false) :
    Calls Tryf.prog 3 #[.string a, .string b] w fun e w' => e = .returned (.bool true) ∧ Below w.heap.size w w' := by
  go_enter Tryf.func3, Tryf.ntmps3
  go_wp2_with fail
  refine (zz5 _ _ _ (by omega) (by omega)).mono ?_
  rintro e w' ⟨rfl, rfl⟩
  have hz : decide (a.size + b.size ≤ 1048576) = true := by simp; omega
  rw [hz]
  go_wp2_with fail
  refine (new_no F _ _ hF ha1).mono ?_
  rintro e w1 ⟨rfl, hb1⟩
  go_wp2_with fail
  refine (new_no F _ _ (by show F.answers w1.tape; rw [hb1.tape]; exact hF) hb0).mono ?_
  rintro e w2 ⟨rfl, hb2⟩
  obtain ⟨hc2, hf2⟩ := bcell hb2
  have hs2 := hb2.size
  rw [World.size_alloc] at hc2 hf2 hs2 hb2
  have hlt : w1.heap.size < w2.heap.size := hs2
  go_wp2
  · go_quiet (fail)
    go_wp2
    go_ret
    exact ⟨rfl, below_drewN (below_end hb1 hb2 _) _⟩
  · go_ret
    exact ⟨rfl, below_end hb1 hb2 _⟩

theorem walk_far (a b : ByteArray) (w : World) (ha : a.size ≤ 9223372036854775807) (hb : b.size ≤ 9223372036854775807) (h : 65536 < a.size ∨ 65536 < b.size) :
    Calls Tryf.prog 3 #[.string a, .string b] w fun e w' => e = .returned (.bool true) ∧ Below w.heap.size w w' := by
  by_cases hs : a.size + b.size ≤ 1048576
  · by_cases h1 : 65536 < a.size
    · go_enter Tryf.func3, Tryf.ntmps3
      go_wp2_with fail
      refine (zz5 _ _ _ ha hb).mono ?_
      rintro e w' ⟨rfl, rfl⟩
      have hz : decide (a.size + b.size ≤ 1048576) = true := by simp; omega
      rw [hz]
      go_wp2_with fail
      go_ret
      exact ⟨rfl, Below.refl _ _⟩
    · have h2 : 65536 < b.size := by omega
      go_enter Tryf.func3, Tryf.ntmps3
      go_wp2_with fail
      refine (zz5 _ _ _ ha hb).mono ?_
      rintro e w' ⟨rfl, rfl⟩
      have hz : decide (a.size + b.size ≤ 1048576) = true := by simp; omega
      rw [hz]
      go_wp2_with fail
      go_ret
      exact ⟨rfl, Below.refl _ _⟩
  · go_enter Tryf.func3, Tryf.ntmps3
    go_wp2_with fail
    refine (zz5 _ _ _ ha hb).mono ?_
    rintro e w' ⟨rfl, rfl⟩
    have hz : decide (a.size + b.size ≤ 1048576) = false := by simp; omega
    rw [hz]
    go_wp2_with fail
    go_ret
    exact ⟨rfl, Below.refl _ _⟩

theorem walk3 (F : Interp) (a b : ByteArray) (w : World) (hF : F.answers w.tape) (ha : a.size ≤ 9223372036854775807) (hb : b.size ≤ 9223372036854775807) :
    Calls Tryf.prog 3 #[.string a, .string b] w fun e w' => e = .returned (.bool true) ∧ Below w.heap.size w w' := by
  by_cases h : 65536 < a.size ∨ 65536 < b.size
  · exact walk_far a b w ha hb h
  · have h1 : a.size ≤ 65536 := by omega
    have h2 : b.size ≤ 65536 := by omega
    cases ga : good a with
    | true =>
      cases gb : good b with
      | true => exact walk_gg a b w h1 h2 ga gb
      | false => exact walk_gb F a b w hF h1 h2 ga gb
    | false =>
      cases gb : good b with
      | true => exact walk_bg F a b w hF h1 h2 ga gb
      | false => exact walk_bb F a b w hF h1 h2 ga gb
end Go.Proofs.Qxb6619173aFmt
