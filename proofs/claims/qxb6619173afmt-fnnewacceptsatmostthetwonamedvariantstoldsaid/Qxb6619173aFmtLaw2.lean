import Derived.Test.Qxb6619173aFmtLaw1
namespace Go.Proofs.Qxb6619173aFmt
open Go.RowKit Go.Extern.Stop Go.Stop Go.Extern

theorem good_empty : good ⟨#[]⟩ = true := by decide +kernel
theorem good_q2f : good ⟨#[113, 117, 111, 114, 117, 109, 45, 50, 102]⟩ = true := by decide +kernel

theorem good_cases {s : ByteArray} (h : good s = true) : s.toList = [] ∨ s.toList = [113, 117, 111, 114, 117, 109, 45, 50, 102] := by
  unfold good at h
  simpa using h

theorem three_good {a b c : ByteArray} (ha : good a = true) (hb : good b = true) (hc : good c = true) :
    (a.toList == b.toList) = true ∨ ((a.toList == b.toList) = false ∧ (b.toList == c.toList) = true) ∨ ((a.toList == b.toList) = false ∧ (b.toList == c.toList) = false ∧ (a.toList == c.toList) = true) := by
  rcases good_cases ha with h1 | h1 <;> rcases good_cases hb with h2 | h2 <;> rcases good_cases hc with h3 | h3 <;> rw [h1, h2, h3] <;> decide

theorem below_step {w w1 w2 : World} {o : Obj} (h1 : Below w.heap.size w w1) (h2 : Below (w1.alloc o).heap.size (w1.alloc o) w2) : Below w.heap.size w w2 := by
  have s1 := h1.size
  rw [World.size_alloc] at h2
  exact (h1.alloc s1 o).trans (h2.mono (by omega))

theorem tape_step {F : Interp} {w w1 : World} {o : Obj} (hF : F.answers w.tape) (h1 : Below w.heap.size w w1) : F.answers (w1.alloc o).tape := by
  show F.answers w1.tape
  rw [h1.tape]; exact hF

set_option maxHeartbeats 600000 in
theorem walk4_bbb (F : Interp) (a b c : ByteArray) (w : World) (hF : F.answers w.tape)
    (ha : a.size ≤ 65536) (hb : b.size ≤ 65536) (hc : c.size ≤ 65536) (ga : good a = false) (gb : good b = false) (gc : good c = false) :
    Calls Tryf.prog 4 #[.string a, .string b, .string c] w fun e w' => e = .returned (.bool true) ∧ Below w.heap.size w w' := by
  go_enter Tryf.func4, Tryf.ntmps4
  go_wp2_with fail
  refine (zz7 _ _ _ _ (by omega) (by omega) (by omega)).mono ?_
  rintro e w' ⟨rfl, rfl⟩
  have hz : decide (a.size + b.size + c.size ≤ 1048576) = true := by simp; omega
  rw [hz]
  go_wp2_with fail
  refine (new_good _ _ good_empty).mono ?_
  rintro e w1 ⟨rfl, hb1⟩
  go_wp2_with fail
  refine (new_good _ _ good_q2f).mono ?_
  rintro e w2 ⟨rfl, hb2⟩
  have B2 : Hid (Below w'.heap.size w' w2) := below_step hb1 hb2
  obtain ⟨hc2, hf2⟩ := bcell hb2
  have hs2 := hb2.size
  rw [World.size_alloc] at hc2 hf2 hs2 hb2
  have hlt : w1.heap.size < w2.heap.size := hs2
  clear hb1 hb2
  go_wp2_with fail
  refine (new_no F _ _ (by exact tape_step hF B2.out) ga).mono ?_
  rintro e w3 ⟨rfl, hb3⟩
  have B3 : Hid (Below w'.heap.size w' w3) := below_step B2.out hb3
  clear hb3
  go_wp2_with fail
  refine (new_no F _ _ (by exact tape_step hF B3.out) gb).mono ?_
  rintro e w4 ⟨rfl, hb4⟩
  have B4 : Hid (Below w'.heap.size w' w4) := below_step B3.out hb4
  clear hb4
  go_wp2_with fail
  refine (new_no F _ _ (by exact tape_step hF B4.out) gc).mono ?_
  rintro e w5 ⟨rfl, hb5⟩
  have B5 : Hid (Below w'.heap.size w' w5) := below_step B4.out hb5
  clear hb5
  go_wp2
  go_ret
  exact ⟨rfl, B5.out.alloc B5.out.size _⟩

set_option maxHeartbeats 600000 in
theorem walk4_bbg (F : Interp) (a b c : ByteArray) (w : World) (hF : F.answers w.tape)
    (ha : a.size ≤ 65536) (hb : b.size ≤ 65536) (hc : c.size ≤ 65536) (ga : good a = false) (gb : good b = false) (gc : good c = true) :
    Calls Tryf.prog 4 #[.string a, .string b, .string c] w fun e w' => e = .returned (.bool true) ∧ Below w.heap.size w w' := by
  go_enter Tryf.func4, Tryf.ntmps4
  go_wp2_with fail
  refine (zz7 _ _ _ _ (by omega) (by omega) (by omega)).mono ?_
  rintro e w' ⟨rfl, rfl⟩
  have hz : decide (a.size + b.size + c.size ≤ 1048576) = true := by simp; omega
  rw [hz]
  go_wp2_with fail
  refine (new_good _ _ good_empty).mono ?_
  rintro e w1 ⟨rfl, hb1⟩
  go_wp2_with fail
  refine (new_good _ _ good_q2f).mono ?_
  rintro e w2 ⟨rfl, hb2⟩
  have B2 : Hid (Below w'.heap.size w' w2) := below_step hb1 hb2
  obtain ⟨hc2, hf2⟩ := bcell hb2
  have hs2 := hb2.size
  rw [World.size_alloc] at hc2 hf2 hs2 hb2
  have hlt : w1.heap.size < w2.heap.size := hs2
  clear hb1 hb2
  go_wp2_with fail
  refine (new_no F _ _ (by exact tape_step hF B2.out) ga).mono ?_
  rintro e w3 ⟨rfl, hb3⟩
  have B3 : Hid (Below w'.heap.size w' w3) := below_step B2.out hb3
  clear hb3
  go_wp2_with fail
  refine (new_no F _ _ (by exact tape_step hF B3.out) gb).mono ?_
  rintro e w4 ⟨rfl, hb4⟩
  have B4 : Hid (Below w'.heap.size w' w4) := below_step B3.out hb4
  clear hb4
  go_wp2_with fail
  refine (new_good _ _ gc).mono ?_
  rintro e w5 ⟨rfl, hb5⟩
  have B5 : Hid (Below w'.heap.size w' w5) := below_step B4.out hb5
  clear hb5
  go_wp2
  go_ret
  exact ⟨rfl, B5.out.alloc B5.out.size _⟩

set_option maxHeartbeats 600000 in
theorem walk4_bgb (F : Interp) (a b c : ByteArray) (w : World) (hF : F.answers w.tape)
    (ha : a.size ≤ 65536) (hb : b.size ≤ 65536) (hc : c.size ≤ 65536) (ga : good a = false) (gb : good b = true) (gc : good c = false) :
    Calls Tryf.prog 4 #[.string a, .string b, .string c] w fun e w' => e = .returned (.bool true) ∧ Below w.heap.size w w' := by
  go_enter Tryf.func4, Tryf.ntmps4
  go_wp2_with fail
  refine (zz7 _ _ _ _ (by omega) (by omega) (by omega)).mono ?_
  rintro e w' ⟨rfl, rfl⟩
  have hz : decide (a.size + b.size + c.size ≤ 1048576) = true := by simp; omega
  rw [hz]
  go_wp2_with fail
  refine (new_good _ _ good_empty).mono ?_
  rintro e w1 ⟨rfl, hb1⟩
  go_wp2_with fail
  refine (new_good _ _ good_q2f).mono ?_
  rintro e w2 ⟨rfl, hb2⟩
  have B2 : Hid (Below w'.heap.size w' w2) := below_step hb1 hb2
  obtain ⟨hc2, hf2⟩ := bcell hb2
  have hs2 := hb2.size
  rw [World.size_alloc] at hc2 hf2 hs2 hb2
  have hlt : w1.heap.size < w2.heap.size := hs2
  clear hb1 hb2
  go_wp2_with fail
  refine (new_no F _ _ (by exact tape_step hF B2.out) ga).mono ?_
  rintro e w3 ⟨rfl, hb3⟩
  have B3 : Hid (Below w'.heap.size w' w3) := below_step B2.out hb3
  clear hb3
  go_wp2_with fail
  refine (new_good _ _ gb).mono ?_
  rintro e w4 ⟨rfl, hb4⟩
  have B4 : Hid (Below w'.heap.size w' w4) := below_step B3.out hb4
  clear hb4
  go_wp2_with fail
  refine (new_no F _ _ (by exact tape_step hF B4.out) gc).mono ?_
  rintro e w5 ⟨rfl, hb5⟩
  have B5 : Hid (Below w'.heap.size w' w5) := below_step B4.out hb5
  clear hb5
  go_wp2
  go_ret
  exact ⟨rfl, B5.out.alloc B5.out.size _⟩

set_option maxHeartbeats 600000 in
theorem walk4_bgg (F : Interp) (a b c : ByteArray) (w : World) (hF : F.answers w.tape)
    (ha : a.size ≤ 65536) (hb : b.size ≤ 65536) (hc : c.size ≤ 65536) (ga : good a = false) (gb : good b = true) (gc : good c = true) :
    Calls Tryf.prog 4 #[.string a, .string b, .string c] w fun e w' => e = .returned (.bool true) ∧ Below w.heap.size w w' := by
  go_enter Tryf.func4, Tryf.ntmps4
  go_wp2_with fail
  refine (zz7 _ _ _ _ (by omega) (by omega) (by omega)).mono ?_
  rintro e w' ⟨rfl, rfl⟩
  have hz : decide (a.size + b.size + c.size ≤ 1048576) = true := by simp; omega
  rw [hz]
  go_wp2_with fail
  refine (new_good _ _ good_empty).mono ?_
  rintro e w1 ⟨rfl, hb1⟩
  go_wp2_with fail
  refine (new_good _ _ good_q2f).mono ?_
  rintro e w2 ⟨rfl, hb2⟩
  have B2 : Hid (Below w'.heap.size w' w2) := below_step hb1 hb2
  obtain ⟨hc2, hf2⟩ := bcell hb2
  have hs2 := hb2.size
  rw [World.size_alloc] at hc2 hf2 hs2 hb2
  have hlt : w1.heap.size < w2.heap.size := hs2
  clear hb1 hb2
  go_wp2_with fail
  refine (new_no F _ _ (by exact tape_step hF B2.out) ga).mono ?_
  rintro e w3 ⟨rfl, hb3⟩
  have B3 : Hid (Below w'.heap.size w' w3) := below_step B2.out hb3
  clear hb3
  go_wp2_with fail
  refine (new_good _ _ gb).mono ?_
  rintro e w4 ⟨rfl, hb4⟩
  have B4 : Hid (Below w'.heap.size w' w4) := below_step B3.out hb4
  clear hb4
  go_wp2_with fail
  refine (new_good _ _ gc).mono ?_
  rintro e w5 ⟨rfl, hb5⟩
  have B5 : Hid (Below w'.heap.size w' w5) := below_step B4.out hb5
  clear hb5
  go_wp2
  go_ret
  exact ⟨rfl, B5.out.alloc B5.out.size _⟩

set_option maxHeartbeats 600000 in
theorem walk4_gbb (F : Interp) (a b c : ByteArray) (w : World) (hF : F.answers w.tape)
    (ha : a.size ≤ 65536) (hb : b.size ≤ 65536) (hc : c.size ≤ 65536) (ga : good a = true) (gb : good b = false) (gc : good c = false) :
    Calls Tryf.prog 4 #[.string a, .string b, .string c] w fun e w' => e = .returned (.bool true) ∧ Below w.heap.size w w' := by
  go_enter Tryf.func4, Tryf.ntmps4
  go_wp2_with fail
  refine (zz7 _ _ _ _ (by omega) (by omega) (by omega)).mono ?_
  rintro e w' ⟨rfl, rfl⟩
  have hz : decide (a.size + b.size + c.size ≤ 1048576) = true := by simp; omega
  rw [hz]
  go_wp2_with fail
  refine (new_good _ _ good_empty).mono ?_
  rintro e w1 ⟨rfl, hb1⟩
  go_wp2_with fail
  refine (new_good _ _ good_q2f).mono ?_
  rintro e w2 ⟨rfl, hb2⟩
  have B2 : Hid (Below w'.heap.size w' w2) := below_step hb1 hb2
  obtain ⟨hc2, hf2⟩ := bcell hb2
  have hs2 := hb2.size
  rw [World.size_alloc] at hc2 hf2 hs2 hb2
  have hlt : w1.heap.size < w2.heap.size := hs2
  clear hb1 hb2
  go_wp2_with fail
  refine (new_good _ _ ga).mono ?_
  rintro e w3 ⟨rfl, hb3⟩
  have B3 : Hid (Below w'.heap.size w' w3) := below_step B2.out hb3
  clear hb3
  go_wp2_with fail
  refine (new_no F _ _ (by exact tape_step hF B3.out) gb).mono ?_
  rintro e w4 ⟨rfl, hb4⟩
  have B4 : Hid (Below w'.heap.size w' w4) := below_step B3.out hb4
  clear hb4
  go_wp2_with fail
  refine (new_no F _ _ (by exact tape_step hF B4.out) gc).mono ?_
  rintro e w5 ⟨rfl, hb5⟩
  have B5 : Hid (Below w'.heap.size w' w5) := below_step B4.out hb5
  clear hb5
  go_wp2
  go_ret
  exact ⟨rfl, B5.out.alloc B5.out.size _⟩

set_option maxHeartbeats 600000 in
theorem walk4_gbg (F : Interp) (a b c : ByteArray) (w : World) (hF : F.answers w.tape)
    (ha : a.size ≤ 65536) (hb : b.size ≤ 65536) (hc : c.size ≤ 65536) (ga : good a = true) (gb : good b = false) (gc : good c = true) :
    Calls Tryf.prog 4 #[.string a, .string b, .string c] w fun e w' => e = .returned (.bool true) ∧ Below w.heap.size w w' := by
  go_enter Tryf.func4, Tryf.ntmps4
  go_wp2_with fail
  refine (zz7 _ _ _ _ (by omega) (by omega) (by omega)).mono ?_
  rintro e w' ⟨rfl, rfl⟩
  have hz : decide (a.size + b.size + c.size ≤ 1048576) = true := by simp; omega
  rw [hz]
  go_wp2_with fail
  refine (new_good _ _ good_empty).mono ?_
  rintro e w1 ⟨rfl, hb1⟩
  go_wp2_with fail
  refine (new_good _ _ good_q2f).mono ?_
  rintro e w2 ⟨rfl, hb2⟩
  have B2 : Hid (Below w'.heap.size w' w2) := below_step hb1 hb2
  obtain ⟨hc2, hf2⟩ := bcell hb2
  have hs2 := hb2.size
  rw [World.size_alloc] at hc2 hf2 hs2 hb2
  have hlt : w1.heap.size < w2.heap.size := hs2
  clear hb1 hb2
  go_wp2_with fail
  refine (new_good _ _ ga).mono ?_
  rintro e w3 ⟨rfl, hb3⟩
  have B3 : Hid (Below w'.heap.size w' w3) := below_step B2.out hb3
  clear hb3
  go_wp2_with fail
  refine (new_no F _ _ (by exact tape_step hF B3.out) gb).mono ?_
  rintro e w4 ⟨rfl, hb4⟩
  have B4 : Hid (Below w'.heap.size w' w4) := below_step B3.out hb4
  clear hb4
  go_wp2_with fail
  refine (new_good _ _ gc).mono ?_
  rintro e w5 ⟨rfl, hb5⟩
  have B5 : Hid (Below w'.heap.size w' w5) := below_step B4.out hb5
  clear hb5
  go_wp2
  go_ret
  exact ⟨rfl, B5.out.alloc B5.out.size _⟩

set_option maxHeartbeats 600000 in
theorem walk4_ggb (F : Interp) (a b c : ByteArray) (w : World) (hF : F.answers w.tape)
    (ha : a.size ≤ 65536) (hb : b.size ≤ 65536) (hc : c.size ≤ 65536) (ga : good a = true) (gb : good b = true) (gc : good c = false) :
    Calls Tryf.prog 4 #[.string a, .string b, .string c] w fun e w' => e = .returned (.bool true) ∧ Below w.heap.size w w' := by
  go_enter Tryf.func4, Tryf.ntmps4
  go_wp2_with fail
  refine (zz7 _ _ _ _ (by omega) (by omega) (by omega)).mono ?_
  rintro e w' ⟨rfl, rfl⟩
  have hz : decide (a.size + b.size + c.size ≤ 1048576) = true := by simp; omega
  rw [hz]
  go_wp2_with fail
  refine (new_good _ _ good_empty).mono ?_
  rintro e w1 ⟨rfl, hb1⟩
  go_wp2_with fail
  refine (new_good _ _ good_q2f).mono ?_
  rintro e w2 ⟨rfl, hb2⟩
  have B2 : Hid (Below w'.heap.size w' w2) := below_step hb1 hb2
  obtain ⟨hc2, hf2⟩ := bcell hb2
  have hs2 := hb2.size
  rw [World.size_alloc] at hc2 hf2 hs2 hb2
  have hlt : w1.heap.size < w2.heap.size := hs2
  clear hb1 hb2
  go_wp2_with fail
  refine (new_good _ _ ga).mono ?_
  rintro e w3 ⟨rfl, hb3⟩
  have B3 : Hid (Below w'.heap.size w' w3) := below_step B2.out hb3
  clear hb3
  go_wp2_with fail
  refine (new_good _ _ gb).mono ?_
  rintro e w4 ⟨rfl, hb4⟩
  have B4 : Hid (Below w'.heap.size w' w4) := below_step B3.out hb4
  clear hb4
  go_wp2_with fail
  refine (new_no F _ _ (by exact tape_step hF B4.out) gc).mono ?_
  rintro e w5 ⟨rfl, hb5⟩
  have B5 : Hid (Below w'.heap.size w' w5) := below_step B4.out hb5
  clear hb5
  go_wp2
  go_ret
  exact ⟨rfl, B5.out.alloc B5.out.size _⟩

set_option maxHeartbeats 600000 in
theorem walk4_ggg1 (a b c : ByteArray) (w : World)
    (ha : a.size ≤ 65536) (hb : b.size ≤ 65536) (hc : c.size ≤ 65536) (ga : good a = true) (gb : good b = true) (gc : good c = true) (h1 : (a.toList == b.toList) = true) :
    Calls Tryf.prog 4 #[.string a, .string b, .string c] w fun e w' => e = .returned (.bool true) ∧ Below w.heap.size w w' := by
  go_enter Tryf.func4, Tryf.ntmps4
  go_wp2_with fail
  refine (zz7 _ _ _ _ (by omega) (by omega) (by omega)).mono ?_
  rintro e w' ⟨rfl, rfl⟩
  have hz : decide (a.size + b.size + c.size ≤ 1048576) = true := by simp; omega
  rw [hz]
  go_wp2_with fail
  refine (new_good _ _ good_empty).mono ?_
  rintro e w1 ⟨rfl, hb1⟩
  go_wp2_with fail
  refine (new_good _ _ good_q2f).mono ?_
  rintro e w2 ⟨rfl, hb2⟩
  have B2 : Hid (Below w'.heap.size w' w2) := below_step hb1 hb2
  obtain ⟨hc2, hf2⟩ := bcell hb2
  have hs2 := hb2.size
  rw [World.size_alloc] at hc2 hf2 hs2 hb2
  have hlt : w1.heap.size < w2.heap.size := hs2
  clear hb1 hb2
  go_wp2_with fail
  refine (new_good _ _ ga).mono ?_
  rintro e w3 ⟨rfl, hb3⟩
  have B3 : Hid (Below w'.heap.size w' w3) := below_step B2.out hb3
  clear hb3
  go_wp2_with fail
  refine (new_good _ _ gb).mono ?_
  rintro e w4 ⟨rfl, hb4⟩
  have B4 : Hid (Below w'.heap.size w' w4) := below_step B3.out hb4
  clear hb4
  go_wp2_with fail
  refine (new_good _ _ gc).mono ?_
  rintro e w5 ⟨rfl, hb5⟩
  have B5 : Hid (Below w'.heap.size w' w5) := below_step B4.out hb5
  clear hb5
  go_wp2
  go_ret
  exact ⟨rfl, B5.out.alloc B5.out.size _⟩

set_option maxHeartbeats 600000 in
theorem walk4_ggg2 (a b c : ByteArray) (w : World)
    (ha : a.size ≤ 65536) (hb : b.size ≤ 65536) (hc : c.size ≤ 65536) (ga : good a = true) (gb : good b = true) (gc : good c = true) (h1 : (a.toList == b.toList) = false) (h2 : (b.toList == c.toList) = true) :
    Calls Tryf.prog 4 #[.string a, .string b, .string c] w fun e w' => e = .returned (.bool true) ∧ Below w.heap.size w w' := by
  go_enter Tryf.func4, Tryf.ntmps4
  go_wp2_with fail
  refine (zz7 _ _ _ _ (by omega) (by omega) (by omega)).mono ?_
  rintro e w' ⟨rfl, rfl⟩
  have hz : decide (a.size + b.size + c.size ≤ 1048576) = true := by simp; omega
  rw [hz]
  go_wp2_with fail
  refine (new_good _ _ good_empty).mono ?_
  rintro e w1 ⟨rfl, hb1⟩
  go_wp2_with fail
  refine (new_good _ _ good_q2f).mono ?_
  rintro e w2 ⟨rfl, hb2⟩
  have B2 : Hid (Below w'.heap.size w' w2) := below_step hb1 hb2
  obtain ⟨hc2, hf2⟩ := bcell hb2
  have hs2 := hb2.size
  rw [World.size_alloc] at hc2 hf2 hs2 hb2
  have hlt : w1.heap.size < w2.heap.size := hs2
  clear hb1 hb2
  go_wp2_with fail
  refine (new_good _ _ ga).mono ?_
  rintro e w3 ⟨rfl, hb3⟩
  have B3 : Hid (Below w'.heap.size w' w3) := below_step B2.out hb3
  clear hb3
  go_wp2_with fail
  refine (new_good _ _ gb).mono ?_
  rintro e w4 ⟨rfl, hb4⟩
  have B4 : Hid (Below w'.heap.size w' w4) := below_step B3.out hb4
  clear hb4
  go_wp2_with fail
  refine (new_good _ _ gc).mono ?_
  rintro e w5 ⟨rfl, hb5⟩
  have B5 : Hid (Below w'.heap.size w' w5) := below_step B4.out hb5
  clear hb5
  go_wp2
  go_ret
  exact ⟨rfl, B5.out.alloc B5.out.size _⟩

set_option maxHeartbeats 600000 in
theorem walk4_ggg3 (a b c : ByteArray) (w : World)
    (ha : a.size ≤ 65536) (hb : b.size ≤ 65536) (hc : c.size ≤ 65536) (ga : good a = true) (gb : good b = true) (gc : good c = true) (h1 : (a.toList == b.toList) = false) (h2 : (b.toList == c.toList) = false) (h3 : (a.toList == c.toList) = true) :
    Calls Tryf.prog 4 #[.string a, .string b, .string c] w fun e w' => e = .returned (.bool true) ∧ Below w.heap.size w w' := by
  go_enter Tryf.func4, Tryf.ntmps4
  go_wp2_with fail
  refine (zz7 _ _ _ _ (by omega) (by omega) (by omega)).mono ?_
  rintro e w' ⟨rfl, rfl⟩
  have hz : decide (a.size + b.size + c.size ≤ 1048576) = true := by simp; omega
  rw [hz]
  go_wp2_with fail
  refine (new_good _ _ good_empty).mono ?_
  rintro e w1 ⟨rfl, hb1⟩
  go_wp2_with fail
  refine (new_good _ _ good_q2f).mono ?_
  rintro e w2 ⟨rfl, hb2⟩
  have B2 : Hid (Below w'.heap.size w' w2) := below_step hb1 hb2
  obtain ⟨hc2, hf2⟩ := bcell hb2
  have hs2 := hb2.size
  rw [World.size_alloc] at hc2 hf2 hs2 hb2
  have hlt : w1.heap.size < w2.heap.size := hs2
  clear hb1 hb2
  go_wp2_with fail
  refine (new_good _ _ ga).mono ?_
  rintro e w3 ⟨rfl, hb3⟩
  have B3 : Hid (Below w'.heap.size w' w3) := below_step B2.out hb3
  clear hb3
  go_wp2_with fail
  refine (new_good _ _ gb).mono ?_
  rintro e w4 ⟨rfl, hb4⟩
  have B4 : Hid (Below w'.heap.size w' w4) := below_step B3.out hb4
  clear hb4
  go_wp2_with fail
  refine (new_good _ _ gc).mono ?_
  rintro e w5 ⟨rfl, hb5⟩
  have B5 : Hid (Below w'.heap.size w' w5) := below_step B4.out hb5
  clear hb5
  go_wp2
  go_ret
  exact ⟨rfl, B5.out.alloc B5.out.size _⟩


theorem walk4_far (a b c : ByteArray) (w : World) (ha : a.size ≤ 9223372036854775807) (hb : b.size ≤ 9223372036854775807) (hc : c.size ≤ 9223372036854775807) (h : 65536 < a.size ∨ 65536 < b.size ∨ 65536 < c.size) :
    Calls Tryf.prog 4 #[.string a, .string b, .string c] w fun e w' => e = .returned (.bool true) ∧ Below w.heap.size w w' := by
  by_cases hs : a.size + b.size + c.size ≤ 1048576
  · have hz : decide (a.size + b.size + c.size ≤ 1048576) = true := by simp; omega
    by_cases h1 : 65536 < a.size
    · go_enter Tryf.func4, Tryf.ntmps4
      go_wp2_with fail
      refine (zz7 _ _ _ _ ha hb hc).mono ?_
      rintro e w' ⟨rfl, rfl⟩
      rw [hz]
      go_wp2_with fail
      go_ret
      exact ⟨rfl, Below.refl _ _⟩
    · by_cases h2 : 65536 < b.size
      · go_enter Tryf.func4, Tryf.ntmps4
        go_wp2_with fail
        refine (zz7 _ _ _ _ ha hb hc).mono ?_
        rintro e w' ⟨rfl, rfl⟩
        rw [hz]
        go_wp2_with fail
        go_ret
        exact ⟨rfl, Below.refl _ _⟩
      · have h3 : 65536 < c.size := by omega
        go_enter Tryf.func4, Tryf.ntmps4
        go_wp2_with fail
        refine (zz7 _ _ _ _ ha hb hc).mono ?_
        rintro e w' ⟨rfl, rfl⟩
        rw [hz]
        go_wp2_with fail
        go_ret
        exact ⟨rfl, Below.refl _ _⟩
  · have hz : decide (a.size + b.size + c.size ≤ 1048576) = false := by simp; omega
    go_enter Tryf.func4, Tryf.ntmps4
    go_wp2_with fail
    refine (zz7 _ _ _ _ ha hb hc).mono ?_
    rintro e w' ⟨rfl, rfl⟩
    rw [hz]
    go_wp2_with fail
    go_ret
    exact ⟨rfl, Below.refl _ _⟩

theorem walk4 (F : Interp) (a b c : ByteArray) (w : World) (hF : F.answers w.tape) (ha : a.size ≤ 9223372036854775807) (hb : b.size ≤ 9223372036854775807) (hc : c.size ≤ 9223372036854775807) :
    Calls Tryf.prog 4 #[.string a, .string b, .string c] w fun e w' => e = .returned (.bool true) ∧ Below w.heap.size w w' := by
  by_cases h : 65536 < a.size ∨ 65536 < b.size ∨ 65536 < c.size
  · exact walk4_far a b c w ha hb hc h
  · have h1 : a.size ≤ 65536 := by omega
    have h2 : b.size ≤ 65536 := by omega
    have h3 : c.size ≤ 65536 := by omega
    cases ga : good a with
    | true =>
      cases gb : good b with
      | true =>
        cases gc : good c with
        | true =>
          rcases three_good ga gb gc with e1 | ⟨e1, e2⟩ | ⟨e1, e2, e3⟩
          · exact walk4_ggg1 a b c w h1 h2 h3 ga gb gc e1
          · exact walk4_ggg2 a b c w h1 h2 h3 ga gb gc e1 e2
          · exact walk4_ggg3 a b c w h1 h2 h3 ga gb gc e1 e2 e3
        | false => exact walk4_ggb F a b c w hF h1 h2 h3 ga gb gc
      | false =>
        cases gc : good c with
        | true => exact walk4_gbg F a b c w hF h1 h2 h3 ga gb gc
        | false => exact walk4_gbb F a b c w hF h1 h2 h3 ga gb gc
    | false =>
      cases gb : good b with
      | true =>
        cases gc : good c with
        | true => exact walk4_bgg F a b c w hF h1 h2 h3 ga gb gc
        | false => exact walk4_bgb F a b c w hF h1 h2 h3 ga gb gc
      | false =>
        cases gc : good c with
        | true => exact walk4_bbg F a b c w hF h1 h2 h3 ga gb gc
        | false => exact walk4_bbb F a b c w hF h1 h2 h3 ga gb gc
end Go.Proofs.Qxb6619173aFmt
