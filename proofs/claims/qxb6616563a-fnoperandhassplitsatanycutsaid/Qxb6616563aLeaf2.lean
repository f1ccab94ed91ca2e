import Derived.Test.Qxb6616563aLeaf1
import Derived.Deep.OwnRows
import Derived.Lib.SliceRun
namespace Go.Proofs.Qxb6616563a
open Go.RowKit

theorem Try.info3 : (Try.prog.info? 3).map (fun i => (i.zero, i.size, i.bytes)) = some (some (.int .i64 0), 1, 8) := by kernel_rfl

set_option maxHeartbeats 400000 in
theorem cloneInts_any (a : Option Addr) (n c : Nat) (z : Nat → Int) (w : World) (ha : Sl w a n (fun i => .int .i64 (z i))) (hn : n ≤ 1099511627776) :
    Calls Try.prog 11 #[.slice a n c] w fun e w' => ∃ a' c', e = .returned (.slice a' n c') ∧ Sl w' a' n (fun i => .int .i64 (z i)) ∧ Below w.heap.size w w' ∧ (a' = none ↔ a = none) := by
  have heq := fun (w : World) => Lib.run_eql_slice_nil (P := Try.prog) w 22 3 a n c 0 0 Try.underlying22
  cases a with
  | none =>
    have h0 : n = 0 := by
      rcases Nat.eq_zero_or_pos n with h | h
      · exact h
      · obtain ⟨b, off, h1, _⟩ := ha h
        cases h1
    subst h0
    go_enter Try.func11, Try.ntmps11
    go_wp2
    go_ret
    exact ⟨none, 0, rfl, fun h => absurd h (Nat.lt_irrefl 0), Below.refl _ _, by simp⟩
  | some ad =>
    have hmk := run_make_row' (P := Try.prog) 22 3 (.int .i64 0) 8 Try.underlying22 Try.info3 rfl .i64 .i64 n (by omega) (by omega)
    go_enter Try.func11, Try.ntmps11
    go_wp2
    go_loopw [4] (fun i wr => ∃ k : Nat, k ≤ n ∧ i = .int .i64 k ∧ wr.rowIs w.heap.size 3 n (fun j => if j < k then .int .i64 (z j) else .int .i64 0) ∧ Below w.heap.size w wr) (fun i _ => n - (intOf i).toNat)
    case atStart => exact ⟨0, Nat.zero_le _, rfl, (World.rowIs_made w _ n 3).congr (fun i _ => by simp), (Below.refl _ _).alloc (Nat.le_refl _) _⟩
    case round =>
      obtain ⟨k, hk, rfl, hrow, hbel⟩ := hrel
      have HR : Hid (wr.rowIs w.heap.size 3 n (fun j => if j < k then .int .i64 (z j) else .int .i64 0)) := hrow
      have HB : Hid (Below w.heap.size w wr) := hbel
      clear hrow hbel hmk
      by_cases hlt : k < n
      · obtain ⟨b1, o1, hA, hc1⟩ := (ha.below HB.out) (by omega)
        cases hA
        have d1 := hc1 k hlt
        have d2 := HR.out.cell hlt
        have d3 := HR.out.frozen k
        simp only [Nat.lt_irrefl, if_false] at d2
        clear hc1
        go_wp2
        go_roundw
        case rel =>
          refine ⟨k + 1, by omega, by go_num, (HR.out.set k _).congr (fun i _ => ?_), HB.out.setCell (Nat.le_refl _) _⟩
          by_cases h1 : i = k
          · subst h1; simp
          · by_cases h2 : i < k
            · simp [h1, h2, Nat.lt_succ_of_lt h2]
            · have h3 : ¬ i < k + 1 := by omega
              simp [h1, h2, h3]
        case measure => simp [intOf]; omega
      · go_wp2
        go_ret
        refine ⟨_, _, rfl, fun _ => ⟨w.heap.size, 0, rfl, fun i hi => ?_⟩, HB.out, by simp⟩
        have := HR.out.cell hi
        rw [if_pos (by omega)] at this
        simpa using this

theorem Try.info9 : (Try.prog.info? 9).map (fun i => (i.zero, i.size, i.bytes)) = some (some (.string ⟨#[]⟩), 1, 16) := by kernel_rfl

set_option maxHeartbeats 400000 in
theorem cloneStrings_any (a : Option Addr) (n c : Nat) (s : Nat → ByteArray) (w : World) (ha : Sl w a n (fun i => .string (s i))) (hn : n ≤ 1099511627776) :
    Calls Try.prog 12 #[.slice a n c] w fun e w' => ∃ a' c', e = .returned (.slice a' n c') ∧ Sl w' a' n (fun i => .string (s i)) ∧ Below w.heap.size w w' ∧ (a' = none ↔ a = none) := by
  have heq := fun (w : World) => Lib.run_eql_slice_nil (P := Try.prog) w 23 9 a n c 0 0 Try.underlying23
  cases a with
  | none =>
    have h0 : n = 0 := by
      rcases Nat.eq_zero_or_pos n with h | h
      · exact h
      · obtain ⟨b, off, h1, _⟩ := ha h
        cases h1
    subst h0
    go_enter Try.func12, Try.ntmps12
    go_wp2
    go_ret
    exact ⟨none, 0, rfl, fun h => absurd h (Nat.lt_irrefl 0), Below.refl _ _, by simp⟩
  | some ad =>
    have hmk := run_make_row' (P := Try.prog) 23 9 (.string ⟨#[]⟩) 16 Try.underlying23 Try.info9 rfl .i64 .i64 n (by omega) (by omega)
    go_enter Try.func12, Try.ntmps12
    go_wp2
    go_loopw [4] (fun i wr => ∃ k : Nat, k ≤ n ∧ i = .int .i64 k ∧ wr.rowIs w.heap.size 9 n (fun j => if j < k then .string (s j) else .string ⟨#[]⟩) ∧ Below w.heap.size w wr) (fun i _ => n - (intOf i).toNat)
    case atStart => exact ⟨0, Nat.zero_le _, rfl, (World.rowIs_made w _ n 9).congr (fun i _ => by simp), (Below.refl _ _).alloc (Nat.le_refl _) _⟩
    case round =>
      obtain ⟨k, hk, rfl, hrow, hbel⟩ := hrel
      have HR : Hid (wr.rowIs w.heap.size 9 n (fun j => if j < k then .string (s j) else .string ⟨#[]⟩)) := hrow
      have HB : Hid (Below w.heap.size w wr) := hbel
      clear hrow hbel hmk
      by_cases hlt : k < n
      · obtain ⟨b1, o1, hA, hc1⟩ := (ha.below HB.out) (by omega)
        cases hA
        have d1 := hc1 k hlt
        have d2 := HR.out.cell hlt
        have d3 := HR.out.frozen k
        simp only [Nat.lt_irrefl, if_false] at d2
        clear hc1
        go_wp2
        go_roundw
        case rel =>
          refine ⟨k + 1, by omega, by go_num, (HR.out.set k _).congr (fun i _ => ?_), HB.out.setCell (Nat.le_refl _) _⟩
          by_cases h1 : i = k
          · subst h1; simp
          · by_cases h2 : i < k
            · simp [h1, h2, Nat.lt_succ_of_lt h2]
            · have h3 : ¬ i < k + 1 := by omega
              simp [h1, h2, h3]
        case measure => simp [intOf]; omega
      · go_wp2
        go_ret
        refine ⟨_, _, rfl, fun _ => ⟨w.heap.size, 0, rfl, fun i hi => ?_⟩, HB.out, by simp⟩
        have := HR.out.cell hi
        rw [if_pos (by omega)] at this
        simpa using this

theorem Try.info5 : (Try.prog.info? 5).map (fun i => (i.zero, i.size, i.bytes)) = some (some (.int .u8 0), 1, 1) := by kernel_rfl

set_option maxHeartbeats 400000 in
theorem cloneBytes_any (a : Option Addr) (n c : Nat) (z : Nat → Int) (w : World) (ha : Sl w a n (fun i => .int .u8 (z i))) (hn : n ≤ 1099511627776) :
    Calls Try.prog 22 #[.slice a n c] w fun e w' => ∃ a' c', e = .returned (.slice a' n c') ∧ Sl w' a' n (fun i => .int .u8 (z i)) ∧ Below w.heap.size w w' ∧ (a' = none ↔ a = none) := by
  have heq := fun (w : World) => Lib.run_eql_slice_nil (P := Try.prog) w 32 5 a n c 0 0 Try.underlying32
  cases a with
  | none =>
    have h0 : n = 0 := by
      rcases Nat.eq_zero_or_pos n with h | h
      · exact h
      · obtain ⟨b, off, h1, _⟩ := ha h
        cases h1
    subst h0
    go_enter Try.func22, Try.ntmps22
    go_wp2
    go_ret
    exact ⟨none, 0, rfl, fun h => absurd h (Nat.lt_irrefl 0), Below.refl _ _, by simp⟩
  | some ad =>
    have hmk := run_make_row' (P := Try.prog) 32 5 (.int .u8 0) 1 Try.underlying32 Try.info5 rfl .i64 .i64 n (by omega) (by omega)
    go_enter Try.func22, Try.ntmps22
    go_wp2
    go_loopw [4] (fun i wr => ∃ k : Nat, k ≤ n ∧ i = .int .i64 k ∧ wr.rowIs w.heap.size 5 n (fun j => if j < k then .int .u8 (z j) else .int .u8 0) ∧ Below w.heap.size w wr) (fun i _ => n - (intOf i).toNat)
    case atStart => exact ⟨0, Nat.zero_le _, rfl, (World.rowIs_made w _ n 5).congr (fun i _ => by simp), (Below.refl _ _).alloc (Nat.le_refl _) _⟩
    case round =>
      obtain ⟨k, hk, rfl, hrow, hbel⟩ := hrel
      have HR : Hid (wr.rowIs w.heap.size 5 n (fun j => if j < k then .int .u8 (z j) else .int .u8 0)) := hrow
      have HB : Hid (Below w.heap.size w wr) := hbel
      clear hrow hbel hmk
      by_cases hlt : k < n
      · obtain ⟨b1, o1, hA, hc1⟩ := (ha.below HB.out) (by omega)
        cases hA
        have d1 := hc1 k hlt
        have d2 := HR.out.cell hlt
        have d3 := HR.out.frozen k
        simp only [Nat.lt_irrefl, if_false] at d2
        clear hc1
        go_wp2
        go_roundw
        case rel =>
          refine ⟨k + 1, by omega, by go_num, (HR.out.set k _).congr (fun i _ => ?_), HB.out.setCell (Nat.le_refl _) _⟩
          by_cases h1 : i = k
          · subst h1; simp
          · by_cases h2 : i < k
            · simp [h1, h2, Nat.lt_succ_of_lt h2]
            · have h3 : ¬ i < k + 1 := by omega
              simp [h1, h2, h3]
        case measure => simp [intOf]; omega
      · go_wp2
        go_ret
        refine ⟨_, _, rfl, fun _ => ⟨w.heap.size, 0, rfl, fun i hi => ?_⟩, HB.out, by simp⟩
        have := HR.out.cell hi
        rw [if_pos (by omega)] at this
        simpa using this

def hasI (z : Nat → Int) (n : Nat) (x : Int) : Bool := (List.range n).any (fun i => x == z i)
theorem hasI_no {z : Nat → Int} {n : Nat} {x : Int} (h : ∀ j, j < n → (x == z j) = false) : hasI z n x = false := by
  unfold hasI
  rw [List.any_eq_false]
  intro i hi
  rw [h i (List.mem_range.1 hi)]
  simp
theorem hasI_yes {z : Nat → Int} {n : Nat} {x : Int} (k : Nat) (hk : k < n) (h : (x == z k) = true) : hasI z n x = true := by
  unfold hasI
  rw [List.any_eq_true]
  exact ⟨k, List.mem_range.2 hk, h⟩

set_option maxHeartbeats 400000 in
theorem index_any (a : Option Addr) (n c : Nat) (z : Nat → Int) (x : Int) (w : World) (ha : Sl w a n (fun i => .int .i64 (z i))) (hn : n ≤ 1099511627776) :
    Calls Try.prog 64 #[.slice a n c, .int .i64 x] w fun e w' => ∃ r : Int, e = .returned (.int .i64 r) ∧ decide (0 ≤ r) = hasI z n x ∧ w' = w := by
  go_enter Try.func64, Try.ntmps64
  go_wp2
  go_loop [8] (fun i => ∃ k : Nat, k ≤ n ∧ i = .int .i64 k ∧ ∀ j, j < k → (x == z j) = false) (fun i => n - (intOf i).toNat)
  case atStart => exact ⟨0, Nat.zero_le _, rfl, fun j h => absurd h (Nat.not_lt_zero _)⟩
  case round =>
    obtain ⟨k, hk, rfl, hj⟩ := hrel
    have HJ : Hid (∀ j, j < k → (x == z j) = false) := hj
    clear hj
    by_cases hlt : k < n
    · obtain ⟨b1, o1, rfl, hc1⟩ := ha (by omega)
      have d1 := hc1 k hlt
      clear hc1
      cases he : (x == z k) with
      | true =>
        go_wp2
        go_ret
        exact ⟨k, rfl, by rw [hasI_yes k hlt he]; simp, rfl⟩
      | false =>
        go_wp2
        go_round
        case rel => exact ⟨k + 1, by omega, by go_num, fun j h => by rcases Nat.lt_succ_iff_lt_or_eq.1 h with h | rfl; exact HJ.out j h; exact he⟩
        case measure => simp [intOf]; omega
    · go_wp2
      go_ret
      exact ⟨-1, rfl, by rw [hasI_no (fun j h => HJ.out j (by omega))]; rfl, rfl⟩

theorem contains_any (a : Option Addr) (n c : Nat) (z : Nat → Int) (x : Int) (w : World) (ha : Sl w a n (fun i => .int .i64 (z i))) (hn : n ≤ 1099511627776) :
    Calls Try.prog 52 #[.slice a n c, .int .i64 x] w fun e w' => e = .returned (.bool (hasI z n x)) ∧ w' = w := by
  go_enter Try.func52, Try.ntmps52
  go_wp2_with fail
  refine (index_any _ _ _ z _ _ ha hn).mono ?_
  rintro e w' ⟨r, rfl, hr, rfl⟩
  have HR : Hid (decide (0 ≤ r) = hasI z n x) := hr
  clear hr
  go_wp2
  go_ret
  exact ⟨by rw [← HR.out]; rfl, rfl⟩

def namedB (z : Nat → Int) (n : Nat) (s : Int) : Bool := decide (0 ≤ s) && decide (s < n) && decide (0 ≤ z s.toNat)

theorem named_any (a : Option Addr) (n c : Nat) (z : Nat → Int) (s : Int) (w : World) (ha : Sl w a n (fun i => .int .i64 (z i))) (hn : n ≤ 1099511627776) :
    Calls Try.prog 16 #[.slice a n c, .int .i64 s] w fun e w' => e = .returned (.bool (namedB z n s)) ∧ w' = w := by
  by_cases h1 : 0 ≤ s
  · obtain ⟨k, rfl⟩ := Int.eq_ofNat_of_zero_le h1
    by_cases h2 : k < n
    · obtain ⟨b1, o1, rfl, hc1⟩ := ha (by omega)
      have d1 := hc1 k h2
      clear hc1
      by_cases h3 : 0 ≤ z k
      · have HE : Hid (namedB z n k = true) := by show namedB z n k = true; simp [namedB, h2, h3]
        go_enter Try.func16, Try.ntmps16
        go_wp2
        go_ret
        exact ⟨by rw [HE.out]; rfl, rfl⟩
      · have HE : Hid (namedB z n k = false) := by show namedB z n k = false; simp [namedB, h2]; omega
        have h3' : decide (0 ≤ z k) = false := by simpa using h3
        go_enter Try.func16, Try.ntmps16
        go_wp2
        go_ret
        exact ⟨by rw [HE.out]; rfl, rfl⟩
    · have HE : Hid (namedB z n k = false) := by show namedB z n k = false; simp [namedB, h2]
      have h2' : decide ((k : Int) < (n : Int)) = false := by simp; omega
      go_enter Try.func16, Try.ntmps16
      go_wp2
      go_ret
      exact ⟨by rw [HE.out]; rfl, rfl⟩
  · have HE : Hid (namedB z n s = false) := by show namedB z n s = false; simp [namedB, h1]
    have h1' : decide (0 ≤ s) = false := by simpa using h1
    go_enter Try.func16, Try.ntmps16
    go_wp2
    go_ret
    exact ⟨by rw [HE.out]; rfl, rfl⟩
end Go.Proofs.Qxb6616563a
