import Derived.Test.Qxb6616563aOpen
import Derived.Deep.Grids
namespace Go.Proofs.Qxb6616563a
open Go.ChangeShapes Go.WideShapes Go.ChangeAt Go.RowKit Go.Deep
section
variable {H : Type} {enc : TypeId × Value → H} {W : World} {held : Bool}

theorem open_U8s {a : Option Addr} {n c fuel : Nat} {x : DataW H × List MemPlace} (h : DataW.trod enc Try.prog W 0 (fun _ => true) held fuel 32 [.slice a n c] = some x) :
    ∃ z : Nat → Int, Sl W a n (fun i => .int .u8 (z i)) ∧ n ≤ maxLen ∧ ∀ i, i < n → 0 ≤ z i := by
  rcases open_ints Try.underlying32 Try.underlying5 (by kernel_rfl) h with ⟨hcs, _⟩ | ⟨x, l, cc, zs, hcs, _, hl, hm, hz, _, hcell, hwz⟩
  · simp at hcs
    obtain ⟨rfl, rfl, rfl⟩ := hcs
    exact ⟨fun _ => 0, fun h => absurd h (Nat.lt_irrefl 0), Nat.zero_le _, fun _ _ => Int.le_refl 0⟩
  · simp at hcs
    obtain ⟨rfl, rfl, rfl⟩ := hcs
    have hz' : zs.length = c := by simpa using hz
    refine ⟨fun i => zs.getD i 0, Sl.of_add fun i hi => hcell i (by omega), Nat.le_trans hl hm, fun i hi => ?_⟩
    have h1 : i < zs.length := by omega
    have h2 := byte_of_wf (hwz zs[i] (List.getElem_mem h1))
    have e2 : zs.getD i 0 = zs[i] := by simp [List.getD_eq_getElem?_getD, h1]
    show 0 ≤ zs.getD i 0
    rw [e2, ← h2]
    omega

theorem open_Bools {a : Option Addr} {n c fuel : Nat} {x : DataW H × List MemPlace} (h : DataW.trod enc Try.prog W 0 (fun _ => true) held fuel 45 [.slice a n c] = some x) :
    ∃ B : Nat → Bool, Sl W a n (fun i => .bool (B i)) ∧ n ≤ maxLen := by
  rcases open_bools Try.underlying45 Try.underlying4 (by kernel_rfl) h with ⟨hcs, _⟩ | ⟨x, l, cc, B, hcs, _, hl, hm, _, hcell⟩
  · simp at hcs
    obtain ⟨rfl, rfl, rfl⟩ := hcs
    exact ⟨fun _ => false, fun h => absurd h (Nat.lt_irrefl 0), Nat.zero_le _⟩
  · simp at hcs
    obtain ⟨rfl, rfl, rfl⟩ := hcs
    exact ⟨B, Sl.of_add fun i hi => hcell i (by omega), Nat.le_trans hl hm⟩

theorem open_Rows2 {a : Option Addr} {n c fuel : Nat} {x : DataW H × List MemPlace} (h : DataW.trod enc Try.prog W 0 (fun _ => true) held fuel 24 [.slice a n c] = some x) :
    ∃ (A : Nat → Option Addr) (L C : Nat → Nat) (V : Nat → List UInt8), Sl W a n (fun i => .slice (A i) (L i) (C i)) ∧ n ≤ maxLen ∧ ∀ i, i < n → Bytes W (A i) (L i) (V i) ∧ L i ≤ C i ∧ C i ≤ maxLen := by
  rcases open_int_rows Try.underlying24 Try.underlying32 Try.underlying5 (by kernel_rfl) (by kernel_rfl) h with ⟨hcs, _⟩ | ⟨x, l, cc, A, L, C, Z, hcs, _, hl, hm, _, hr⟩
  · simp at hcs
    obtain ⟨rfl, rfl, rfl⟩ := hcs
    exact ⟨fun _ => none, fun _ => 0, fun _ => 0, fun _ => [], fun h => absurd h (Nat.lt_irrefl 0), Nat.zero_le _, fun i hi => absurd hi (Nat.not_lt_zero _)⟩
  · simp at hcs
    obtain ⟨rfl, rfl, rfl⟩ := hcs
    refine ⟨A, L, C, fun i => toBytes ((Z i).take (L i)), Sl.of_add fun i hi => (hr i (by omega)).1, Nat.le_trans hl hm, fun i hi => ?_⟩
    obtain ⟨_, h1, h2, h3, h4, h5, h6⟩ := hr i (by omega)
    exact ⟨Bytes.of_ints h1 h3 h4 h5 (fun a' ha => (h6 a' ha).2), h1, h2⟩

theorem open_Bytes2 {a : Option Addr} {n c fuel : Nat} {x : DataW H × List MemPlace} (h : DataW.trod enc Try.prog W 0 (fun _ => true) held fuel 32 [.slice a n c] = some x) :
    ∃ l : List UInt8, Bytes W a n l ∧ n ≤ c ∧ c ≤ maxLen := by
  rcases open_ints Try.underlying32 Try.underlying5 (by kernel_rfl) h with ⟨hcs, _⟩ | ⟨x, l, cc, zs, hcs, _, hl, hm, hz, _, hcell, hwz⟩
  · simp at hcs
    obtain ⟨rfl, rfl, rfl⟩ := hcs
    exact ⟨[], ⟨rfl, fun h => absurd h (Nat.lt_irrefl 0)⟩, Nat.le_refl _, Nat.zero_le _⟩
  · simp at hcs
    obtain ⟨rfl, rfl, rfl⟩ := hcs
    have hz' : zs.length = c := by simpa using hz
    exact ⟨_, Bytes.of_ints hl hz' hwz (fun h => by cases h) (fun a' ha i hi => by cases ha; exact hcell i (by omega)), hl, hm⟩
end
end Go.Proofs.Qxb6616563a
