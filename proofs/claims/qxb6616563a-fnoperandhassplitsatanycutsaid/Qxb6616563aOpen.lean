/-
  From a row's reading of an argument to what the walks ask.
-/
import Derived.Test.Qxb6616563aBase
import Derived.ProofKit
import Derived.Deep.Matrix
import Derived.SliceStrings
import Derived.OpenShut
namespace Go.Proofs.Qxb6616563a
open Go.ChangeShapes Go.WideShapes Go.ChangeAt Go.RowKit Go.Deep

theorem Sl.of_add {w : World} {a : Addr} {n : Nat} {f : Nat → Value} (h : ∀ i, i < n → w.cell? (a.add i) = some (f i)) : Sl w (some a) n f := by
  intro hn
  obtain ⟨b, off, spot⟩ := a
  have hspot : spot = none := by simpa [Addr.add] using World.cell?_spot (h 0 hn)
  subst hspot
  exact ⟨b, off, rfl, fun i hi => by rw [← h i hi, add_plain]⟩

theorem byte_of_wf {z : Int} (h : (Lit.int .u8 z).wf = true) : ((z.toNat.toUInt8).toNat : Int) = z := by
  simp [Lit.wf, IntKind.min, IntKind.max, IntKind.signed, IntKind.bits] at h
  have h2 : z.toNat < 256 := by omega
  have : z.toNat.toUInt8.toNat = z.toNat := by
    show z.toNat % 256 = z.toNat
    omega
  rw [this]
  omega

def toBytes (zs : List Int) : List UInt8 := zs.map (fun z => z.toNat.toUInt8)
theorem byteAt_toBytes {zs : List Int} {i n : Nat} (hw : ∀ z ∈ zs, (Lit.int .u8 z).wf = true) (hi : i < n) (hn : n ≤ zs.length) : byteAt (toBytes (zs.take n)) i = zs.getD i 0 := by
  unfold byteAt toBytes
  have h1 : i < zs.length := by omega
  have h2 := byte_of_wf (hw zs[i] (List.getElem_mem h1))
  have e1 : ((zs.take n).map (fun z => z.toNat.toUInt8)).getD i 0 = zs[i].toNat.toUInt8 := by simp [List.getD_eq_getElem?_getD, hi, h1]
  have e2 : zs.getD i 0 = zs[i] := by simp [List.getD_eq_getElem?_getD, h1]
  rw [e1, e2, h2]

theorem Bytes.of_ints {w : World} {a : Option Addr} {n c : Nat} {zs : List Int} (hl : n ≤ c) (hz : zs.length = c) (hw : ∀ z ∈ zs, (Lit.int .u8 z).wf = true) (hn : a = none → c = 0) (hc : ∀ a', a = some a' → ∀ i, i < c → w.cell? (a'.add i) = some (.int .u8 (zs.getD i 0))) :
    Bytes w a n (toBytes (zs.take n)) := by
  refine ⟨by simp [toBytes]; omega, ?_⟩
  cases a with
  | none => intro h; have := hn rfl; omega
  | some a' =>
    refine Sl.of_add fun i hi => ?_
    rw [hc a' rfl i (by omega), byteAt_toBytes hw hi (by omega)]

section
variable {H : Type} {enc : TypeId × Value → H} {W : World} {held : Bool}

theorem open_Ints {a : Option Addr} {n c fuel : Nat} {x : DataW H × List MemPlace} (h : DataW.trod enc Try.prog W 0 (fun _ => true) held fuel 22 [.slice a n c] = some x) :
    ∃ z : Nat → Int, Sl W a n (fun i => .int .i64 (z i)) ∧ n ≤ maxLen := by
  rcases open_ints Try.underlying22 Try.underlying3 (by kernel_rfl) h with ⟨hcs, _⟩ | ⟨x, l, cc, zs, hcs, _, hl, hm, hz, _, hcell, hwz⟩
  · simp at hcs
    obtain ⟨rfl, rfl, rfl⟩ := hcs
    exact ⟨fun _ => 0, fun h => absurd h (Nat.lt_irrefl 0), Nat.zero_le _⟩
  · simp at hcs
    obtain ⟨rfl, rfl, rfl⟩ := hcs
    have hz' : zs.length = c := by simpa using hz
    exact ⟨fun i => zs.getD i 0, Sl.of_add fun i hi => hcell i (by omega), Nat.le_trans hl hm⟩

theorem open_Strs {a : Option Addr} {n c fuel : Nat} {x : DataW H × List MemPlace} (h : DataW.trod enc Try.prog W 0 (fun _ => true) held fuel 23 [.slice a n c] = some x) :
    ∃ s : Nat → ByteArray, Sl W a n (fun i => .string (s i)) ∧ n ≤ maxLen ∧ ∀ i, i < n → (s i).size ≤ maxLen := by
  rcases open_strings Try.underlying23 Try.underlying9 (by kernel_rfl) h with ⟨hcs, _⟩ | ⟨x, l, cc, ss, hcs, _, hl, hm, hz, _, hcell, hws⟩
  · simp at hcs
    obtain ⟨rfl, rfl, rfl⟩ := hcs
    exact ⟨fun _ => ByteArray.empty, fun h => absurd h (Nat.lt_irrefl 0), Nat.zero_le _, fun i hi => absurd hi (Nat.not_lt_zero _)⟩
  · simp at hcs
    obtain ⟨rfl, rfl, rfl⟩ := hcs
    have hz' : ss.length = c := by simpa using hz
    refine ⟨fun i => ss.getD i ByteArray.empty, Sl.of_add fun i hi => hcell i (by omega), Nat.le_trans hl hm, fun i hi => hws _ ?_⟩
    have h1 : i < ss.length := by omega
    simp [List.getD_eq_getElem?_getD, h1]

theorem open_Rows {a : Option Addr} {n c fuel : Nat} {x : DataW H × List MemPlace} (h : DataW.trod enc Try.prog W 0 (fun _ => true) held fuel 24 [.slice a n c] = some x) :
    ∃ (A : Nat → Option Addr) (L C : Nat → Nat) (V : Nat → List UInt8), Sl W a n (fun i => .slice (A i) (L i) (C i)) ∧ n ≤ maxLen ∧ (∀ i, i < n → Bytes W (A i) (L i) (V i)) ∧ ∀ i, i < n → L i ≤ maxLen := by
  rcases open_int_rows Try.underlying24 Try.underlying32 Try.underlying5 (by kernel_rfl) (by kernel_rfl) h with ⟨hcs, _⟩ | ⟨x, l, cc, A, L, C, Z, hcs, _, hl, hm, _, hr⟩
  · simp at hcs
    obtain ⟨rfl, rfl, rfl⟩ := hcs
    exact ⟨fun _ => none, fun _ => 0, fun _ => 0, fun _ => [], fun h => absurd h (Nat.lt_irrefl 0), Nat.zero_le _, fun i hi => absurd hi (Nat.not_lt_zero _), fun i hi => absurd hi (Nat.not_lt_zero _)⟩
  · simp at hcs
    obtain ⟨rfl, rfl, rfl⟩ := hcs
    refine ⟨A, L, C, fun i => toBytes ((Z i).take (L i)), Sl.of_add fun i hi => (hr i (by omega)).1, Nat.le_trans hl hm, fun i hi => ?_, fun i hi => ?_⟩
    · obtain ⟨_, h1, h2, h3, h4, h5, h6⟩ := hr i (by omega)
      exact Bytes.of_ints h1 h3 h4 h5 (fun a' ha => (h6 a' ha).2)
    · obtain ⟨_, h1, h2, _⟩ := hr i (by omega)
      exact Nat.le_trans h1 h2

theorem open_Bytes {a : Option Addr} {n c fuel : Nat} {x : DataW H × List MemPlace} (h : DataW.trod enc Try.prog W 0 (fun _ => true) held fuel 32 [.slice a n c] = some x) :
    ∃ l : List UInt8, Bytes W a n l ∧ n ≤ maxLen := by
  rcases open_ints Try.underlying32 Try.underlying5 (by kernel_rfl) h with ⟨hcs, _⟩ | ⟨x, l, cc, zs, hcs, _, hl, hm, hz, _, hcell, hwz⟩
  · simp at hcs
    obtain ⟨rfl, rfl, rfl⟩ := hcs
    exact ⟨[], ⟨rfl, fun h => absurd h (Nat.lt_irrefl 0)⟩, Nat.zero_le _⟩
  · simp at hcs
    obtain ⟨rfl, rfl, rfl⟩ := hcs
    have hz' : zs.length = c := by simpa using hz
    exact ⟨_, Bytes.of_ints hl hz' hwz (fun h => by cases h) (fun a' ha i hi => by cases ha; exact hcell i (by omega)), Nat.le_trans hl hm⟩
end
end Go.Proofs.Qxb6616563a
