/-
  From a row's reading of the links to what the walks ask.
-/
import Derived.Test.Qxb6616786aFmtMent
import Derived.ProofKit
import Derived.Deep.SlicePairs
namespace Go.Proofs.Qxb6616786aFmt
open Go.ChangeShapes Go.WideShapes Go.ChangeAt Go.RowKit Go.Deep

def valStr : Value → ByteArray
  | .string s => s
  | _ => ⟨#[]⟩

theorem open_Links {H : Type} {enc : TypeId × Value → H} {W : World} {held : Bool} {a : Option Addr} {n c fuel : Nat} {x : DataW H × List MemPlace} (h : DataW.trod enc Tryf.prog W 0 (fun _ => true) held fuel 22 [.slice a n c] = some x) :
    ∃ L : LkF, Ins W a n L ∧ n ≤ maxLen ∧ ∀ i, (L i).1.size ≤ maxLen ∧ (L i).2.size ≤ maxLen := by
  rcases open_slice_pairs Tryf.underlying22 Tryf.underlying36 (by kernel_rfl) rfl rfl (by kernel_rfl) (by kernel_rfl) h with ⟨hcs, _⟩ | ⟨x, l, cc, m, k, V0, V1, D0, D1, P0, P1, hcs, _, hl, hm, hmm, _, hx⟩
  · simp at hcs
    obtain ⟨rfl, rfl, rfl⟩ := hcs
    exact ⟨fun _ => (⟨#[]⟩, ⟨#[]⟩), fun h => absurd h (Nat.lt_irrefl 0), Nat.zero_le _, fun _ => ⟨Nat.zero_le _, Nat.zero_le _⟩⟩
  · simp at hcs
    obtain ⟨rfl, rfl, rfl⟩ := hcs
    have hmc : m = c := by simpa using hmm
    subst hmc
    have hv : ∀ i, i < m → (V0 i = .string (valStr (V0 i)) ∧ (valStr (V0 i)).size ≤ maxLen) ∧ (V1 i = .string (valStr (V1 i)) ∧ (valStr (V1 i)).size ≤ maxLen) := by
      intro i hi
      obtain ⟨_, _, h1, h2⟩ := hx i hi
      obtain ⟨s1, e1, _, z1⟩ := DataW.trod_string Tryf.underlying9 h1
      obtain ⟨s2, e2, _, z2⟩ := DataW.trod_string Tryf.underlying9 h2
      simp only [List.cons.injEq, and_true] at e1 e2
      rw [e1, e2]
      exact ⟨⟨rfl, z1⟩, rfl, z2⟩
    refine ⟨fun i => if i < m then (valStr (V0 i), valStr (V1 i)) else (⟨#[]⟩, ⟨#[]⟩), ?_, Nat.le_trans hl hm, ?_⟩
    · intro hn
      obtain ⟨b, off, spot⟩ := x
      have hspot : spot = none := by
        have h0 := (hx 0 (by omega)).1
        simpa [Addr.add] using World.cell?_spot h0
      subst hspot
      refine ⟨b, off, rfl, fun i hi => ?_⟩
      have him : i < m := by omega
      obtain ⟨h1, h2, _⟩ := hx i him
      simp only [him, if_true]
      rw [add_plain] at h1 h2
      refine ⟨?_, ?_⟩
      · rw [h1]; exact congrArg some (hv i him).1.1
      · rw [Nat.add_assoc, h2]; exact congrArg some (hv i him).2.1
    · intro i
      by_cases hi : i < m
      · simp only [hi, if_true]; exact ⟨(hv i hi).1.2, (hv i hi).2.2⟩
      · simp only [hi, if_false]; exact ⟨Nat.zero_le _, Nat.zero_le _⟩
end Go.Proofs.Qxb6616786aFmt
