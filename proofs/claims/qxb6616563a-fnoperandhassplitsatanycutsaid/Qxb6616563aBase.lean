/-
  What the walks of this seat share: how a slice lies in memory, told by its elements; plain facts.
-/
import Derived.Test.Qxb6616563aProg
import Derived.WalkKit
import Derived.WalkSpells
import Derived.WalkLawsBesides
import Derived.Below
import Derived.Deep.QuietTactic
import Derived.BigQuiet
import Derived.Lib.AppendStr
namespace Go.Proofs.Qxb6616563a
open Go.RowKit

theorem bcell {W w1 : World} (hb : Below W.heap.size W w1) : (∀ b o, b < W.heap.size → w1.cell? ⟨b, o, none⟩ = W.cell? ⟨b, o, none⟩) ∧ (∀ b o, b < W.heap.size → w1.frozen? ⟨b, o, none⟩ = W.frozen? ⟨b, o, none⟩) :=
  ⟨fun b o h => hb.cell (p := ⟨b, o, none⟩) h, fun b o h => hb.frozen (p := ⟨b, o, none⟩) h⟩

/-- A slice of n elements of one cell each: cell i holds f i. -/
def Sl (w : World) (a : Option Addr) (n : Nat) (f : Nat → Value) : Prop :=
  0 < n → ∃ b off, a = some ⟨b, off, none⟩ ∧ ∀ i, i < n → w.cell? ⟨b, off + i, none⟩ = some (f i)

theorem cell_lt {w : World} {b o : Nat} {v : Value} (h : w.cell? ⟨b, o, none⟩ = some v) : b < w.heap.size := by
  rcases Nat.lt_or_ge b w.heap.size with hb | hb
  · exact hb
  · simp [World.cell?, Array.getElem?_eq_none hb] at h

theorem Sl.below {w w' : World} {a : Option Addr} {n : Nat} {f : Nat → Value} (h : Sl w a n f) (hb : Below w.heap.size w w') : Sl w' a n f := by
  intro hn
  obtain ⟨b, off, rfl, hc⟩ := h hn
  refine ⟨b, off, rfl, fun i hi => ?_⟩
  rw [hb.cell (p := ⟨b, off + i, none⟩) (cell_lt (hc i hi))]
  exact hc i hi

theorem Sl.congr {w : World} {a : Option Addr} {n : Nat} {f g : Nat → Value} (h : Sl w a n f) (hfg : ∀ i, i < n → f i = g i) : Sl w a n g := by
  intro hn
  obtain ⟨b, off, rfl, hc⟩ := h hn
  exact ⟨b, off, rfl, fun i hi => by rw [hc i hi, hfg i hi]⟩

/-- byte i of a list, as a number -/
def byteAt (l : List UInt8) (i : Nat) : Int := ((l.getD i 0).toNat : Int)
theorem byteAt_bd (l : List UInt8) (i : Nat) : 0 ≤ byteAt l i ∧ byteAt l i ≤ 255 := by
  unfold byteAt
  have := (l.getD i 0).toNat_lt
  omega
theorem byteAt_inj {l m : List UInt8} {i j : Nat} (h : byteAt l i = byteAt m j) : l.getD i 0 = m.getD j 0 := by
  unfold byteAt at h
  exact UInt8.toNat_inj.1 (by omega)

/-- A []byte that reads as l. -/
def Bytes (w : World) (a : Option Addr) (n : Nat) (l : List UInt8) : Prop :=
  l.length = n ∧ Sl w a n (fun i => .int .u8 (byteAt l i))
theorem Bytes.below {w w' : World} {a : Option Addr} {n : Nat} {l : List UInt8} (h : Bytes w a n l) (hb : Below w.heap.size w w') : Bytes w' a n l := ⟨h.1, h.2.below hb⟩

theorem Sl.drewN {w : World} {a : Option Addr} {n : Nat} {f : Nat → Value} (h : Sl w a n f) (k : Nat) : Sl (w.drewN k) a n f := by
  intro hn
  obtain ⟨b, off, rfl, hc⟩ := h hn
  exact ⟨b, off, rfl, fun i hi => by simpa using hc i hi⟩

theorem drew_end {w : World} {q n : Nat} : ∃ k, (w.drewN q).drewN n = w.drewN k := ⟨_, World.drewN_drewN w q n⟩

theorem drew_more {w wr : World} {n : Nat} (h : ∃ q, wr = w.drewN q) : ∃ k, wr.drewN n = w.drewN k := by
  obtain ⟨q, rfl⟩ := h
  exact drew_end
theorem Sl.drawn {w wr : World} {a : Option Addr} {n : Nat} {f : Nat → Value} (h : Sl w a n f) (hq : ∃ q, wr = w.drewN q) : Sl wr a n f := by
  obtain ⟨q, rfl⟩ := hq
  exact h.drewN q

/-- same bytes -/
def eqB (la lb : List UInt8) : Bool := la == lb
theorem eqB_of {la lb : List UInt8} {n : Nat} (ha : la.length = n) (hb : lb.length = n) (h : ∀ j, j < n → byteAt la j = byteAt lb j) : eqB la lb = true := by
  unfold eqB
  rw [beq_iff_eq]
  refine List.ext_getElem (by omega) fun i h1 h2 => ?_
  have := byteAt_inj (h i (by omega))
  simpa [List.getD_eq_getElem?_getD, h1, h2] using this
theorem eqB_len {la lb : List UInt8} {n m : Nat} (ha : la.length = n) (hb : lb.length = m) (h : ¬ n = m) : eqB la lb = false := by
  unfold eqB
  rw [beq_eq_false_iff_ne]
  intro he
  rw [he] at ha
  omega
theorem eqB_at {la lb : List UInt8} {j : Nat} (h : ¬ byteAt la j = byteAt lb j) : eqB la lb = false := by
  unfold eqB
  rw [beq_eq_false_iff_ne]
  intro he
  rw [he] at h
  exact h rfl
end Go.Proofs.Qxb6616563a
