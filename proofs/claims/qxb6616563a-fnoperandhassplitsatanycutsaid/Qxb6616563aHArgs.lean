import Derived.Test.Qxb6616563aDec
import Derived.Test.Qxb6616563aFits3
import Derived.Test.Qxb6616563aFits4
import Derived.Test.Qxb6616563aExplain
namespace Go.Proofs.Qxb6616563a
open Go.RowKit

/-- the arguments of the has laws, as they lie in memory -/
structure HArgs where
  ak : Option Addr
  nk : Nat
  ck : Nat
  K : Nat → Int
  ta : Option Addr
  nt : Nat
  ct : Nat
  T : Nat → Option Addr
  S : Nat → Nat
  R : Nat → Nat
  M : Nat → List UInt8
  an : Option Addr
  nn : Nat
  cn : Nat
  N : Nat → Bool
  af : Option Addr
  nf : Nat
  cf : Nat
  z : Nat → Int
  av : Option Addr
  nv : Nat
  cv : Nat
  A : Nat → Option Addr
  L : Nat → Nat
  C : Nat → Nat
  V : Nat → List UInt8
  xk : Int
  ax : Option Addr
  nx : Nat
  cx : Nat
  X : List UInt8
  xn : Bool
  xs : Int

structure HIn (h : HArgs) (w : World) : Prop where
  k : Sl w h.ak h.nk (fun i => .int .u8 (h.K i))
  k0 : ∀ i, i < h.nk → 0 ≤ h.K i
  t : Sl w h.ta h.nt (fun i => .slice (h.T i) (h.S i) (h.R i))
  m : ∀ i, i < h.nt → Bytes w (h.T i) (h.S i) (h.M i)
  n : Sl w h.an h.nn (fun i => .bool (h.N i))
  f : Sl w h.af h.nf (fun i => .int .i64 (h.z i))
  v : Sl w h.av h.nv (fun i => .slice (h.A i) (h.L i) (h.C i))
  V : ∀ i, i < h.nv → Bytes w (h.A i) (h.L i) (h.V i) ∧ h.L i ≤ h.C i ∧ h.C i ≤ 9223372036854775807
  x : Bytes w h.ax h.nx h.X
  xk0 : 0 ≤ h.xk
  bk : h.nk ≤ 9223372036854775807
  bt : h.nt ≤ 9223372036854775807
  bn : h.nn ≤ 9223372036854775807
  bf : h.nf ≤ 9223372036854775807
  bv : h.nv ≤ 9223372036854775807
  bx : h.nx ≤ h.cx ∧ h.cx ≤ 9223372036854775807
  bS : ∀ i, i < h.nt → h.S i ≤ 9223372036854775807
  bL : ∀ i, i < h.nv → h.L i ≤ 9223372036854775807

abbrev HFit (h : HArgs) : Prop := HFits h.nk h.nt h.nn h.nf h.nv h.nx h.K h.z h.S h.L h.xk h.xs

theorem HIn.below {h : HArgs} {w w' : World} (i : HIn h w) (hb : Below w.heap.size w w') : HIn h w' :=
  ⟨i.k.below hb, i.k0, i.t.below hb, fun j hj => (i.m j hj).below hb, i.n.below hb, i.f.below hb, i.v.below hb, fun j hj => ⟨(i.V j hj).1.below hb, (i.V j hj).2⟩, i.x.below hb, i.xk0, i.bk, i.bt, i.bn, i.bf, i.bv, i.bx, i.bS, i.bL⟩

/-- member i's meaning -/
def memD (h : HArgs) (i : Nat) : Dsc := ⟨h.K i, h.M i, if h.K i = 0 ∧ h.N i = true then numOf (h.M i) else none⟩
def memDs (h : HArgs) (k : Nat) : List Dsc := (List.range k).map (memD h)
theorem memDs_succ (h : HArgs) (k : Nat) : memDs h (k + 1) = memDs h k ++ [memD h k] := by simp [memDs, List.range_succ]
theorem memDs_len (h : HArgs) (k : Nat) : (memDs h k).length = k := by simp [memDs]

/-- a member that has just been made -/
theorem mem_new {h : HArgs} {w : World} {k : Nat} {a : Option Addr} {np : Option Addr} (hf : HFit h) (hi : HIn h w) (hk : k < h.nk) {W : World} (hb : Bytes W a (h.S k) (h.M k)) (h36 : N36 W a (h.S k))
    (hn : (np = none ∧ (memD h k).num = none) ∨ ∃ q x, np = some ⟨q, 0, none⟩ ∧ (memD h k).num = some x ∧ NumAt W q x a (h.S k)) :
    Stays (MemF ⟨h.K k, a, h.S k, h.S k, np, -1⟩ (memD h k)) W := by
  have hS := hf.texts k (by rw [hf.t]; exact hk)
  intro w' kp
  refine ⟨rfl, hi.k0 k hk, (hf.kinds k hk).2, (hf.kinds k hk).1, rfl, (hb.stays h36) w' kp, ⟨Nat.le_refl _, by show h.S k ≤ _; omega, hS⟩, ?_⟩
  rcases hn with hn | ⟨q, x, h1, h2, h3⟩
  · exact .inl hn
  · exact .inr ⟨q, x, h1, h2, (h3.stays h36) w' kp⟩
end Go.Proofs.Qxb6616563a
