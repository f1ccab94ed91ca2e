import Derived.Test.Qxb6616563aModel7
import Derived.Test.Qxb6616563aSt
namespace Go.Proofs.Qxb6616563a
open Go.RowKit

theorem mem_take {c : Ctx} {w : World} {a : Option Addr} {n p : Nat} {ds : List Dsc} (h : Mem c w a n ds) (hp : p ≤ n) : Mem c w a p (ds.take p) := by
  refine ⟨by rw [List.length_take, h.1]; omega, fun h0 => ?_⟩
  obtain ⟨g, o, e, hx⟩ := h.2 (by omega)
  refine ⟨g, o, e, fun i hi => ?_⟩
  have := hx i (by omega)
  rw [List.getD_eq_getElem?_getD, List.getElem?_take_of_lt hi, ← List.getD_eq_getElem?_getD]
  exact this
theorem mem_drop {c : Ctx} {w : World} {g n p m : Nat} {ds : List Dsc} (h : Mem c w (some ⟨g, 0, none⟩) n ds) (hp : p ≤ n) (hm : n ≤ m) :
    Mem c w (if m = p then some ⟨g, 0, none⟩ else some ⟨g, p * 5, none⟩) (n - p) (ds.drop p) := by
  refine ⟨by rw [List.length_drop, h.1], fun h0 => ?_⟩
  obtain ⟨g', o, e, hx⟩ := h.2 (by omega)
  cases e
  refine ⟨g, p * 5, by rw [if_neg (by omega)], fun i hi => ?_⟩
  have := hx (p + i) (by omega)
  have e1 : 0 + (p + i) * 5 = p * 5 + i * 5 := by omega
  rw [e1] at this
  rw [List.getD_eq_getElem?_getD, List.getElem?_drop, ← List.getD_eq_getElem?_getD]
  exact this

theorem xdesc_txt {h : HArgs} {W : World} {va : Option Addr} {vn vc : Nat} {val : List UInt8} {isN : Bool} (hi : HIn h W) (hf : HFit h)
    (d : XDesc h.nf h.nv h.z h.A h.L h.C h.V h.xk h.ax h.nx h.cx h.X h.xn h.xs va vn vc val isN) : val = xval h ∧ Txt W va vn vc (xval h) := by
  obtain ⟨h1, h2, h3⟩ := xdesc_val hi hf d
  refine ⟨h1, h2, h3, ?_, ?_⟩
  · rcases d.res with ⟨_, rfl, rfl, rfl, rfl, _⟩ | ⟨m, hm, hmn, hz0, rfl, rfl, rfl, rfl, _⟩ | ⟨m, f, hm, hmn, hfz, hfn, rfl, rfl, rfl, rfl, _⟩
    · exact hi.bx.1
    · exact hi.bx.1
    · exact (hi.V f hfn).2.1
  · rcases d.res with ⟨_, rfl, rfl, rfl, rfl, _⟩ | ⟨m, hm, hmn, hz0, rfl, rfl, rfl, rfl, _⟩ | ⟨m, f, hm, hmn, hfz, hfn, rfl, rfl, rfl, rfl, _⟩
    · exact hi.bx.2
    · exact hi.bx.2
    · exact (hi.V f hfn).2.2
end Go.Proofs.Qxb6616563a
