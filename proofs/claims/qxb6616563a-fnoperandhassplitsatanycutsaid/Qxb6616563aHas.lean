import Derived.Test.Qxb6616563aEql
namespace Go.Proofs.Qxb6616563a
open Go.RowKit

def dsc0 : Dsc := ⟨0, [], none⟩

/-- a slice of operands -/
def Mem (c : Ctx) (w : World) (a : Option Addr) (n : Nat) (ds : List Dsc) : Prop :=
  ds.length = n ∧ (0 < n → ∃ g o, a = some ⟨g, o, none⟩ ∧ ∀ i, i < n → ∃ e va vn vc, OpIn c w g (o + i * 5) e (ds.getD i dsc0) va vn vc)

theorem Mem.below {c : Ctx} {w w' : World} {a : Option Addr} {n : Nat} {ds : List Dsc} (h : Mem c w a n ds) (hb : Below w.heap.size w w') : Mem c w' a n ds := by
  refine ⟨h.1, fun hn => ?_⟩
  obtain ⟨g, o, e, hg⟩ := h.2 hn
  refine ⟨g, o, e, fun i hi => ?_⟩
  obtain ⟨e, va, vn, vc, ho⟩ := hg i hi
  exact ⟨e, va, vn, vc, ho.below hb⟩

theorem any_no {ds : List Dsc} {dx : Dsc} {n : Nat} (hl : ds.length = n) (h : ∀ j, j < n → eqD (ds.getD j dsc0) dx = false) : ds.any (eqD · dx) = false := by
  rw [List.any_eq_false]
  intro d hd
  obtain ⟨i, hi, rfl⟩ := List.mem_iff_getElem.1 hd
  have := h i (by omega)
  simp only [List.getD_eq_getElem?_getD, List.getElem?_eq_getElem hi, Option.getD_some] at this
  rw [this]
  simp
theorem any_yes {ds : List Dsc} {dx : Dsc} {n : Nat} (hl : ds.length = n) (j : Nat) (hj : j < n) (h : eqD (ds.getD j dsc0) dx = true) : ds.any (eqD · dx) = true := by
  rw [List.any_eq_true]
  have hi : j < ds.length := by omega
  refine ⟨ds[j], List.getElem_mem hi, ?_⟩
  simpa only [List.getD_eq_getElem?_getD, List.getElem?_eq_getElem hi, Option.getD_some] using h

set_option maxHeartbeats 1000000 in
theorem has39 (c : Ctx) (w : World) (ob oo b2 o2 : Nat) (ma : Option Addr) (mn mc : Nat) (ds : List Dsc) (e2 : OpE) (d2 : Dsc) (vb : Option Addr) (wn wc : Nat) (hc : CtxIn c w) (h4 : w.cell? ⟨ob, oo + 4, none⟩ = some (.slice ma mn mc)) (hm : Mem c w ma mn ds) (hn : mn ≤ 1048577) (h2 : OpIn c w b2 o2 e2 d2 vb wn wc) :
    Calls Try.prog 39 #[.pointer (some ⟨ob, oo, none⟩), .pointer (some ⟨c.pb, 0, none⟩), .slice c.av c.nv c.cv, .pointer (some ⟨b2, o2, none⟩)] w fun e w' => e = .returned (.bool (ds.any (eqD · d2))) ∧ Below w.heap.size w w' := by
  have HC : Hid (CtxIn c w) := hc
  have HM : Hid (Mem c w ma mn ds) := hm
  have H2 : Hid (OpIn c w b2 o2 e2 d2 vb wn wc) := h2
  have H4 : Hid (∀ W, Below w.heap.size w W → W.cell? ⟨ob, oo + 4, none⟩ = some (.slice ma mn mc)) := fun W hb => (hb.cell (p := ⟨ob, oo + 4, none⟩) (cell_lt h4)).trans h4
  clear hc hm h2
  go_enter Try.func39, Try.ntmps39
  go_wp2
  go_loopw [15] (fun i wr => ∃ k : Nat, k ≤ mn ∧ i = .int .i64 k ∧ (∀ j, j < k → eqD (ds.getD j dsc0) d2 = false) ∧ Below w.heap.size w wr) (fun i _ => mn - (intOf i).toNat)
  case atStart => exact ⟨0, Nat.zero_le _, rfl, fun j h => absurd h (Nat.not_lt_zero _), Below.refl _ _⟩
  case round =>
    obtain ⟨k, hk, rfl, hj, hbel⟩ := hrel
    have HJ : Hid (∀ j, j < k → eqD (ds.getD j dsc0) d2 = false) := hj
    have HB : Hid (Below w.heap.size w wr) := hbel
    have d4 := H4.out wr hbel
    clear hj hbel h4
    by_cases hlt : k < mn
    · obtain ⟨g, mo, hA, hc1⟩ := (HM.out.below HB.out).2 (by omega)
      subst hA
      obtain ⟨e, va, vn, vc, ho⟩ := hc1 k hlt
      have HO : Hid (OpIn c wr g (mo + k * 5) e (ds.getD k dsc0) va vn vc) := ho
      have HL : Hid (k < mn) := hlt
      clear hc1 ho
      go_wp2_with fail
      refine (equal46 c wr g (mo + k * 5) b2 o2 e e2 (ds.getD k dsc0) d2 va vb vn vc wn wc (HC.out.below HB.out) HO.out (H2.out.below HB.out)).mono ?_
      rintro e' w1 ⟨rfl, hb⟩
      have HB1 : Hid (Below w.heap.size w w1) := HB.out.trans (hb.mono HB.out.size)
      clear hb
      cases he : eqD (ds.getD k dsc0) d2 with
      | true =>
        go_wp2
        go_ret
        exact ⟨by rw [any_yes HM.out.1 k HL.out he]; rfl, HB1.out⟩
      | false =>
        go_wp2
        go_roundw
        case rel => exact ⟨k + 1, by omega, by go_num, fun j h => by rcases Nat.lt_succ_iff_lt_or_eq.1 h with h | rfl; exact HJ.out j h; exact he, HB1.out⟩
        case measure => simp [intOf]; omega
    · go_wp2
      go_ret
      exact ⟨by rw [any_no HM.out.1 (fun j h => HJ.out j (by omega))]; rfl, HB.out⟩

theorem zzhas26 (c : Ctx) (w : World) (ob oo b2 o2 : Nat) (ma : Option Addr) (mn mc : Nat) (ds : List Dsc) (e2 : OpE) (d2 : Dsc) (vb : Option Addr) (wn wc : Nat) (hc : CtxIn c w) (h4 : w.cell? ⟨ob, oo + 4, none⟩ = some (.slice ma mn mc)) (hm : Mem c w ma mn ds) (hn : mn ≤ 1048577) (h2 : OpIn c w b2 o2 e2 d2 vb wn wc) :
    Calls Try.prog 26 #[.pointer (some ⟨ob, oo, none⟩), .pointer (some ⟨c.pb, 0, none⟩), .slice c.av c.nv c.cv, .pointer (some ⟨b2, o2, none⟩)] w fun e w' => e = .returned (.bool (ds.any (eqD · d2))) ∧ Below w.heap.size w w' := by
  have H : Hid (Calls Try.prog 39 #[.pointer (some ⟨ob, oo, none⟩), .pointer (some ⟨c.pb, 0, none⟩), .slice c.av c.nv c.cv, .pointer (some ⟨b2, o2, none⟩)] w fun e w' => e = .returned (.bool (ds.any (eqD · d2))) ∧ Below w.heap.size w w') := has39 c w ob oo b2 o2 ma mn mc ds e2 d2 vb wn wc hc h4 hm hn h2
  clear hc h4 hm h2
  go_enter Try.func26, Try.ntmps26
  go_wp2_with fail
  refine H.out.mono ?_
  rintro e' w1 ⟨rfl, hb⟩
  have HB1 := hide_of' hb
  clear hb
  go_wp2
  go_ret
  exact ⟨rfl, HB1.out⟩
end Go.Proofs.Qxb6616563a
