import Derived.Test.Qxb6616563aBytesEq
namespace Go.Proofs.Qxb6616563a
open Go.RowKit

theorem Bytes.drewN {w : World} {a : Option Addr} {n : Nat} {l : List UInt8} (h : Bytes w a n l) (k : Nat) : Bytes (w.drewN k) a n l := ⟨h.1, h.2.drewN k⟩

/-- A [][]byte that reads as ls. -/
def BList (w : World) (a : Option Addr) (n : Nat) (ls : List (List UInt8)) : Prop :=
  ls.length = n ∧ ∃ (A : Nat → Option Addr) (L C : Nat → Nat), Sl w a n (fun i => .slice (A i) (L i) (C i)) ∧ ∀ i, i < n → Bytes w (A i) (L i) (ls.getD i []) ∧ L i ≤ 1152921504606846976
theorem BList.below {w w' : World} {a : Option Addr} {n : Nat} {ls : List (List UInt8)} (h : BList w a n ls) (hb : Below w.heap.size w w') : BList w' a n ls := by
  obtain ⟨h1, A, L, C, h2, h3⟩ := h
  exact ⟨h1, A, L, C, h2.below hb, fun i hi => ⟨(h3 i hi).1.below hb, (h3 i hi).2⟩⟩

def eqLB (la lb : List (List UInt8)) : Bool := la == lb
theorem eqLB_of {la lb : List (List UInt8)} {n : Nat} (ha : la.length = n) (hb : lb.length = n) (h : ∀ j, j < n → eqB (la.getD j []) (lb.getD j []) = true) : eqLB la lb = true := by
  unfold eqLB
  rw [beq_iff_eq]
  refine List.ext_getElem (by omega) fun i h1 h2 => ?_
  have := h i (by omega)
  unfold eqB at this
  rw [beq_iff_eq] at this
  simpa [List.getD_eq_getElem?_getD, h1, h2] using this
theorem eqLB_len {la lb : List (List UInt8)} {n m : Nat} (ha : la.length = n) (hb : lb.length = m) (h : ¬ n = m) : eqLB la lb = false := by
  unfold eqLB
  rw [beq_eq_false_iff_ne]
  intro he
  rw [he] at ha
  omega
theorem eqLB_at {la lb : List (List UInt8)} {j : Nat} (h : eqB (la.getD j []) (lb.getD j []) = false) : eqLB la lb = false := by
  unfold eqLB
  rw [beq_eq_false_iff_ne]
  intro he
  rw [he] at h
  simp [eqB] at h

set_option maxHeartbeats 400000 in
theorem listEq_any (a b : Option Addr) (n m ca cb : Nat) (la lb : List (List UInt8)) (w : World) (ha : BList w a n la) (hb : BList w b m lb) (hn : n ≤ 1152921504606846976) (hm : m ≤ 1152921504606846976) :
    Calls Try.prog 18 #[.slice a n ca, .slice b m cb] w fun e w' => e = .returned (.bool (eqLB la lb)) ∧ ∃ k, w' = w.drewN k := by
  obtain ⟨la1, A, LA, CA, ha2, ha3⟩ := ha
  obtain ⟨lb1, B, LB, CB, hb2, hb3⟩ := hb
  have HA1 : Hid (la.length = n) := la1
  have HB1 : Hid (lb.length = m) := lb1
  clear la1 lb1
  by_cases hnm : n = m
  · subst hnm
    go_enter Try.func18, Try.ntmps18
    go_wp2
    go_loopw [5] (fun i wr => ∃ k : Nat, k ≤ n ∧ i = .int .i64 k ∧ (∀ j, j < k → eqB (la.getD j []) (lb.getD j []) = true) ∧ ∃ q, wr = w.drewN q) (fun i _ => n - (intOf i).toNat)
    case atStart => exact ⟨0, Nat.zero_le _, rfl, fun j h => absurd h (Nat.not_lt_zero _), 0, rfl⟩
    case round =>
      obtain ⟨k, hk, rfl, hj, hq⟩ := hrel
      have HQ : Hid (∃ q, wr = w.drewN q) := hq
      clear hq
      have HJ : Hid (∀ j, j < k → eqB (la.getD j []) (lb.getD j []) = true) := hj
      clear hj
      by_cases hlt : k < n
      · obtain ⟨b1, o1, rfl, hc1⟩ := (ha2.drawn HQ.out) (by omega)
        obtain ⟨b2, o2, rfl, hc2⟩ := (hb2.drawn HQ.out) (by omega)
        have d1 := hc1 k hlt
        have d2 := hc2 k hlt
        have e1 := ha3 k hlt
        have e2 := hb3 k hlt
        have HE1 : Hid (Bytes wr (A k) (LA k) (la.getD k [])) := ⟨e1.1.1, e1.1.2.drawn HQ.out⟩
        have HE2 : Hid (Bytes wr (B k) (LB k) (lb.getD k [])) := ⟨e2.1.1, e2.1.2.drawn HQ.out⟩
        have l1 := e1.2
        have l2 := e2.2
        clear hc1 hc2 ha3 hb3 e1 e2 ha2 hb2
        obtain ⟨x, hx⟩ : ∃ x, x = eqB (la.getD k []) (lb.getD k []) := ⟨_, rfl⟩
        have HX : Hid (x = eqB (la.getD k []) (lb.getD k [])) := hx
        have hcall : ∀ s, Calls Try.prog 37 #[.slice (A k) (LA k) (CA k), .slice (B k) (LB k) (CB k)] (wr.drewN s) fun e w' => e = .returned (.bool x) ∧ ∃ r, w' = (wr.drewN s).drewN r := by
          intro s
          rw [hx]
          exact bytesEq_any _ _ _ _ _ _ _ _ _ (HE1.out.drewN s) (HE2.out.drewN s) l1 l2
        have HC : Hid (∀ s, Calls Try.prog 37 #[.slice (A k) (LA k) (CA k), .slice (B k) (LB k) (CB k)] (wr.drewN s) fun e w' => e = .returned (.bool x) ∧ ∃ r, w' = (wr.drewN s).drewN r) := hcall
        clear hx hcall
        cases x with
        | true =>
          go_wp2
          go_quiet ((go_at_call 37; exact Calls.quiet_of (HC.out _)))
          go_wp2
          go_roundw
          case rel => exact ⟨k + 1, by omega, by go_num, fun j h => by rcases Nat.lt_succ_iff_lt_or_eq.1 h with h | rfl; exact HJ.out j h; exact HX.out.symm, drew_more HQ.out⟩
          case measure => simp [intOf]; omega
        | false =>
          go_wp2
          go_quiet ((go_at_call 37; exact Calls.quiet_of (HC.out _)))
          go_wp2
          go_ret
          exact ⟨by rw [eqLB_at HX.out.symm]; rfl, drew_more HQ.out⟩
      · go_wp2
        go_ret
        exact ⟨by rw [eqLB_of HA1.out HB1.out (fun j h => HJ.out j (by omega))]; rfl, HQ.out⟩
  · have hnm' : ((n : Int) != (m : Int)) = true := by simp; omega
    go_enter Try.func18, Try.ntmps18
    go_wp2
    go_ret
    exact ⟨by rw [eqLB_len HA1.out HB1.out hnm]; rfl, 0, rfl⟩

set_option maxHeartbeats 400000 in
/-- b1HasPrefixAt where the text is there. -/
theorem hasPrefix_yes (a : Option Addr) (n c i : Nat) (l : List UInt8) (p : ByteArray) (w : World) (ha : Bytes w a n l) (hn : n ≤ 1152921504606846976) (hi : i + p.size ≤ n)
    (hp : ∀ j (h : j < p.size), byteAt l (i + j) = (p[j].toNat : Int)) :
    Calls Try.prog 36 #[.slice a n c, .int .i64 i, .string p] w fun e w' => e = .returned (.bool true) ∧ ∃ k, w' = w.drewN k := by
  have HP : Hid (∀ j (h : j < p.size), byteAt l (i + j) = (p[j].toNat : Int)) := hp
  clear hp
  go_enter Try.func36, Try.ntmps36
  go_wp2
  go_loopw [7] (fun x wr => ∃ k : Nat, k ≤ p.size ∧ x = .int .i64 k ∧ ∃ q, wr = w.drewN q) (fun x _ => p.size - (intOf x).toNat)
  case atStart => exact ⟨0, Nat.zero_le _, rfl, 0, rfl⟩
  case round =>
    obtain ⟨k, hk, rfl, q, rfl⟩ := hrel
    by_cases hlt : k < p.size
    · obtain ⟨b1, o1, rfl, hc1⟩ := ha.2 (by omega)
      have d1 := hc1 (i + k) (by omega)
      have he : (byteAt l (i + k) != (p[k].toNat : Int)) = false := by simpa using HP.out k hlt
      have hi1 : (i : Int) + (k : Int) < (n : Int) := by omega
      have hi2 : (k : Int) < (p.size : Int) := by omega
      clear hc1
      go_wp2
      go_quiet (fail)
      go_wp2
      go_roundw
      case rel => exact ⟨k + 1, by omega, by go_num, _, rfl⟩
      case measure => simp [intOf]; omega
    · go_wp2
      go_ret
      exact ⟨rfl, _, rfl⟩
end Go.Proofs.Qxb6616563a
