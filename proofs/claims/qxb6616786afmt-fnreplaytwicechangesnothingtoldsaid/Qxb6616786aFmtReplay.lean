import Derived.Test.Qxb6616786aFmtFits
namespace Go.Proofs.Qxb6616786aFmt
open Go.RowKit Go.WideMaps Go.Maps Go.Extern.Stop Go.Stop Go.Extern

abbrev LkF := Nat → ByteArray × ByteArray
def lk (L : LkF) (i : Nat) : Lk := ((L i).1.data.toList, (L i).2.data.toList)
def lsOf (L : LkF) (n : Nat) : List Lk := (List.range n).map (lk L)
theorem lsOf_succ (L : LkF) (k : Nat) : lsOf L (k + 1) = lsOf L k ++ [lk L k] := by simp [lsOf, List.range_succ]
theorem lsOf_len (L : LkF) (k : Nat) : (lsOf L k).length = k := by simp [lsOf]
theorem lsOf_split (L : LkF) {k n : Nat} (h : k ≤ n) : ∃ r, lsOf L n = lsOf L k ++ r := by
  induction n with
  | zero => exact ⟨[], by have : k = 0 := by omega
                          subst this; simp⟩
  | succ n ih =>
    by_cases e : k = n + 1
    · subst e; exact ⟨[], by simp⟩
    · obtain ⟨r, hr⟩ := ih (by omega)
      exact ⟨r ++ [lk L n], by rw [lsOf_succ, hr, List.append_assoc]⟩

/-- the links handed on lie in a row of their own -/
def Puts (w : World) (rb : Nat) (a : Option Addr) (n : Nat) (L : LkF) : Prop :=
  0 < n → ∃ b, a = some ⟨b, 0, none⟩ ∧ b ≠ rb ∧ ∀ i, i < n → w.cell? ⟨b, i * 2, none⟩ = some (.string (L i).1) ∧ w.cell? ⟨b, i * 2 + 1, none⟩ = some (.string (L i).2)
theorem Puts.fr {w w' : World} {rb : Nat} {a : Option Addr} {n : Nat} {L : LkF} (h : Puts w rb a n L) (hf : Fr rb w w') : Puts w' rb a n L := by
  intro hn
  obtain ⟨b, e, hb, hc⟩ := h hn
  have e1 := hf b _ hb (hc 0 hn).2
  exact ⟨b, e, hb, fun i hi => ⟨by rw [cell_blk e1]; exact (hc i hi).1, by rw [cell_blk e1]; exact (hc i hi).2⟩⟩

theorem addOp_len (s : St) (l : Lk) : (addOp s l).1.length ≤ s.1.length + 2 := by
  unfold addOp
  split
  · omega
  · split
    · simp
    · split <;> simp

theorem replay_snoc_ok {s t : St} {L : LkF} {k : Nat} (h : replay s (lsOf L k) = (t, false)) (hb : stepBad t (lk L k) = false) : replay s (lsOf L (k + 1)) = (addOp t (lk L k), false) := by
  rw [lsOf_succ, replay_app, h]
  show replay t [lk L k] = _
  rw [replay_cons, hb]
  rfl
theorem replay_stop {s t : St} {L : LkF} {k n : Nat} (h : replay s (lsOf L k) = (t, false)) (hb : stepBad t (lk L k) = true) (hk : k < n) : replay s (lsOf L n) = (t, true) := by
  obtain ⟨r, hr⟩ := lsOf_split L (show k + 1 ≤ n from hk)
  rw [hr, replay_app]
  have : replay s (lsOf L (k + 1)) = (t, true) := by
    rw [lsOf_succ, replay_app, h]
    show replay t [lk L k] = _
    rw [replay_cons, hb]
    rfl
  rw [this]
  rfl

/-- what replay leaves -/
structure Rep (B0 : Nat) (w : World) (rb : Nat) (s : St) (ls : List Lk) (e : Ending) (w' : World) : Prop where
  ans : ((replay s ls).2 = true ∧ ∃ v, e = .returned (.iface 92 v)) ∨ ((replay s ls).2 = false ∧ e = .returned .nilIface)
  reg : RegA B0 w' rb (replay s ls).1
  below : Below B0 w w'
  fr : Fr rb w w'

set_option maxRecDepth 100000 in
set_option maxHeartbeats 4000000 in
theorem rep13 (F : Interp) {B0 : Nat} {w : World} {rb : Nat} {s : St} (a : Option Addr) (n c : Nat) (L : LkF) (hF : F.answers w.tape) (hB : B0 ≤ w.heap.size) (hn : n ≤ 4096) (hN : s.1.length ≤ 1048576) (hL : ∀ i, (L i).1.size ≤ maxLen ∧ (L i).2.size ≤ maxLen)
    (hp : Puts w rb a n L) (h : RegA B0 w rb s) :
    Calls Tryf.prog 13 #[.slice a n c, .pointer (some ⟨rb, 0, none⟩)] w fun e w' => Rep B0 w rb s (lsOf L n) e w' := by
  have HP := hid hp
  have HR := hid h
  have HF := hid hF
  have HL := hid hL
  clear hp h hF hL
  go_enter Tryf.func13, Tryf.ntmps13
  go_wp2
  go_loopw [10] (fun i wr => ∃ (k : Nat) (t : St), k ≤ n ∧ i = .int .i64 k ∧ replay s (lsOf L k) = (t, false) ∧ t.1.length ≤ s.1.length + 2 * k ∧ RegA B0 wr rb t ∧ Below B0 w wr ∧ Fr rb w wr) (fun i _ => n - (intOf i).toNat)
  case atStart => exact ⟨0, s, Nat.zero_le _, rfl, rfl, by omega, HR.out, Below.refl _ _, Fr.refl _ _⟩
  case round =>
    obtain ⟨k, t, hk, rfl, hrep, hlen, hreg, hbel, hfr⟩ := hrel
    have HREP := hid hrep
    have HREG := hid hreg
    have HBEL := hid hbel
    have HFR := hid hfr
    clear hrep hreg hbel hfr
    by_cases hlt : k < n
    · obtain ⟨b, rfl, hbr, hc⟩ := (HP.out.fr HFR.out) (by omega)
      obtain ⟨d1, d2⟩ := hc k hlt
      clear hc
      obtain ⟨x, hx⟩ : ∃ x, x = (L k).1 := ⟨_, rfl⟩
      obtain ⟨y, hy⟩ : ∃ x, x = (L k).2 := ⟨_, rfl⟩
      rw [← hx] at d1
      rw [← hy] at d2
      have HLK : Hid (lk L k = (x.data.toList, y.data.toList)) := by show _ = _; unfold lk; rw [hx, hy]
      have hxs : x.size ≤ maxLen := by rw [hx]; exact (HL.out k).1
      have hys : y.size ≤ maxLen := by rw [hy]; exact (HL.out k).2
      clear hx hy
      have HB2 : Hid (Below wr.heap.size wr (wr.alloc (.cells #[.string x, .string y] 72))) := (Below.refl _ _).alloc (Nat.le_refl _) _
      have HT : Hid (F.answers (wr.alloc (.cells #[.string x, .string y] 72)).tape) := by show F.answers _; rw [HB2.out.tape, HBEL.out.tape]; exact HF.out
      cases hb : stepBad t (x.data.toList, y.data.toList) with
      | true =>
        have C21 := hid (fits_bad F x y HT.out hxs hb (HREG.out.below HB2.out))
        have HE := hid (replay_stop HREP.out (by rw [HLK.out]; exact hb) hlt)
        clear hb
        go_wp2_with (go_at_call 21; refine C21.out.mono ?_; rintro e w3 ⟨⟨v, rfl⟩, hb3⟩; have HB3 := hid hb3; clear hb3)
        go_ret
        have hb4 : Below wr.heap.size wr w3 := HB2.out.trans (HB3.out.mono HB2.out.size)
        refine ⟨.inl ⟨by rw [HE.out], v, rfl⟩, by rw [HE.out]; exact HREG.out.below hb4, HBEL.out.trans (hb4.mono (Nat.le_trans hB HBEL.out.size)), HFR.out.trans (Fr.of_below hb4)⟩
      | false =>
        have C21 := hid (fits_ok (B0 := B0) (rb := rb) x y hxs hb (HREG.out.below HB2.out))
        have C22 := hid (op22 x y hxs hys (Nat.le_trans (Nat.le_trans hB HBEL.out.size) HB2.out.size) (by omega) hb (HREG.out.below HB2.out))
        have HE := hid (replay_snoc_ok HREP.out (by rw [HLK.out]; exact hb))
        clear hb
        go_wp2_with (first
          | (go_at_call 21; refine C21.out.mono ?_; rintro e w3 ⟨rfl, rfl⟩)
          | (go_at_call 22; refine C22.out.mono ?_; rintro e w4 ⟨⟨v, rfl⟩, hr4, hb4, hf4⟩; have HR4 := hid hr4; have HB4 := hid hb4; have HF4 := hid hf4; clear hr4 hb4 hf4))
        go_roundw
        case rel =>
          refine ⟨k + 1, _, by omega, by go_num, HE.out, ?_, by rw [HLK.out]; exact HR4.out, ?_, ?_⟩
          · have := addOp_len t (lk L k); omega
          · exact HBEL.out.trans ((HB2.out.mono (Nat.le_trans hB HBEL.out.size)).trans HB4.out)
          · exact HFR.out.trans ((Fr.of_below HB2.out).trans HF4.out)
        case measure => simp [intOf]; omega
    · have hkn : k = n := by omega
      subst hkn
      go_wp2
      go_ret
      exact ⟨.inr ⟨by rw [HREP.out], rfl⟩, by rw [HREP.out]; exact HREG.out, HBEL.out, HFR.out⟩
end Go.Proofs.Qxb6616786aFmt
