import Derived.Test.Qxb6616889aLeaf
import Derived.Lib.Endian
import Derived.Lib.EndianBits
import Derived.Stop.LaidErr
import Derived.Lib.UnsafeStr
import Derived.Lib.Slices
import Derived.Deep.Draws
import Derived.RegionTactic
import Derived.Deep.RegionWith
namespace Go.Proofs.Qxb6616889a
open Go.RowKit

/-- what an append leaves: the bytes l in a row of the call's own; what else was there is as it was -/
structure App (B n : Nat) (sv : Value) (l : List UInt8) (w : World) (v' : Value) (w' : World) : Prop where
  own : w'.ownsRow B 5 1 v' (n + 4) (Lib.byteCells l)
  below : Below B w w'
  rest : ∀ k, k < w.heap.size → some k ≠ sv.ownBlock → w'.heap[k]? = w.heap[k]?

theorem be4 (v : Nat) (hv : v < 4294967296) : Lib.byteCells (Lib.beBytes 4 v) = [Value.int .u8 ((v : Int) / 16777216), Value.int .u8 ((v : Int) / 65536 % 256), Value.int .u8 ((v : Int) / 256 % 256), Value.int .u8 ((v : Int) % 256)] := by
  have e0 : ((v % 256 : Nat) : Int) = (v : Int) % 256 := by omega
  have e1 : ((v / 256 % 256 : Nat) : Int) = (v : Int) / 256 % 256 := by omega
  have e2 : ((v / 256 / 256 % 256 : Nat) : Int) = (v : Int) / 65536 % 256 := by omega
  have e3 : ((v / 256 / 256 / 256 % 256 : Nat) : Int) = (v : Int) / 16777216 := by omega
  simp only [Lib.byteCells, Lib.beBytes, Lib.leBytes, List.reverse_cons, List.reverse_nil, List.nil_append, List.cons_append, List.map, Lib.toUInt8_mod, e0, e1, e2, e3]

set_option maxHeartbeats 8000000 in
set_option maxRecDepth 100000 in
theorem app31 (B n v : Nat) (hv : v < 4294967296) (sv : Value) (l : List UInt8) (w : World) (hown : w.ownsRow B 5 1 sv n (Lib.byteCells l)) (hBw : B ≤ w.heap.size) (hlim : n ≤ 1099511627776) :
    Calls Try.prog 31 #[.agg #[], sv, .int .u32 v] w fun e w' => ∃ v', e = .returned v' ∧ App B n sv (l ++ Lib.beBytes 4 v) w v' w' := by
  obtain ⟨i0, hi, hz0, hz1, hz2⟩ := info_parts Try.info5'
  have HB := be4 v hv
  go_enter Try.func31, Try.ntmps31
  go_wp2_with (at_builtin; refine wpList_append_own _ rfl _ _ 25 rfl B 5 i0 (.int .u8 0) 1 1 Try.underlying25 hi hz0 hz1 hz2 rfl (by decide) _ _ _ rfl ((hown.alloc _).alloc _) _ 4 4 [Value.int .u8 ((v : Int) / 16777216), Value.int .u8 ((v : Int) / 65536 % 256), Value.int .u8 ((v : Int) / 256 % 256), Value.int .u8 ((v : Int) % 256)] rfl rfl ?c1 ?c2 ?c3 ?c4 ?c5 ?_)
  case c1 =>
    intro j u hj
    match j, hj with
    | 0, hj => simp at hj; subst hj; simp [Addr.add]
    | 1, hj => simp at hj; subst hj; simp [Addr.add]
    | 2, hj => simp at hj; subst hj; simp [Addr.add]
    | 3, hj => simp at hj; subst hj; simp [Addr.add]
  case c2 => intro u hu; simp at hu; rcases hu with rfl | rfl | rfl | rfl <;> rfl
  case c3 => unfold maxLen; omega
  case c4 => omega
  case c5 => simp; omega
  intro v' w2 hown' hgrow _
  go_wp2
  go_ret
  refine ⟨v', rfl, by rw [byteCells_app, HB]; exact hown', ?_, ?_⟩
  · exact ((((Below.refl B w).alloc hBw _).alloc (by simp; omega) _).grown hgrow (by simp; omega) (fun k hk => (hown.lt k hk).1))
  · intro k hk hne
    rw [hgrow.block k (by simp; omega) hne, Below.heap_alloc _ _ _ (by simp; omega), Below.heap_alloc _ _ _ hk]

theorem cell?_blk {w w' : World} {b o : Nat} (h : w'.heap[b]? = w.heap[b]?) : w'.cell? ⟨b, o, none⟩ = w.cell? ⟨b, o, none⟩ := World.cell?_of_block h
theorem frozen?_blk {w w' : World} {b o : Nat} (h : w'.heap[b]? = w.heap[b]?) : w'.frozen? ⟨b, o, none⟩ = w.frozen? ⟨b, o, none⟩ := World.frozen?_of_block h

theorem ownsRow_setOther {w : World} {B : Nat} {v : Value} {n p : Nat} {xs : List Value} (h : w.ownsRow B 5 1 v n xs) (hp : v.ownBlock ≠ some p) (u : Value) : (w.setCell ⟨p, 0, none⟩ u).ownsRow B 5 1 v n xs := by
  obtain ⟨h1, h2⟩ := h
  refine ⟨h1, ?_⟩
  rcases h2 with h | ⟨g, cap, cur, rfl, e2, e3, e4⟩
  · exact .inl h
  · refine .inr ⟨g, cap, cur, rfl, e2, ?_, e4⟩
    rw [Below.heap_setCell _ _ _ _ (fun h => hp (by rw [h]; rfl))]
    exact e3

/-- block p is an encoder whose buffer is v -/
def IsEnc (w : World) (p : Nat) (v : Value) : Prop := w.heap[p]? = some (.cells #[v] 49)
theorem IsEnc.apart {w : World} {p B n : Nat} {u v : Value} {xs : List Value} (h : IsEnc w p u) (hv : w.ownsRow B 5 1 v n xs) : v.ownBlock ≠ some p := by
  rcases hv.2 with ⟨rfl, _⟩ | ⟨g, cap, cur, rfl, e2, e3, _⟩
  · simp [Value.ownBlock]
  · intro he
    simp only [Value.ownBlock, Option.some.injEq] at he
    subst he
    rw [h] at e3
    simp at e3
theorem IsEnc.cell {w : World} {p : Nat} {v : Value} (h : IsEnc w p v) : w.cell? ⟨p, 0, none⟩ = some v := by
  rw [cell_of_row w p 0 _ 49 (0, 0) h]; rfl
theorem IsEnc.frozen {w : World} {p : Nat} {v : Value} (h : IsEnc w p v) : w.frozen? ⟨p, 0, none⟩ = false := by
  unfold IsEnc at h
  simp [World.frozen?, h]
theorem IsEnc.lt {w : World} {p : Nat} {v : Value} (h : IsEnc w p v) : p < w.heap.size := cell_lt h.cell
theorem below_drewN' {B : Nat} {a w : World} (h : Below B a w) (n : Nat) : Below B a (w.drewN n) := h.trans ⟨rfl, rfl, rfl, Nat.le_refl _, fun _ _ => rfl⟩

set_option maxHeartbeats 8000000 in
theorem u32_any (B n v p c : Nat) (a : Option Addr) (hv : v < 4294967296) (l : List UInt8) (w : World) (hown : w.ownsRow B 5 1 (.slice a n c) n (Lib.byteCells l)) (hBp : B ≤ p)
    (he : IsEnc w p (.slice a n c)) (hlim : n ≤ 1099511627776) :
    Calls Try.prog 24 #[.pointer (some ⟨p, 0, none⟩), .int .u32 v] w fun e w' => (∃ a' c', e = .returned (.tuple #[]) ∧ w'.cell? ⟨p, 0, none⟩ = some (.slice a' (n + 4) c') ∧ Hid (w'.ownsRow B 5 1 (.slice a' (n + 4) c') (n + 4) (Lib.byteCells (l ++ Lib.beBytes 4 v)))) ∧ Hid (Below B w w') := by
  have HO : Hid (w.ownsRow B 5 1 (.slice a n c) n (Lib.byteCells l)) := hown
  have HE : Hid (IsEnc w p (.slice a n c)) := he
  have hc := he.cell
  have hf := he.frozen
  clear hown he
  have HC : Hid (∀ k, Calls Try.prog 31 #[.agg #[], .slice a n c, .int .u32 v] (w.drewN k) fun e w' => ∃ a' c', e = .returned (.slice a' (n + 4) c') ∧ Hid (App B n (.slice a n c) (l ++ Lib.beBytes 4 v) w (.slice a' (n + 4) c') w' ∧ IsEnc w' p (.slice a n c)) ∧ w'.cell? ⟨p, 0, none⟩ = some (.slice a n c) ∧ w'.frozen? ⟨p, 0, none⟩ = false) := by
    intro k
    have hd : Below w.heap.size w (w.drewN k) := below_drewN' (Below.refl _ _) k
    have hlt := HE.out.lt
    refine (app31 B n v hv (.slice a n c) l (w.drewN k) (ownsRow_below HO.out hd (Nat.le_refl _)) (Nat.le_trans (by omega) hd.size) hlim).mono ?_
    rintro e w' ⟨v', rfl, h⟩
    obtain ⟨_, a', c', rfl, _⟩ := ownsRow_shape h.own
    have hr : ∀ k, k < w.heap.size → some k ≠ (Value.slice a n c).ownBlock → w'.heap[k]? = w.heap[k]? := fun k hk hn => by
      rw [h.rest k (by have := hd.size; omega) hn]
      exact hd.block k hk
    have he : IsEnc w' p (.slice a n c) := (hr p hlt (fun h => HE.out.apart HO.out h.symm)).trans HE.out
    exact ⟨a', c', rfl, ⟨⟨h.own, (hd.mono (by omega)).trans h.below, hr⟩, he⟩, he.cell, he.frozen⟩
  go_enter Try.func24, Try.ntmps24
  go_region_with (go_at_call 31; refine (HC.out 1).mono ?_; rintro _ W4 ⟨a', c', rfl, hW4, d1, d2⟩)
  all_goals
    refine bodyPost_end (by simp [results, Try.results24, go_sem]) rfl ⟨⟨a', c', rfl, ?_, ownsRow_setOther hW4.out.1.own (hW4.out.2.apart hW4.out.1.own) _⟩, hW4.out.1.below.setCell hBp _⟩
    exact World.cell?_setCell_same _ _ _ d1

set_option maxHeartbeats 8000000 in
theorem enc_any (B n v c : Nat) (a : Option Addr) (hv : v < 4294967296) (l : List UInt8) (w : World) (hown : w.ownsRow B 5 1 (.slice a n c) n (Lib.byteCells l)) (hB : B ≤ w.heap.size) (hlim : n ≤ 1099511627776) :
    Calls Try.prog 11 #[.slice a n c, .int .u32 v] w fun e w' => (∃ a' c', e = .returned (.slice a' (n + 4) c') ∧ w'.ownsRow B 5 1 (.slice a' (n + 4) c') (n + 4) (Lib.byteCells (l ++ Lib.beBytes 4 v))) ∧ Below B w w' := by
  have HC : Hid (Calls Try.prog 24 #[.pointer (some ⟨w.heap.size, 0, none⟩), .int .u32 v] (w.alloc (.cells #[.slice a n c] 49)) fun e w' => (∃ a' c', e = .returned (.tuple #[]) ∧ w'.cell? ⟨w.heap.size, 0, none⟩ = some (.slice a' (n + 4) c') ∧ Hid (w'.ownsRow B 5 1 (.slice a' (n + 4) c') (n + 4) (Lib.byteCells (l ++ Lib.beBytes 4 v)))) ∧ Hid (Below B (w.alloc (.cells #[.slice a n c] 49)) w')) :=
    u32_any B n v w.heap.size c a hv l _ (hown.alloc _) hB (heap_alloc_new w _) hlim
  clear hown
  go_enter Try.func11, Try.ntmps11
  go_wp2_with (go_at_call 24; refine HC.out.mono ?_; rintro _ W4 ⟨⟨a', c', rfl, d1, hW4⟩, hB4⟩)
  go_ret
  exact ⟨⟨a', c', rfl, hW4.out⟩, ((Below.refl _ _).alloc hB _).trans hB4.out⟩
end Go.Proofs.Qxb6616889a
