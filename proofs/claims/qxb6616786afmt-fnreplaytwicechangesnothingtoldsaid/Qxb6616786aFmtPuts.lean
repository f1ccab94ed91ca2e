import Derived.Test.Qxb6616786aFmtState
import Derived.Deep.RegionHeld3
import Derived.Deep.RegionLaw
namespace Go.Proofs.Qxb6616786aFmt
open Go.RowKit Go.WideMaps Go.Maps

theorem Tryf.info72 : (Tryf.prog.info? 72).map (fun i => (i.zero, i.size, i.bytes)) = some (some (.agg #[.string ⟨#[]⟩, .string ⟨#[]⟩]), 2, 32) := by kernel_rfl

/-- the row of links that the call builds: j of them stand -/
structure PR (w wr : World) (pb cap j : Nat) (L : LkF) : Prop where
  c : ∀ i, i < j → wr.cell? ⟨pb, i * 2, none⟩ = some (.string (L i).1) ∧ wr.cell? ⟨pb, i * 2 + 1, none⟩ = some (.string (L i).2)
  sm : ∀ t, t < cap * 2 → (wr.cell? ⟨pb, t, none⟩).isSome = true
  fz : ∀ t, wr.frozen? ⟨pb, t, none⟩ = false
  bel : Below w.heap.size w wr

theorem PR.start {w wr : World} {cap : Nat} {L : LkF} (h : wr.ownsRow w.heap.size 72 2 (.slice (some ⟨w.heap.size, 0, none⟩) 0 cap) 0 []) (hb : Below w.heap.size w wr) : PR w wr w.heap.size cap 0 L := by
  rcases h.2 with ⟨h1, _⟩ | ⟨g, cp, cur, h1, _, h3, _, _, h6, _⟩
  · cases h1
  · cases h1
    refine ⟨fun i hi => absurd hi (Nat.not_lt_zero _), fun t ht => ?_, fun t => ?_, hb⟩
    · rw [cell_of_row wr _ t cur 72 (0, 0) h3, Array.getElem?_eq_getElem (by omega)]; rfl
    · unfold World.frozen?
      simp only [h3]
      simp

theorem PR.step {w wr : World} {pb cap j : Nat} {L : LkF} (h : PR w wr pb cap j L) (hp : w.heap.size ≤ pb) (hpl : pb < wr.heap.size) (hj : j < cap) (o : Obj) :
    PR w (((wr.alloc o).drew).setCells pb (0 + j * 2) [.string (L j).1, .string (L j).2]) pb cap (j + 1) L := by
  have hc : ∀ t, (wr.alloc o).drew.cell? ⟨pb, t, none⟩ = wr.cell? ⟨pb, t, none⟩ := fun t => cell_blk (Below.heap_alloc wr o pb hpl)
  have hin := World.cell?_setCells_in pb [.string (L j).1, .string (L j).2] (0 + j * 2) (wr.alloc o).drew (fun i hi => by rw [hc]; exact h.sm _ (by simp at hi; omega))
  have h0 := hin 0 (by simp)
  have h1 := hin 1 (by simp)
  have hout : ∀ t, (t < j * 2 ∨ j * 2 + 2 ≤ t) → (((wr.alloc o).drew).setCells pb (0 + j * 2) [.string (L j).1, .string (L j).2]).cell? ⟨pb, t, none⟩ = wr.cell? ⟨pb, t, none⟩ := fun t ht => by
    rw [World.cell?_setCells_out pb _ _ _ _ (fun _ _ => by simp; omega), hc]
  refine ⟨fun i hi => ?_, fun t ht => ?_, fun t => ?_, ?_⟩
  · rcases Nat.lt_succ_iff_lt_or_eq.1 hi with hh | rfl
    · rw [hout _ (.inl (by omega)), hout _ (.inl (by omega))]; exact h.c i hh
    · simp only [Nat.zero_add, Nat.add_zero] at h0 h1 ⊢
      exact ⟨h0, h1⟩
  · by_cases h2 : t < j * 2 ∨ j * 2 + 2 ≤ t
    · rw [hout t h2]; exact h.sm t ht
    · have : t = j * 2 ∨ t = j * 2 + 1 := by omega
      simp only [Nat.zero_add, Nat.add_zero] at h0 h1 ⊢
      rcases this with rfl | rfl
      · rw [h0]; rfl
      · rw [h1]; rfl
  · rw [World.frozen?_setCells]
    show (wr.alloc o).frozen? _ = false
    rw [frozen_blk (Below.heap_alloc wr o pb hpl)]
    exact h.fz t
  · exact (((h.bel.alloc h.bel.size o).drew).setCell (p := ⟨pb, 0 + j * 2, none⟩) hp _).setCell (p := ⟨pb, 0 + j * 2 + 1, none⟩) hp _

theorem below_setC {B : Nat} {a W : World} (h : Below B a W) {g : Nat} (hg : B ≤ g) (o : Nat) (vs : List Value) : Below B a (W.setCells g o vs) := by
  induction vs generalizing o W with
  | nil => exact h
  | cons v r ih => exact ih (h.setCell (p := ⟨g, o, none⟩) hg v) (o + 1)

set_option maxRecDepth 100000 in
set_option maxHeartbeats 4000000 in
theorem puts9 (a : Option Addr) (m c fr n : Nat) (L : LkF) (w : World) (h : Ins w a m L) (h2 : fr + n ≤ m) (hm : m ≤ 4096) (up : Int) (hup : up = (fr : Int) + n) :
    Calls Tryf.prog 9 #[.slice a m c, .int .i64 fr, .int .i64 up] w fun e w' => e = .returned (.slice (some ⟨w.heap.size, 0, none⟩) n n) ∧ PR w w' w.heap.size n n (fun i => L (fr + i)) := by
  subst hup
  have HI := hid h
  clear h
  obtain ⟨i0, hi, hz0, hz1, hz2⟩ := info_parts Tryf.info72
  have e1 : (fr : Int) + (n : Int) - (fr : Int) = (n : Int) := by omega
  go_enter Tryf.func9, Tryf.ntmps9
  go_wp2_with (at_make; refine wpList_make_own w rfl _ _ 31 rfl w.heap.size 72 i0 _ 2 Tryf.underlying31 hi hz0 hz1 .i64 .i64 _ n rfl rfl (by omega) (by rw [hz2]; omega) (by unfold maxLen; omega) (Nat.le_refl _) ?_; intro w1 ho1 hg1; have HO1 := hid ho1; have HG1 := hid hg1; clear ho1 hg1)
  have HP1 : Hid (PR w w1 w.heap.size n 0 (fun i => L (fr + i))) := PR.start HO1.out ((Below.refl _ _).grown HG1.out (Nat.le_refl _) (fun k hk => by cases hk))
  have HLT1 : Hid (w.heap.size < w1.heap.size) := by
    show _ < _
    rcases HO1.out.2 with ⟨h1, _⟩ | ⟨g, cp, cur, h1, _, h3, _⟩
    · cases h1
    · cases h1; exact (Array.getElem?_eq_some_iff.1 h3).1
  clear HO1 HG1
  go_loopw [7, 8] (fun v i wr => ∃ (j t : Nat), j ≤ n ∧ Hid (t = fr + j) ∧ v = .slice (some ⟨w.heap.size, 0, none⟩) j n ∧ i = .int .i64 t ∧ PR w wr w.heap.size n j (fun i => L (fr + i)) ∧ w.heap.size < wr.heap.size) (fun _ i _ => fr + n - (intOf i).toNat)
  case atStart => exact ⟨0, fr, Nat.zero_le _, rfl, rfl, rfl, HP1.out, HLT1.out⟩
  case round =>
    obtain ⟨j, t, hj, HTJ, rfl, rfl, hpr, hpl⟩ := hrel
    have HPR := hid hpr
    clear hpr
    have htj := HTJ.out
    by_cases hlt : j < n
    · have htn : (t : Int) < (fr : Int) + (n : Int) := by omega
      obtain ⟨b, o, rfl, hc⟩ := HI.out (by omega)
      obtain ⟨d1', d2'⟩ := hc t (by omega)
      clear hc
      have hbl := cell_lt d1'
      have d1 := (HPR.out.bel.cell (p := ⟨b, o + t * 2, none⟩) hbl).trans d1'
      have d2 := (HPR.out.bel.cell (p := ⟨b, o + t * 2 + 1, none⟩) hbl).trans d2'
      clear d1' d2'
      obtain ⟨x, hx⟩ : ∃ x, x = (L t).1 := ⟨_, rfl⟩
      obtain ⟨y, hy⟩ : ∃ x, x = (L t).2 := ⟨_, rfl⟩
      rw [← hx] at d1
      rw [← hy] at d2
      have HX := hid hx
      have HY := hid hy
      clear hx hy htj
      have htm : (t : Int) < (m : Int) := by omega
      have HSP : Hid (∀ W : World, W.heap[w.heap.size]? = wr.heap[w.heap.size]? → ∀ jj, jj < 2 → (W.cell? ⟨w.heap.size, 0 + j * 2 + jj, none⟩).isSome = true ∧ W.frozen? ⟨w.heap.size, 0 + j * 2 + jj, none⟩ = false) := fun W hW jj hjj => ⟨by rw [cell_blk hW]; exact HPR.out.sm _ (by omega), by rw [frozen_blk hW]; exact HPR.out.fz _⟩
      have KP : Hid (∀ W, Below w.heap.size wr W → W.cell? ⟨b, o + t * 2, none⟩ = some (.string x) ∧ W.cell? ⟨b, o + t * 2 + 1, none⟩ = some (.string y)) := fun W hb => ⟨(hb.cell (p := ⟨b, o + t * 2, none⟩) hbl).trans d1, (hb.cell (p := ⟨b, o + t * 2 + 1, none⟩) hbl).trans d2⟩
      go_upto_region 5 with fail
      go_region_held3 (fun W => W.cell? ⟨b, o + t * 2, none⟩ = some (.string x) ∧ W.cell? ⟨b, o + t * 2 + 1, none⟩ = some (.string y)) ((refine KP.out _ ?_; (repeat (first | exact Below.refl _ _ | refine Below.drew ?_ | refine Below.alloc ?_ (Nat.le_of_lt hpl) _ | refine below_setC ?_ (Nat.le_refl _) _ _))))
        (first
          | (refine step_append_room rfl _ _ 31 rfl 72 i0 2 Tryf.underlying31 hi hz1 w.heap.size 0 j n rfl ⟨wr.heap.size, 0, none⟩ 1 1 [.string x, .string y] rfl rfl (by intro jj u hu; match jj, hu with | 0, hu => (simp at hu; subst hu; simp [Addr.add]) | 1, hu => (simp at hu; subst hu; simp [Addr.add])) (by intro u hu; simp at hu; rcases hu with rfl | rfl <;> rfl) (by omega) (HSP.out _ (Below.heap_alloc _ _ _ hpl)) ?_))
      have HST := hid (HPR.out.step (Nat.le_refl _) hpl hlt (.cells #[.string x, .string y] 72))
      have ex : (L (fr + j)).1 = x := by rw [HX.out, HTJ.out]
      have ey : (L (fr + j)).2 = y := by rw [HY.out, HTJ.out]
      simp only [ex, ey, Nat.zero_add] at HST
      clear ex ey
      go_wp2
      go_roundw
      case rel => exact ⟨j + 1, t + 1, by omega, by show t + 1 = fr + (j + 1); have := HTJ.out; omega, rfl, by go_num, HST.out, cell_lt (HST.out.c j (by omega)).1⟩
      case measure => simp [intOf]; omega
    · have hjn : j = n := by omega
      subst hjn
      have htn : (t : Int) = (fr : Int) + (j : Int) := by omega
      have htn' : decide ((t : Int) < (fr : Int) + (j : Int)) = false := by simp; omega
      go_wp2
      go_ret
      exact ⟨rfl, HPR.out⟩
end Go.Proofs.Qxb6616786aFmt
