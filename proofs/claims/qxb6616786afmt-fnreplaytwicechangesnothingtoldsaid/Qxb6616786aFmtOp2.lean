import Derived.Test.Qxb6616786aFmtOp
import Derived.Deep.CutRange
namespace Go.Proofs.Qxb6616786aFmt
open Go.RowKit Go.WideMaps Go.Maps

section
variable {B0 : Nat} {w : World} {rb : Nat} {N : List Str} {M : Nat} {f pf ch : Str → Option Nat} {kc : Str → Nat} {kg : Str → Str → Prop} {lk : Int}

/-- what operation(q, "") leaves, whether q was there or not -/
structure OpQ (B0 : Nat) (w : World) (rb : Nat) (N : List Str) (M : Nat) (f pf ch : Str → Option Nat) (kc : Str → Nat) (kg : Str → Str → Prop) (lk : Int) (q : Str) (bq : Nat) (w' : World)
    (N3 : List Str) (f3 pf3 ch3 : Str → Option Nat) (kc3 : Str → Nat) : Prop where
  reg : RegG B0 w' rb N3 M f3 pf3 ch3 kc3 kg lk
  names : N3 = addName N q
  fq : f3 q = some bq
  old : ∀ s, s ∈ N → f3 s = f s ∧ pf3 s = pf s ∧ ch3 s = ch s ∧ kc3 s = kc s
  new : ¬ q ∈ N → pf3 q = none ∧ ch3 q = none ∧ kc3 q = 0
  below : Below B0 w w'
  fr : Fr rb w w'

theorem op22_q (q e0 : ByteArray) (hq : q.size ≤ maxLen) (he : e0.toList.isEmpty = true) (hN : N.length < maxLen) (hB : B0 ≤ w.heap.size) (h : RegG B0 w rb N M f pf ch kc kg lk) :
    Calls Tryf.prog 22 #[.pointer (some ⟨rb, 0, none⟩), .string q, .string e0] w fun e w' => ∃ bq N3 f3 pf3 ch3 kc3, e = .returned (.pointer (some ⟨bq, 0, none⟩)) ∧ OpQ B0 w rb N M f pf ch kc kg lk q.data.toList bq w' N3 f3 pf3 ch3 kc3 := by
  by_cases hin : q.data.toList ∈ N
  · obtain ⟨bq, hbq⟩ := Option.isSome_iff_exists.1 ((h.dom _).2 hin)
    refine (op22_old q e0 hq bq hbq h).mono ?_
    rintro e w' ⟨rfl, rfl⟩
    exact ⟨bq, N, f, pf, ch, kc, rfl, h, by unfold addName; rw [if_pos hin], hbq, fun s hs => ⟨rfl, rfl, rfl, rfl⟩, fun hh => absurd hin hh, Below.refl _ _, Fr.refl _ _⟩
  · refine (op22_new0 q e0 hq he hin hN hB h).mono ?_
    rintro e w' ⟨bq, rfl, hr, hb, hfr⟩
    refine ⟨bq, _, _, _, _, _, rfl, hr, by unfold addName; rw [if_neg hin], fset_same, fun s hs => ?_, fun _ => ⟨fset_same, fset_same, if_pos rfl⟩, hb, hfr⟩
    have e1 : ¬ s = q.data.toList := fun e => hin (by rw [← e]; exact hs)
    exact ⟨fset_other e1, fset_other e1, fset_other e1, if_neg e1⟩

/-- what operation leaves where the name is new and a parent is named -/
structure New1 (B0 : Nat) (w : World) (rb : Nat) (N : List Str) (M : Nat) (f pf : Str → Option Nat) (kc : Str → Nat) (kg : Str → Str → Prop) (lk : Int) (n q : Str) (w' : World) : Prop where
  ex : ∃ (b bq : Nat) (N3 : List Str) (f3 pf3 ch3 : Str → Option Nat) (kc3 : Str → Nat), RegG B0 w' rb N3 M f3 (fset pf3 n (some bq)) ch3 (fun k => if k = q then kc3 q + 1 else kc3 k) (fun k u => kg k u ∨ (k = q ∧ u = n)) (lk + 1) ∧ N3 = addName (N ++ [n]) q ∧ f3 q = some bq ∧
    (∀ s, s ∈ N ++ [n] → f3 s = fset f n (some b) s ∧ pf3 s = fset pf n none s ∧ kc3 s = if s = n then 0 else kc s) ∧ (¬ q ∈ N ++ [n] → pf3 q = none ∧ kc3 q = 0)
  below : Below B0 w w'
  fr : Fr rb w w'

set_option maxRecDepth 100000 in
set_option maxHeartbeats 4000000 in
theorem op22_new (n q : ByteArray) (hn : n.size ≤ maxLen) (hq : q.size ≤ maxLen) (hqe : q.toList.isEmpty = false) (hne : ¬ q.data.toList = n.data.toList) (hnew : ¬ n.data.toList ∈ N) (hN : N.length ≤ 1099511627776) (hB : B0 ≤ w.heap.size)
    (hlk : 0 ≤ lk ∧ lk ≤ 1099511627776) (hkc : ∀ s, s ∈ N → kc s ≤ N.length) (hkg : ∀ t u, kg t u → u ∈ N) (h : RegG B0 w rb N M f pf ch kc kg lk) :
    Calls Tryf.prog 22 #[.pointer (some ⟨rb, 0, none⟩), .string n, .string q] w fun e w' => ∃ b, e = .returned (.pointer (some ⟨b, 0, none⟩)) ∧ New1 B0 w rb N M f pf kc kg lk n.data.toList q.data.toList w' := by
  have hfn : f n.data.toList = none := by
    cases hh : f n.data.toList with
    | none => rfl
    | some x => exact absurd ((h.dom _).1 (by rw [hh]; rfl)) hnew
  have c1 := h.ops
  have hl := h.map.look n hn
  rw [hfn] at hl
  simp only [ptrV, Option.map_none] at hl
  have hmm := @run_makeMap Tryf.prog
  have hrb := cell_lt c1
  have HR := hid h
  have hNm : N.length < maxLen := by unfold maxLen; omega
  have HNN := hid hNm
  clear h
  go_enter Tryf.func22, Tryf.ntmps22
  go_upto_region 7 with (at_mapUpdate; refine wp_put ((HR.out.map.kept (World.grownBy_alloc _ _ none) (by simp)).kept (World.grownBy_alloc _ _ none) (by simp)) HNN.out rfl _ _ _ rfl rfl n rfl (w.heap.size + 1) rfl hn hfn ?_; intro w2 hm2 hg2; have HM2 := hid hm2; have HG2 := hid hg2; clear hm2 hg2)
  have R2 := hid (HR.out.add hnew hB (fun k hk => by rw [Below.heap_alloc _ _ _ (by simp; omega), Below.heap_alloc _ _ _ hk]) (by omega) (op_new w n) HM2.out HG2.out)
  have B2 := hid ((((Below.refl B0 w).alloc hB _).alloc (by simp; omega) _).grown HG2.out (by simp; omega) (fun k hk => by cases hk; exact HR.out.low.2.1))
  have F2 : Hid (Fr rb w w2) := ((Fr.alloc rb w _).trans (Fr.alloc rb _ _)).trans (Fr.grown ((HR.out.map.kept (World.grownBy_alloc _ _ none) (by simp)).kept (World.grownBy_alloc _ _ none) (by simp)) HG2.out)
  obtain ⟨b, hb⟩ : ∃ b, b = w.heap.size + 1 := ⟨_, rfl⟩
  rw [← hb] at R2 ⊢
  have HBB := hid hb
  clear hb
  have HQ := hid (op22_q q ⟨#[]⟩ hq (by rw [ByteArray.toList_eq]; rfl) (by rw [List.length_append]; unfold maxLen; simp; omega) (Nat.le_trans hB B2.out.size) R2.out)
  clear hl c1 hmm HM2 HG2
  go_upto_region 8 with (go_at_call 22; refine HQ.out.mono ?_; rintro e W3 ⟨bq, N3, f3, pf3, ch3, kc3, rfl, hoq⟩; have OQ := hid hoq; have hfn3 : f3 n.data.toList = some b := (by rw [(hoq.old n.data.toList (by simp)).1]; exact fset_same); have d1 := (hoq.reg.op _ b hfn3).c1; have d2 := (hoq.reg.op _ b hfn3).f1; clear hoq; rw [(OQ.out.old n.data.toList (by simp)).2.1, fset_same] at d1; simp only [ptrV, Option.map_none] at d1)
  have hfq := OQ.out.fq
  have HQN : Hid (q.data.toList ∈ N3) := (OQ.out.reg.dom _).1 (by rw [hfq]; rfl)
  have R4 := hid (OQ.out.reg.setPar hfn3 (some bq))
  have B3 := hid (B2.out.trans OQ.out.below)
  have B4 : Hid (Below B0 w (W3.setCell ⟨b, 1, none⟩ (.pointer (some ⟨bq, 0, none⟩)))) := B3.out.setCell (by rw [HBB.out]; show B0 ≤ w.heap.size + 1; omega) _
  have F4 : Hid (Fr rb w (W3.setCell ⟨b, 1, none⟩ (.pointer (some ⟨bq, 0, none⟩)))) := (F2.out.trans OQ.out.fr).trans (Fr.setOp (OQ.out.reg.op _ b hfn3).c1 _)
  have hW4 : W3.setCell ⟨b, 1, none⟩ (ptrV (some bq)) = W3.setCell ⟨b, 1, none⟩ (.pointer (some ⟨bq, 0, none⟩)) := rfl
  rw [hW4] at R4
  clear hW4
  generalize W3.setCell ⟨b, 1, none⟩ (.pointer (some ⟨bq, 0, none⟩)) = W4 at R4 B4 F4 ⊢
  have HKQ : Hid (kc3 q.data.toList < maxLen) := by
    show _ < _
    by_cases hin : q.data.toList ∈ N
    · have h1 := (OQ.out.old q.data.toList (List.mem_append_left _ hin)).2.2.2
      rw [if_neg hne] at h1
      have h2 := hkc _ hin
      rw [h1]
      unfold maxLen
      omega
    · have h1 := (OQ.out.new (by simp [hin, hne])).2.2
      rw [h1]
      unfold maxLen
      omega
  have h0 := (R4.out.op _ b hfn3).c1
  rw [fset_same] at h0
  simp only [ptrV, Option.map_some] at h0
  have h1 := (R4.out.op _ bq hfq).c2
  have h2 := (R4.out.op _ bq hfq).f2
  clear d1 d2 HQ
  have hbq4 : bq < W4.heap.size := cell_lt h1
  have hb4 : b < W4.heap.size := cell_lt h0
  have hbne : ¬ bq = b := fun e => hne (OQ.out.reg.inj _ _ b (by rw [hfq, e]) hfn3)
  have hmm := @run_makeMap Tryf.prog
  have heq := fun (w : World) (r : Option Nat) => run_eql_map_nil (P := Tryf.prog) w 37 9 82 r Tryf.underlying37
  cases hch : ch3 q.data.toList with
  | none =>
    rw [hch] at h1
    have R5 := hid (R4.out.makeKids hfq HQN.out (Nat.le_trans hB B4.out.size) hch)
    have B5 : Hid (Below B0 w ((W4.alloc (.map #[] 0)).setCell ⟨bq, 2, none⟩ (.map (some W4.heap.size)))) := (B4.out.alloc (Nat.le_trans hB B4.out.size) _).setCell (OQ.out.reg.low.2.2.1 _ _ hfq) _
    have F5 : Hid (Fr rb w ((W4.alloc (.map #[] 0)).setCell ⟨bq, 2, none⟩ (.map (some W4.heap.size)))) := (F4.out.trans (Fr.alloc rb W4 _)).trans (Fr.setOp ((R4.out.step (w' := W4.alloc (.map #[] 0)) (fun k hk => Below.heap_alloc W4 _ k hk)).op _ bq hfq).c1 _)
    clear hch
    have hsw : (W4.alloc (.map #[] 0)).setCell ⟨bq, 2, none⟩ (.map (some W4.heap.size)) = (W4.setCell ⟨bq, 2, none⟩ (.map (some W4.heap.size))).alloc (.map #[] 0) := by first | exact World.setCell_alloc _ _ _ _ hbq4 | exact World.setCell_alloc_lt _ _ _ _ hbq4 | go_simp
    rw [hsw] at R5 B5 F5
    clear hsw
    go_upto_region 10 with fail
    have HC5 : Hid (fset ch3 q.data.toList (some W4.heap.size) q.data.toList = some W4.heap.size) := fset_same
    generalize (W4.setCell ⟨bq, 2, none⟩ (.map (some W4.heap.size))).alloc (.map #[] 0) = W5 at R5 B5 F5 ⊢
    generalize fset ch3 q.data.toList (some W4.heap.size) = ch5 at R5 HC5
    clear h0 h1 h2
    have k0 := (R5.out.op _ b hfn3).c1
    rw [fset_same] at k0
    simp only [ptrV, Option.map_some] at k0
    have k1 := (R5.out.op _ bq hfq).c2
    rw [HC5.out] at k1
    have hkids := R5.out.kids _ HQN.out
    rw [HC5.out] at hkids
    obtain ⟨g, hgm, hgk⟩ := hkids
    have HGM := hid hgm
    have HGK := hid hgk
    clear hgm hgk
    have hgn : g n.data.toList = none := by
      cases hh : g n.data.toList with
      | none => rfl
      | some x => exact absurd (hkg _ n.data.toList (HGK.out n.data.toList (by rw [hh]; rfl))) hnew
    go_wp2_with (at_mapUpdate; refine wp_put HGM.out HKQ.out rfl _ _ _ rfl rfl n rfl b rfl hn hgn ?_; intro w6 hm6 hg6; have HM6 := hid hm6; have HG6 := hid hg6; clear hm6 hg6; have R6 := hid (R5.out.putKid HQN.out HC5.out HGK.out HM6.out HG6.out); have j1 := R6.out.lnk; have j2 := R6.out.flnk)
    go_ret
    refine ⟨b, rfl, ⟨b, bq, N3, f3, pf3, _, kc3, R6.out.setLnk _, OQ.out.names, hfq, fun s hs => ⟨(OQ.out.old s hs).1, (OQ.out.old s hs).2.1, (OQ.out.old s hs).2.2.2⟩, fun hh => ⟨(OQ.out.new hh).1, (OQ.out.new hh).2.2⟩⟩, ?_, (F5.out.trans (Fr.grown HGM.out HG6.out)).trans (Fr.setRb _)⟩
    exact (B5.out.grown HG6.out (Nat.le_trans hB B5.out.size) (fun k hk => by cases hk; exact R5.out.low.2.2.2 _ HQN.out _ HC5.out)).setCell HR.out.low.1 _
  | some C =>
    rw [hch] at h1
    have HCH := hid hch
    clear hch
    go_upto_region 10 with fail
    clear h0 h1 h2
    have k0 := (R4.out.op _ b hfn3).c1
    rw [fset_same] at k0
    simp only [ptrV, Option.map_some] at k0
    have k1 := (R4.out.op _ bq hfq).c2
    rw [HCH.out] at k1
    have hkids := R4.out.kids _ HQN.out
    rw [HCH.out] at hkids
    obtain ⟨g, hgm, hgk⟩ := hkids
    have HGM := hid hgm
    have HGK := hid hgk
    clear hgm hgk
    have hgn : g n.data.toList = none := by
      cases hh : g n.data.toList with
      | none => rfl
      | some x => exact absurd (hkg _ n.data.toList (HGK.out n.data.toList (by rw [hh]; rfl))) hnew
    go_wp2_with (at_mapUpdate; refine wp_put HGM.out HKQ.out rfl _ _ _ rfl rfl n rfl b rfl hn hgn ?_; intro w6 hm6 hg6; have HM6 := hid hm6; have HG6 := hid hg6; clear hm6 hg6; have R6 := hid (R4.out.putKid HQN.out HCH.out HGK.out HM6.out HG6.out); have j1 := R6.out.lnk; have j2 := R6.out.flnk)
    go_ret
    refine ⟨b, rfl, ⟨b, bq, N3, f3, pf3, _, kc3, R6.out.setLnk _, OQ.out.names, hfq, fun s hs => ⟨(OQ.out.old s hs).1, (OQ.out.old s hs).2.1, (OQ.out.old s hs).2.2.2⟩, fun hh => ⟨(OQ.out.new hh).1, (OQ.out.new hh).2.2⟩⟩, ?_, (F4.out.trans (Fr.grown HGM.out HG6.out)).trans (Fr.setRb _)⟩
    exact (B4.out.grown HG6.out (Nat.le_trans hB B4.out.size) (fun k hk => by cases hk; exact R4.out.low.2.2.2 _ HQN.out _ HCH.out)).setCell HR.out.low.1 _
end
end Go.Proofs.Qxb6616786aFmt
