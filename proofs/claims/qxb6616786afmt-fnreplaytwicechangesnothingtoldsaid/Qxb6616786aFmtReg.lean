/-
  How a register lies in memory, told with each of its parts as a parameter; what one store, one make, one map update does to it.
-/
import Derived.Test.Qxb6616786aFmtPlain
namespace Go.Proofs.Qxb6616786aFmt
open Go.RowKit Go.WideMaps Go.Maps

abbrev bs (s : Str) : ByteArray := ⟨s.toArray⟩
theorem bs_key (s : Str) : (bs s).data.toList = s := by simp
theorem bs_of (x : ByteArray) : x = bs x.data.toList := by cases x; simp
theorem bs_size (s : Str) : (bs s).size = s.length := by simp [ByteArray.size]

theorem cell_lt {w : World} {b o : Nat} {v : Value} (h : w.cell? ⟨b, o, none⟩ = some v) : b < w.heap.size := by
  rcases Nat.lt_or_ge b w.heap.size with hb | hb
  · exact hb
  · simp [World.cell?, Array.getElem?_eq_none hb] at h
theorem cell_ne_map {w : World} {b o M n : Nat} {v : Value} {f : Str → Option Nat} (h : w.cell? ⟨b, o, none⟩ = some v) (hm : MapP w M n f) : b ≠ M := by
  obtain ⟨D, ⟨es, clock, h0, _⟩, _⟩ := hm
  rintro rfl
  simp [World.cell?, h0] at h
theorem cell_blk {w w' : World} {b o : Nat} (h : w'.heap[b]? = w.heap[b]?) : w'.cell? ⟨b, o, none⟩ = w.cell? ⟨b, o, none⟩ := World.cell?_of_block h
theorem frozen_blk {w w' : World} {b o : Nat} (h : w'.heap[b]? = w.heap[b]?) : w'.frozen? ⟨b, o, none⟩ = w.frozen? ⟨b, o, none⟩ := World.frozen?_of_block h

/-- block b is an operation -/
structure OpBlk (w : World) (b : Nat) (n : Str) (par ch : Option Nat) : Prop where
  c0 : w.cell? ⟨b, 0, none⟩ = some (.string (bs n))
  c1 : w.cell? ⟨b, 1, none⟩ = some (ptrV par)
  c2 : w.cell? ⟨b, 2, none⟩ = some (.map ch)
  f1 : w.frozen? ⟨b, 1, none⟩ = false
  f2 : w.frozen? ⟨b, 2, none⟩ = false
theorem OpBlk.blk {w w' : World} {b : Nat} {n : Str} {par ch : Option Nat} (h : OpBlk w b n par ch) (e : w'.heap[b]? = w.heap[b]?) : OpBlk w' b n par ch :=
  ⟨by rw [cell_blk e]; exact h.c0, by rw [cell_blk e]; exact h.c1, by rw [cell_blk e]; exact h.c2, by rw [frozen_blk e]; exact h.f1, by rw [frozen_blk e]; exact h.f2⟩
theorem OpBlk.set1 {w : World} {b : Nat} {n : Str} {par ch : Option Nat} (h : OpBlk w b n par ch) (q : Option Nat) : OpBlk (w.setCell ⟨b, 1, none⟩ (ptrV q)) b n q ch :=
  ⟨by rw [World.cell?_setCell_other _ _ _ _ (by simp)]; exact h.c0, World.cell?_setCell_same _ _ _ h.c1, by rw [World.cell?_setCell_other _ _ _ _ (by simp)]; exact h.c2, by rw [World.frozen?_setCell]; exact h.f1, by rw [World.frozen?_setCell]; exact h.f2⟩
theorem OpBlk.set2 {w : World} {b : Nat} {n : Str} {par ch : Option Nat} (h : OpBlk w b n par ch) (q : Option Nat) : OpBlk (w.setCell ⟨b, 2, none⟩ (.map q)) b n par q :=
  ⟨by rw [World.cell?_setCell_other _ _ _ _ (by simp)]; exact h.c0, by rw [World.cell?_setCell_other _ _ _ _ (by simp)]; exact h.c1, World.cell?_setCell_same _ _ _ h.c2, by rw [World.frozen?_setCell]; exact h.f1, by rw [World.frozen?_setCell]; exact h.f2⟩

/-- of what is neither the register's own block nor an operation's nothing has turned -/
def Fr (rb : Nat) (w w' : World) : Prop := ∀ k v, k ≠ rb → w.cell? ⟨k, 1, none⟩ = some (.string v) → w'.heap[k]? = w.heap[k]?
theorem Fr.refl (rb : Nat) (w : World) : Fr rb w w := fun _ _ _ _ => rfl
theorem Fr.trans {rb : Nat} {a b c : World} (h : Fr rb a b) (g : Fr rb b c) : Fr rb a c := fun k v hk hc => by
  have h1 := h k v hk hc
  rw [g k v hk (by rw [cell_blk h1]; exact hc), h1]
theorem Fr.alloc (rb : Nat) (w : World) (o : Obj) : Fr rb w (w.alloc o) := fun k _ _ hc => Below.heap_alloc w o k (cell_lt hc)
theorem Fr.grown {rb : Nat} {w w' : World} {M n : Nat} {f : Str → Option Nat} (hm : MapP w M n f) (hg : w.grownBy w' (some M)) : Fr rb w w' := fun k _ _ hc =>
  hg.block k (cell_lt hc) (fun e => cell_ne_map hc hm (by cases e; rfl))
theorem Fr.setOp {rb : Nat} {w : World} {b o : Nat} {p : Option Addr} (hb : w.cell? ⟨b, 1, none⟩ = some (.pointer p)) (u : Value) : Fr rb w (w.setCell ⟨b, o, none⟩ u) := fun k v _ hc =>
  Below.heap_setCell _ _ _ _ (fun e => by
    have e : k = b := e
    subst e
    rw [hb] at hc
    cases hc)
theorem Fr.setRb {rb : Nat} {w : World} {o : Nat} (u : Value) : Fr rb w (w.setCell ⟨rb, o, none⟩ u) := fun _ _ hk _ => Below.heap_setCell _ _ _ _ hk
theorem Fr.of_below {rb : Nat} {w w' : World} (h : Below w.heap.size w w') : Fr rb w w' := fun k _ _ hc => h.block k (cell_lt hc)

def KidsOK (w : World) (k : Nat) (g : Str → Prop) : Option Nat → Prop
  | none => k = 0
  | some C => ∃ h, MapP w C k h ∧ ∀ t, (h t).isSome = true → g t
theorem KidsOK.blk {w w' : World} {k : Nat} {g : Str → Prop} {o : Option Nat} (h : KidsOK w k g o) (e : ∀ C, o = some C → w'.heap[C]? = w.heap[C]?) : KidsOK w' k g o := by
  cases o with
  | none => exact h
  | some C => obtain ⟨m, h1, h2⟩ := h; exact ⟨m, h1.blk (e C rfl), h2⟩

/-- the register's parts: its names N, each name's operation block f, parent pointer pf, children map ch with kc entries (keys in kg), the count lk -/
structure RegG (B0 : Nat) (w : World) (rb : Nat) (N : List Str) (M : Nat) (f pf ch : Str → Option Nat) (kc : Str → Nat) (kg : Str → Str → Prop) (lk : Int) : Prop where
  ops : w.cell? ⟨rb, 2, none⟩ = some (.map (some M))
  lnk : w.cell? ⟨rb, 27, none⟩ = some (.int .i64 lk)
  flnk : w.frozen? ⟨rb, 27, none⟩ = false
  map : MapP w M N.length f
  dom : ∀ s, (f s).isSome = true ↔ s ∈ N
  op : ∀ s b, f s = some b → OpBlk w b s (pf s) (ch s)
  inj : ∀ s t b, f s = some b → f t = some b → s = t
  rbne : ∀ s b, f s = some b → b ≠ rb
  kids : ∀ s, s ∈ N → KidsOK w (kc s) (kg s) (ch s)
  chInj : ∀ s, s ∈ N → ∀ t, t ∈ N → ∀ C, ch s = some C → ch t = some C → s = t
  chM : ∀ s, s ∈ N → ch s ≠ some M
  low : B0 ≤ rb ∧ B0 ≤ M ∧ (∀ s b, f s = some b → B0 ≤ b) ∧ ∀ s, s ∈ N → ∀ C, ch s = some C → B0 ≤ C

section
variable {B0 : Nat} {w : World} {rb : Nat} {N : List Str} {M : Nat} {f pf ch : Str → Option Nat} {kc : Str → Nat} {kg : Str → Str → Prop} {lk : Int}

/-- nothing that was there has turned -/
theorem RegG.step {w' : World} (h : RegG B0 w rb N M f pf ch kc kg lk) (e : ∀ k, k < w.heap.size → w'.heap[k]? = w.heap[k]?) : RegG B0 w' rb N M f pf ch kc kg lk := by
  have e1 := e rb (cell_lt h.ops)
  refine ⟨by rw [cell_blk e1]; exact h.ops, by rw [cell_blk e1]; exact h.lnk, by rw [frozen_blk e1]; exact h.flnk, h.map.blk (e M h.map.lt), h.dom, fun s b hb => (h.op s b hb).blk (e b (cell_lt (h.op s b hb).c0)), h.inj, h.rbne, fun s hs => (h.kids s hs).blk (fun C hC => e C ?_), h.chInj, h.chM, h.low⟩
  have hk := h.kids s hs
  rw [hC] at hk
  obtain ⟨m, h1, _⟩ := hk
  exact h1.lt
theorem RegG.below {w' : World} (h : RegG B0 w rb N M f pf ch kc kg lk) (hb : Below w.heap.size w w') : RegG B0 w' rb N M f pf ch kc kg lk := h.step hb.block

theorem RegG.kid_lt (h : RegG B0 w rb N M f pf ch kc kg lk) {s : Str} (hs : s ∈ N) {C : Nat} (hC : ch s = some C) : C < w.heap.size := by
  have hk := h.kids s hs
  rw [hC] at hk
  obtain ⟨m, h1, _⟩ := hk
  exact h1.lt
theorem RegG.kid_ne (h : RegG B0 w rb N M f pf ch kc kg lk) {s : Str} (hs : s ∈ N) {C : Nat} (hC : ch s = some C) {b o : Nat} {v : Value} (hb : w.cell? ⟨b, o, none⟩ = some v) : b ≠ C := by
  have hk := h.kids s hs
  rw [hC] at hk
  obtain ⟨m, h1, _⟩ := hk
  exact cell_ne_map hb h1

def fset (f : Str → Option Nat) (s : Str) (b : Option Nat) : Str → Option Nat := fun k => if k = s then b else f k
theorem fset_same {f : Str → Option Nat} {s : Str} {b : Option Nat} : fset f s b s = b := by simp [fset]
theorem fset_other {f : Str → Option Nat} {s k : Str} {b : Option Nat} (h : ¬ k = s) : fset f s b k = f k := by simp [fset, h]

/-- a new operation has entered -/
theorem RegG.add {w1 w2 : World} {b : Nat} {n : Str} (h : RegG B0 w rb N M f pf ch kc kg lk) (hn : ¬ n ∈ N) (hB : B0 ≤ w.heap.size)
    (e1 : ∀ k, k < w.heap.size → w1.heap[k]? = w.heap[k]?) (hb1 : w.heap.size ≤ b) (hop : OpBlk w1 b n none none)
    (hm : MapP w2 M (N.length + 1) (fset f n (some b))) (hg : w1.grownBy w2 (some M)) :
    RegG B0 w2 rb (N ++ [n]) M (fset f n (some b)) (fset pf n none) (fset ch n none) (fun k => if k = n then 0 else kc k) kg lk := by
  have hs : w.heap.size ≤ w1.heap.size := by
    have := cell_lt hop.c0
    rcases Nat.lt_or_ge w1.heap.size w.heap.size with hh | hh
    · have h1 := e1 w1.heap.size hh
      rw [Array.getElem?_eq_none (Nat.le_refl _)] at h1
      rw [Array.getElem?_eq_getElem hh] at h1
      cases h1
    · exact hh
  have e2 : ∀ k, k < w.heap.size → k ≠ M → w2.heap[k]? = w.heap[k]? := fun k hk hne => by
    rw [hg.block k (by omega) (fun e => hne (by cases e; rfl)), e1 k hk]
  have er := e2 rb (cell_lt h.ops) (cell_ne_map h.ops h.map)
  have hfn : f n = none := by
    cases hh : f n with
    | none => rfl
    | some x => exact absurd ((h.dom n).1 (by rw [hh]; rfl)) hn
  have hMlt := h.map.lt
  have hnew : ∀ s bb, f s = some bb → bb < w.heap.size := fun s bb hh => cell_lt (h.op s bb hh).c0
  have hsn : ∀ s, s ∈ N → ¬ s = n := fun s hs' e => hn (by rw [← e]; exact hs')
  have hfs : ∀ s bb, fset f n (some b) s = some bb → (s = n ∧ bb = b) ∨ (¬ s = n ∧ f s = some bb) := by
    intro s bb hh
    by_cases e : s = n
    · subst e; rw [fset_same] at hh; cases hh; exact .inl ⟨rfl, rfl⟩
    · rw [fset_other e] at hh; exact .inr ⟨e, hh⟩
  have hmem : ∀ s, s ∈ N ++ [n] → s = n ∨ (¬ s = n ∧ s ∈ N) := by
    intro s hs'
    rcases List.mem_append.1 hs' with h1 | h1
    · exact .inr ⟨hsn s h1, h1⟩
    · exact .inl (by simpa using h1)
  refine ⟨by rw [cell_blk er]; exact h.ops, by rw [cell_blk er]; exact h.lnk, by rw [frozen_blk er]; exact h.flnk, by rw [List.length_append]; exact hm, ?_, ?_, ?_, ?_, ?_, ?_, ?_, ?_⟩
  · intro s
    by_cases e : s = n
    · subst e; rw [fset_same]; simp
    · rw [fset_other e, h.dom s]; simp [e]
  · intro s bb hh
    rcases hfs s bb hh with ⟨rfl, rfl⟩ | ⟨e, h1⟩
    · rw [fset_same, fset_same]
      have hbM : bb ≠ M := by have := hMlt; omega
      exact hop.blk (hg.block bb (cell_lt hop.c0) (fun e => hbM (by cases e; rfl)))
    · rw [fset_other e, fset_other e]
      exact (h.op s bb h1).blk (e2 bb (hnew s bb h1) (cell_ne_map (h.op s bb h1).c0 h.map))
  · intro s t bb hs' ht'
    rcases hfs s bb hs' with ⟨rfl, rfl⟩ | ⟨_, h1⟩
    · rcases hfs t bb ht' with ⟨rfl, _⟩ | ⟨_, h2⟩
      · rfl
      · have := hnew t bb h2; omega
    · rcases hfs t bb ht' with ⟨_, rfl⟩ | ⟨_, h2⟩
      · have := hnew s bb h1; omega
      · exact h.inj s t bb h1 h2
  · intro s bb hh
    rcases hfs s bb hh with ⟨_, rfl⟩ | ⟨_, h1⟩
    · have := cell_lt h.ops; omega
    · exact h.rbne s bb h1
  · intro s hs'
    rcases hmem s hs' with e | ⟨e, h1⟩
    · subst e; rw [fset_same]; show KidsOK w2 (if s = s then 0 else kc s) _ none; rw [if_pos rfl]; rfl
    · rw [fset_other e]
      show KidsOK w2 (if s = n then 0 else kc s) _ _
      rw [if_neg e]
      exact (h.kids s h1).blk (fun C hC => e2 C (h.kid_lt h1 hC) (fun e => h.chM s h1 (by rw [hC, e])))
  · intro s hs' t ht' C hsC htC
    rcases hmem s hs' with e | ⟨e, h1⟩
    · subst e; rw [fset_same] at hsC; cases hsC
    · rcases hmem t ht' with e' | ⟨e', h2⟩
      · subst e'; rw [fset_same] at htC; cases htC
      · rw [fset_other e] at hsC
        rw [fset_other e'] at htC
        exact h.chInj s h1 t h2 C hsC htC
  · intro s hs'
    rcases hmem s hs' with e | ⟨e, h1⟩
    · subst e; rw [fset_same]; simp
    · rw [fset_other e]; exact h.chM s h1
  · refine ⟨h.low.1, h.low.2.1, fun s bb hh => ?_, fun s hs' C hC => ?_⟩
    · rcases hfs s bb hh with ⟨_, rfl⟩ | ⟨_, h1⟩
      · omega
      · exact h.low.2.2.1 s bb h1
    · rcases hmem s hs' with e | ⟨e, h1⟩
      · subst e; rw [fset_same] at hC; cases hC
      · rw [fset_other e] at hC; exact h.low.2.2.2 s h1 C hC

/-- a parent's pointer has been stored -/
theorem RegG.setPar {n : Str} {b : Nat} (h : RegG B0 w rb N M f pf ch kc kg lk) (hb : f n = some b) (q : Option Nat) :
    RegG B0 (w.setCell ⟨b, 1, none⟩ (ptrV q)) rb N M f (fset pf n q) ch kc kg lk := by
  have e : ∀ k, k ≠ b → (w.setCell ⟨b, 1, none⟩ (ptrV q)).heap[k]? = w.heap[k]? := fun k hk => Below.heap_setCell _ _ _ _ hk
  have er := e rb (fun e => h.rbne n b hb e.symm)
  have hc := (h.op n b hb).c0
  refine ⟨by rw [cell_blk er]; exact h.ops, by rw [cell_blk er]; exact h.lnk, by rw [frozen_blk er]; exact h.flnk, h.map.blk (e M (fun e' => cell_ne_map hc h.map e'.symm)), h.dom, fun s bb hs => ?_, h.inj, h.rbne, fun s hs => (h.kids s hs).blk (fun C hC => e C (fun e' => h.kid_ne hs hC hc e'.symm)), h.chInj, h.chM, h.low⟩
  by_cases hh : s = n
  · subst hh
    rw [hb] at hs
    cases hs
    rw [fset_same]
    exact (h.op s b hb).set1 q
  · rw [fset_other hh]
    exact (h.op s bb hs).blk (e bb (fun e' => hh (h.inj s n b (by rw [hs, e']) hb)))

/-- a children's map has been made -/
theorem RegG.makeKids {p : Str} {b : Nat} (h : RegG B0 w rb N M f pf ch kc kg lk) (hb : f p = some b) (hp : p ∈ N) (hB : B0 ≤ w.heap.size) (h0 : ch p = none) :
    RegG B0 ((w.alloc (.map #[] 0)).setCell ⟨b, 2, none⟩ (.map (some w.heap.size))) rb N M f pf (fset ch p (some w.heap.size)) kc kg lk := by
  have hw := h.step (w' := w.alloc (.map #[] 0)) (fun k hk => Below.heap_alloc w _ k hk)
  have e : ∀ k, k ≠ b → ((w.alloc (.map #[] 0)).setCell ⟨b, 2, none⟩ (.map (some w.heap.size))).heap[k]? = (w.alloc (.map #[] 0)).heap[k]? := fun k hk => Below.heap_setCell _ _ _ _ hk
  have er := e rb (fun e => h.rbne p b hb e.symm)
  have hc := (hw.op p b hb).c0
  have hbl := cell_lt (h.op p b hb).c0
  have hkc : kc p = 0 := by have := h.kids p hp; rw [h0] at this; exact this
  have hne : ∀ s, s ∈ N → ∀ C, ch s = some C → C ≠ w.heap.size := fun s hs C hC => by have := h.kid_lt hs hC; omega
  refine ⟨by rw [cell_blk er]; exact hw.ops, by rw [cell_blk er]; exact hw.lnk, by rw [frozen_blk er]; exact hw.flnk, hw.map.blk (e M (fun e' => cell_ne_map hc hw.map e'.symm)), h.dom, fun s bb hs => ?_, h.inj, h.rbne, fun s hs => ?_, fun s hs t ht C hsC htC => ?_, fun s hs => ?_, ⟨h.low.1, h.low.2.1, h.low.2.2.1, fun s hs C hC => ?_⟩⟩
  · by_cases hh : s = p
    · subst hh
      rw [hb] at hs
      cases hs
      rw [fset_same]
      exact (hw.op s b hb).set2 _
    · rw [fset_other hh]
      exact (hw.op s bb hs).blk (e bb (fun e' => hh (h.inj s p b (by rw [hs, e']) hb)))
  · by_cases hh : s = p
    · subst hh
      rw [fset_same, hkc]
      exact ⟨_, (MapP.made w).blk (e w.heap.size (by omega)), fun t ht => by cases ht⟩
    · rw [fset_other hh]
      exact (hw.kids s hs).blk (fun C hC => e C (fun e' => hw.kid_ne hs hC hc e'.symm))
  · by_cases h1 : s = p
    · by_cases h2 : t = p
      · rw [h1, h2]
      · subst h1; rw [fset_same] at hsC; cases hsC; rw [fset_other h2] at htC; exact absurd rfl (hne t ht _ htC)
    · by_cases h2 : t = p
      · subst h2; rw [fset_same] at htC; cases htC; rw [fset_other h1] at hsC; exact absurd rfl (hne s hs _ hsC)
      · rw [fset_other h1] at hsC; rw [fset_other h2] at htC; exact h.chInj s hs t ht C hsC htC
  · by_cases hh : s = p
    · subst hh; rw [fset_same]; intro e'; have := h.map.lt; cases e'; omega
    · rw [fset_other hh]; exact h.chM s hs
  · by_cases hh : s = p
    · subst hh; rw [fset_same] at hC; cases hC; exact hB
    · rw [fset_other hh] at hC; exact h.low.2.2.2 s hs C hC

/-- a child has entered its parent's map -/
theorem RegG.putKid {w2 : World} {p t : Str} {C : Nat} {g : Str → Option Nat} {x : Option Nat} (h : RegG B0 w rb N M f pf ch kc kg lk) (hp : p ∈ N) (hC : ch p = some C)
    (hg0 : ∀ u, (g u).isSome = true → kg p u) (hm : MapP w2 C (kc p + 1) (fset g t x)) (hgr : w.grownBy w2 (some C)) :
    RegG B0 w2 rb N M f pf ch (fun k => if k = p then kc p + 1 else kc k) (fun k u => kg k u ∨ (k = p ∧ u = t)) lk := by
  have e : ∀ k, k < w.heap.size → k ≠ C → w2.heap[k]? = w.heap[k]? := fun k hk hne => hgr.block k hk (fun e => hne (by cases e; rfl))
  have er := e rb (cell_lt h.ops) (h.kid_ne hp hC h.ops)
  refine ⟨by rw [cell_blk er]; exact h.ops, by rw [cell_blk er]; exact h.lnk, by rw [frozen_blk er]; exact h.flnk, h.map.blk (e M h.map.lt (fun e' => h.chM p hp (by rw [hC, e']))), h.dom, fun s bb hs => (h.op s bb hs).blk (e bb (cell_lt (h.op s bb hs).c0) (h.kid_ne hp hC (h.op s bb hs).c0)), h.inj, h.rbne, fun s hs => ?_, h.chInj, h.chM, h.low⟩
  by_cases hh : s = p
  · subst hh
    rw [hC]
    show ∃ m, MapP w2 C (if s = s then kc s + 1 else kc s) m ∧ _
    rw [if_pos rfl]
    refine ⟨_, hm, fun u hu => ?_⟩
    by_cases e' : u = t
    · exact .inr ⟨rfl, e'⟩
    · rw [fset_other e'] at hu; exact .inl (hg0 u hu)
  · show KidsOK w2 (if s = p then kc p + 1 else kc s) _ _
    rw [if_neg hh]
    have hk := (h.kids s hs).blk (w' := w2) (fun C' hC' => e C' (h.kid_lt hs hC') (fun e' => hh (h.chInj s hs p hp C (by rw [hC', e']) hC)))
    cases hc : ch s with
    | none => rw [hc] at hk; exact hk
    | some C' => rw [hc] at hk; obtain ⟨m, h1, h2⟩ := hk; exact ⟨m, h1, fun u hu => .inl (h2 u hu)⟩

/-- the count has been stored -/
theorem RegG.setLnk (h : RegG B0 w rb N M f pf ch kc kg lk) (v : Int) : RegG B0 (w.setCell ⟨rb, 27, none⟩ (.int .i64 v)) rb N M f pf ch kc kg v := by
  have e : ∀ k, k ≠ rb → (w.setCell ⟨rb, 27, none⟩ (.int .i64 v)).heap[k]? = w.heap[k]? := fun k hk => Below.heap_setCell _ _ _ _ hk
  exact ⟨by rw [World.cell?_setCell_other _ _ _ _ (by simp)]; exact h.ops, World.cell?_setCell_same _ _ _ h.lnk, by rw [World.frozen?_setCell]; exact h.flnk, h.map.blk (e M (fun e' => cell_ne_map h.ops h.map e'.symm)), h.dom,
    fun s bb hs => (h.op s bb hs).blk (e bb (h.rbne s bb hs)), h.inj, h.rbne, fun s hs => (h.kids s hs).blk (fun C hC => e C (fun e' => h.kid_ne hs hC h.ops e'.symm)), h.chInj, h.chM, h.low⟩
end
end Go.Proofs.Qxb6616786aFmt
