import Derived.Test.Qxb6616563aFailed
import Derived.Deep.RegionWith
namespace Go.Proofs.Qxb6616563a
open Go.RowKit

theorem new10 (a b : Option Addr) (n c m d : Nat) (w : World) :
    Calls Try.prog 10 #[.slice a n c, .slice b m d] w fun e w' => e = .returned (.pointer (some ⟨w.heap.size, 0, none⟩)) ∧ w' = w.alloc (.cells #[.nilIface, .slice a n c, .slice b m d] 64) := by
  go_enter Try.func10, Try.ntmps10
  go_wp2
  go_ret
  exact ⟨rfl, rfl⟩

theorem new13 (k s : Int) (a b : Option Addr) (n c m d : Nat) (p : Option Addr) (w : World) :
    Calls Try.prog 13 #[.int .u8 k, .slice a n c, .pointer p, .int .i64 s, .slice b m d] w fun e w' => e = .returned (.agg #[.int .u8 k, .slice a n c, .pointer p, .int .i64 s, .slice b m d]) ∧ w' = w.alloc (.cells #[.int .u8 k, .slice a n c, .pointer p, .int .i64 s, .slice b m d] 36) := by
  go_enter Try.func13, Try.ntmps13
  go_wp2
  refine bodyPost_ret (v := .agg #[.int .u8 k, .slice a n c, .pointer p, .int .i64 s, .slice b m d]) (by simp [results, Try.results13, go_sem]) rfl ⟨rfl, rfl⟩

/-- the cells of a comparison whose operands have nothing but a kind and a slot -/
abbrev cmpCells (op lk rk ls rs : Int) (text : ByteArray) : Array Value :=
  #[.int .u8 op, .int .u8 lk, .slice none 0 0, .pointer none, .int .i64 ls, .slice none 0 0, .int .u8 rk, .slice none 0 0, .pointer none, .int .i64 rs, .slice none 0 0, .string text]

theorem new15 (op lk rk ls rs : Int) (text : ByteArray) (w : World) :
    Calls Try.prog 15 #[.int .u8 op, .agg #[.int .u8 lk, .slice none 0 0, .pointer none, .int .i64 ls, .slice none 0 0], .agg #[.int .u8 rk, .slice none 0 0, .pointer none, .int .i64 rs, .slice none 0 0], .string text] w fun e w' =>
      e = .returned (.pointer (some ⟨w.heap.size + 1 + 1, 0, none⟩)) ∧ w' = ((w.alloc (.cells #[.int .u8 lk, .slice none 0 0, .pointer none, .int .i64 ls, .slice none 0 0] 36)).alloc (.cells #[.int .u8 rk, .slice none 0 0, .pointer none, .int .i64 rs, .slice none 0 0] 36)).alloc (.cells (cmpCells op lk rk ls rs text) 68) := by
  go_enter Try.func15, Try.ntmps15
  go_wp2
  go_ret
  exact ⟨rfl, rfl⟩

theorem Buf.rebase {w w1 w' : World} {v : Value} {l : List UInt8} {N : Nat} (h : Buf w1 w' v l N) (hb : Below w.heap.size w w1) : Buf w w' v l N := by
  obtain ⟨⟨n, ⟨h0, h1⟩, h2⟩, h3⟩ := h
  have hs := hb.size
  refine ⟨⟨n, ⟨h0, ?_⟩, h2⟩, hb.trans (h3.mono hs)⟩
  rcases h1 with h | ⟨g, cap, cur, e1, e2, e3⟩
  · exact .inl h
  · exact .inr ⟨g, cap, cur, e1, Nat.le_trans hs e2, e3⟩

def slots2 (a b : Int) : Nat → Int := fun i => if i = 0 then a else b

set_option maxHeartbeats 1000000 in
theorem explain35 (pb pc : Nat) (bf bw av : Option Addr) (nf nv cf cw cv : Nat) (text : ByteArray) (ls rs : Int) (z : Nat → Int) (W : Nat → ByteArray) (A : Nat → Option Addr) (L C : Nat → Nat) (V : Nat → List UInt8) (w : World)
    (p1 : w.cell? ⟨pb, 1, none⟩ = some (.slice bf nf cf)) (p2 : w.cell? ⟨pb, 2, none⟩ = some (.slice bw nf cw))
    (q1 : w.cell? ⟨pc, 4, none⟩ = some (.int .i64 ls)) (q2 : w.cell? ⟨pc, 9, none⟩ = some (.int .i64 rs)) (q3 : w.cell? ⟨pc, 11, none⟩ = some (.string text))
    (hf : Sl w bf nf (fun i => .int .i64 (z i))) (hw : Sl w bw nf (fun i => .string (W i))) (hv : Sl w av nv (fun i => .slice (A i) (L i) (C i))) (hV : ∀ i, i < nv → Bytes w (A i) (L i) (V i))
    (ht : text.size ≤ 1048576) (hnf : nf ≤ 1048576) (hnv : nv ≤ 1048576) (hW : ∀ i, i < nf → (W i).size ≤ 1048576) (hL : ∀ i, i < nv → L i ≤ 1048576)
    (hls : -1 ≤ ls ∧ ls < nf) (hrs : -1 ≤ rs ∧ rs < nf) (hz : ∀ j, j < nf → -1 ≤ z j ∧ z j < nv) :
    Calls Try.prog 35 #[.pointer (some ⟨pc, 0, none⟩), .slice none 0 0, .pointer (some ⟨pb, 0, none⟩), .slice av nv cv] w fun e w' =>
      ∃ v, e = .returned v ∧ Buf w w' v (Fst text.data.toList (slots2 ls rs) z W V 2).1 16777216 := by
  have HF : Hid (∀ (W' : World) (sb : Nat), Below w.heap.size w W' → W'.cell? ⟨sb, 0, none⟩ = some (.int .i64 ls) → W'.cell? ⟨sb, 1, none⟩ = some (.int .i64 rs) →
      Calls Try.prog 44 #[.pointer (some ⟨pb, 0, none⟩), .slice none 0 0, .slice av nv cv, .string text, .slice (some ⟨sb, 0, none⟩) 2 2] W' fun e w' =>
        ∃ v, e = .returned v ∧ Buf w w' v (Fst text.data.toList (slots2 ls rs) z W V 2).1 16777216) := by
    intro W' sb hb c0 c1
    refine (failed_any pb sb bf bw av nf nv cf cw cv text (slots2 ls rs) z W A L C V W' ((hb.cell (p := ⟨pb, 1, none⟩) (cell_lt p1)).trans p1) ((hb.cell (p := ⟨pb, 2, none⟩) (cell_lt p2)).trans p2) (hf.below hb) (hw.below hb) (hv.below hb) (fun i hi => (hV i hi).below hb) ?_ ht hnf hnv hW hL ?_ hz).mono ?_
    · intro _
      refine ⟨sb, 0, rfl, fun i hi => ?_⟩
      match i, hi with
      | 0, _ => exact c0
      | 1, _ => exact c1
    · intro k hk
      match k, hk with
      | 0, _ => exact hls
      | 1, _ => exact hrs
    · rintro e w' ⟨v, h1, h2⟩
      exact ⟨v, h1, h2.rebase hb⟩
  clear hf hw hv hV hW hL hz p1 p2
  have hpc : pc < w.heap.size := cell_lt q1
  have q3' : ∀ o, (w.alloc o).cell? ⟨pc, 11, none⟩ = some (.string text) := fun o => (((Below.refl w.heap.size w).alloc (Nat.le_refl _) o).cell (p := ⟨pc, 11, none⟩) hpc).trans q3
  go_enter Try.func35, Try.ntmps35
  go_wp2
  go_region_with (go_at_call 44; refine (HF.out _ w.heap.size ?_ ?_ ?_).mono ?_; exact ((Below.refl _ _).alloc (Nat.le_refl _) _).drew; simp; simp; rintro e w' ⟨v, rfl, hb⟩)
  all_goals
    (try go_wp2)
    go_ret
    exact ⟨_, rfl, hb⟩

theorem explain14 (pb pc : Nat) (bf bw av : Option Addr) (nf nv cf cw cv : Nat) (text : ByteArray) (ls rs : Int) (z : Nat → Int) (W : Nat → ByteArray) (A : Nat → Option Addr) (L C : Nat → Nat) (V : Nat → List UInt8) (w : World)
    (p1 : w.cell? ⟨pb, 1, none⟩ = some (.slice bf nf cf)) (p2 : w.cell? ⟨pb, 2, none⟩ = some (.slice bw nf cw))
    (q1 : w.cell? ⟨pc, 4, none⟩ = some (.int .i64 ls)) (q2 : w.cell? ⟨pc, 9, none⟩ = some (.int .i64 rs)) (q3 : w.cell? ⟨pc, 11, none⟩ = some (.string text))
    (hf : Sl w bf nf (fun i => .int .i64 (z i))) (hw : Sl w bw nf (fun i => .string (W i))) (hv : Sl w av nv (fun i => .slice (A i) (L i) (C i))) (hV : ∀ i, i < nv → Bytes w (A i) (L i) (V i))
    (ht : text.size ≤ 1048576) (hnf : nf ≤ 1048576) (hnv : nv ≤ 1048576) (hW : ∀ i, i < nf → (W i).size ≤ 1048576) (hL : ∀ i, i < nv → L i ≤ 1048576)
    (hls : -1 ≤ ls ∧ ls < nf) (hrs : -1 ≤ rs ∧ rs < nf) (hz : ∀ j, j < nf → -1 ≤ z j ∧ z j < nv) :
    Calls Try.prog 14 #[.pointer (some ⟨pc, 0, none⟩), .slice none 0 0, .pointer (some ⟨pb, 0, none⟩), .slice av nv cv] w fun e w' =>
      ∃ v, e = .returned v ∧ Buf w w' v (Fst text.data.toList (slots2 ls rs) z W V 2).1 16777216 := by
  have H : Hid (Calls Try.prog 35 #[.pointer (some ⟨pc, 0, none⟩), .slice none 0 0, .pointer (some ⟨pb, 0, none⟩), .slice av nv cv] w fun e w' =>
      ∃ v, e = .returned v ∧ Buf w w' v (Fst text.data.toList (slots2 ls rs) z W V 2).1 16777216) :=
    explain35 pb pc bf bw av nf nv cf cw cv text ls rs z W A L C V w p1 p2 q1 q2 q3 hf hw hv hV ht hnf hnv hW hL hls hrs hz
  clear p1 p2 q1 q2 q3 hf hw hv hV ht hnf hnv hW hL hls hrs hz
  go_enter Try.func14, Try.ntmps14
  go_wp2_with fail
  refine H.out.mono ?_
  rintro e w' ⟨v, rfl, hb⟩
  go_wp2
  go_ret
  exact ⟨_, rfl, hb⟩
end Go.Proofs.Qxb6616563a
