/-
  The has laws: what stands in memory behind the members' loop.
-/
import Derived.Test.Qxb6616563aHArgs
namespace Go.Proofs.Qxb6616563a
open Go.RowKit

theorem no21 (w : World) : Calls Try.prog 21 #[] w fun e w' => e = .returned (.slice none 0 0) ∧ w = w' := by
  go_enter Try.func21, Try.ntmps21
  go_wp2
  go_ret
  exact ⟨rfl, rfl⟩

def xnum (h : HArgs) : Option NumT := if h.xk = 0 ∧ h.xn = true then numOf h.X else none
def xval (h : HArgs) : List UInt8 := if 0 ≤ h.xs ∧ 0 ≤ h.z h.xs.toNat then h.V (h.z h.xs.toNat).toNat else h.X
/-- the meaning of x -/
def xD (h : HArgs) : Dsc := ⟨h.xk, xval h, if 0 ≤ h.xs then numOf (xval h) else xnum h⟩
/-- the meaning of the extra member -/
def exD (h : HArgs) : Dsc := if h.xk = 0 then ⟨0, xval h, numOf (xval h)⟩ else ⟨h.xk, [], none⟩

structure XN (h : HArgs) (W : World) (a1 np : Option Addr) : Prop where
  val : Bytes W a1 h.nx h.X
  num : h.xs < 0 → (np = none ∧ xnum h = none) ∨ ∃ q x, np = some ⟨q, 0, none⟩ ∧ xnum h = some x ∧ NumIs W q x
theorem XN.below {h : HArgs} {W W' : World} {a1 np : Option Addr} (i : XN h W a1 np) (hb : Below W.heap.size W W') : XN h W' a1 np := by
  refine ⟨i.val.below hb, fun hs => ?_⟩
  rcases i.num hs with h1 | ⟨q, x, h1, h2, h3⟩
  · exact .inl h1
  · exact .inr ⟨q, x, h1, h2, h3.below hb⟩

/-- the test whether x's number is to be dropped -/
structure T18 (h : HArgs) (w W : World) (ms : Value) (es : List OpE) (n : Nat) (a1 : Option Addr) (q : Nat) (t : Value) : Prop where
  ex : ∃ b, t = .bool b ∧ XN h W a1 (if b = true then none else some ⟨q, 0, none⟩)
  ms : OpsL w.heap.size w W ms es (memDs h n)

def ctxOf (h : HArgs) (pb : Nat) (bf : Option Addr) (cf : Nat) : Ctx := ⟨pb, bf, h.nf, cf, h.z, h.av, h.nv, h.cv, h.A, h.L, h.C, h.V⟩
def exOf (h : HArgs) (a1 np : Option Addr) : OpE := ⟨h.xk, a1, h.nx, h.nx, np, h.xs⟩

theorem x_op {h : HArgs} {W : World} {a1 np : Option Addr} {bx pb cf : Nat} {bf : Option Addr} (hi : HIn h W) (hf : HFit h) (hx : XN h W a1 np) (hc : ∀ j, j < 4 → W.cell? ⟨bx, 0 + j, none⟩ = (cellsE (exOf h a1 np))[j]?) :
    ∃ va vn vc, OpIn (ctxOf h pb bf cf) W bx 0 (exOf h a1 np) (xD h) va vn vc := by
  have hxs := hf.hxs
  have hxk := hf.hxk
  have hx20 := hf.x
  by_cases h1 : h.xs < 0
  · have e1 : xval h = h.X := by unfold xval; rw [if_neg (by omega)]
    refine ⟨a1, h.nx, h.nx, hc 0 (by decide), hc 1 (by decide), hc 2 (by decide), hc 3 (by decide), rfl, hi.xk0, hxk.2, hxk.1, ?_, ⟨Nat.le_refl _, by omega, hx20⟩, .inl ⟨h1, rfl, rfl, rfl⟩, fun h2 => absurd h1 (by show ¬ h.xs < 0; have h3 : 0 ≤ h.xs := h2; omega), fun _ => ?_⟩
    · show Bytes W a1 h.nx (xval h); rw [e1]; exact hx.val
    · have e2 : (xD h).num = xnum h := by show (if 0 ≤ h.xs then _ else _) = _; rw [if_neg (by omega)]
      rw [e2]
      exact hx.num h1
  · obtain ⟨m, hm⟩ := Int.eq_ofNat_of_zero_le (show 0 ≤ h.xs by omega)
    have hmn : m < h.nf := by omega
    have e2 : 0 ≤ h.xs → (xD h).num = numOf (xD h).val := fun h2 => by show (if 0 ≤ h.xs then _ else _) = _; rw [if_pos h2]; rfl
    have hz := hf.fields m hmn
    by_cases hz0 : h.z m < 0
    · have e1 : xval h = h.X := by unfold xval; rw [if_neg (by rw [hm]; simp; omega)]
      refine ⟨a1, h.nx, h.nx, hc 0 (by decide), hc 1 (by decide), hc 2 (by decide), hc 3 (by decide), rfl, hi.xk0, hxk.2, hxk.1, ?_, ⟨Nat.le_refl _, by omega, hx20⟩, .inr (.inl ⟨m, hm, hmn, hz0, rfl, rfl, rfl⟩), e2, fun h2 => absurd h2 h1⟩
      show Bytes W a1 h.nx (xval h); rw [e1]; exact hx.val
    · obtain ⟨f, hfz⟩ := Int.eq_ofNat_of_zero_le (show 0 ≤ h.z m by omega)
      have hfn : f < h.nv := by omega
      have e1 : xval h = h.V f := by unfold xval; rw [if_pos (by rw [hm]; simp; omega), hm]; simp [hfz]
      have hV := hi.V f hfn
      refine ⟨h.A f, h.L f, h.C f, hc 0 (by decide), hc 1 (by decide), hc 2 (by decide), hc 3 (by decide), rfl, hi.xk0, hxk.2, hxk.1, ?_, ⟨hV.2.1, hV.2.2, hf.vals f hfn⟩, .inr (.inr ⟨m, f, hm, hmn, hfz, hfn, rfl, rfl, rfl⟩), e2, fun h2 => absurd h2 h1⟩
      show Bytes W (h.A f) (h.L f) (xval h); rw [e1]; exact hV.1

theorem xdesc_val {h : HArgs} {W : World} {va : Option Addr} {vn vc : Nat} {val : List UInt8} {isN : Bool} (hi : HIn h W) (hf : HFit h)
    (d : XDesc h.nf h.nv h.z h.A h.L h.C h.V h.xk h.ax h.nx h.cx h.X h.xn h.xs va vn vc val isN) : val = xval h ∧ Bytes W va vn (xval h) ∧ vn ≤ 1048576 := by
  have hx20 := hf.x
  rcases d.res with ⟨h1, rfl, rfl, rfl, rfl, _⟩ | ⟨m, hm, hmn, hz0, rfl, rfl, rfl, rfl, _⟩ | ⟨m, f, hm, hmn, hfz, hfn, rfl, rfl, rfl, rfl, _⟩
  · have e1 : xval h = h.X := by unfold xval; rw [if_neg (by omega)]
    rw [e1]
    exact ⟨rfl, hi.x, hx20⟩
  · have e1 : xval h = h.X := by unfold xval; rw [if_neg (by rw [hm]; simp; omega)]
    rw [e1]
    exact ⟨rfl, hi.x, hx20⟩
  · have e1 : xval h = h.V f := by unfold xval; rw [if_pos (by rw [hm]; simp; omega), hm]; simp [hfz]
    rw [e1]
    exact ⟨rfl, (hi.V f hfn).1, hf.vals f hfn⟩

theorem ctx_in {h : HArgs} {W : World} {pb cf : Nat} {bf : Option Addr} (hi : HIn h W) (hf : HFit h) (p1 : W.cell? ⟨pb, 1, none⟩ = some (.slice bf h.nf cf)) (hb : Sl W bf h.nf (fun i => .int .i64 (h.z i))) : CtxIn (ctxOf h pb bf cf) W :=
  ⟨p1, hb, hi.v, fun i hj => ⟨(hi.V i hj).1, (hi.V i hj).2.1, (hi.V i hj).2.2, hf.vals i hj⟩, hf.f, hf.v, hf.fields⟩

structure St (h : HArgs) (c : Ctx) (w W : World) (ms : Value) (es : List OpE) (n bx : Nat) : Prop where
  ms : OpsL w.heap.size w W ms es (memDs h n)
  ctx : CtxIn c W
  x : ∃ e va vn vc, OpIn c W bx 0 e (xD h) va vn vc
  inn : HIn h W
theorem St.after {h : HArgs} {c : Ctx} {w W W' : World} {ms : Value} {es : List OpE} {n bx : Nat} (s : St h c w W ms es n bx) (hb : Below W.heap.size W W') : St h c w W' ms es n bx := by
  obtain ⟨h1, h2, ⟨e, va, vn, vc, h3⟩, h4⟩ := s
  exact ⟨h1.after hb, h2.below hb, ⟨e, va, vn, vc, h3.below hb⟩, h4.below hb⟩

theorem memf_new {W : World} {k : Int} {n : Nat} {l : List UInt8} {num : Option NumT} {a np : Option Addr} (k0 : 0 ≤ k) (k1 : k ≤ 6) (k2 : ¬ k = 1) (hn20 : n ≤ 1048576) (hb : Bytes W a n l) (h36 : N36 W a n)
    (hn : (np = none ∧ num = none) ∨ ∃ q x, np = some ⟨q, 0, none⟩ ∧ num = some x ∧ NumAt W q x a n) :
    Stays (MemF ⟨k, a, n, n, np, -1⟩ ⟨k, l, num⟩) W := by
  intro w' kp
  refine ⟨rfl, k0, k1, k2, rfl, (hb.stays h36) w' kp, ⟨Nat.le_refl _, by show n ≤ _; omega, hn20⟩, ?_⟩
  rcases hn with hn | ⟨q, x, h1, h2, h3⟩
  · exact .inl hn
  · exact .inr ⟨q, x, h1, h2, (h3.stays h36) w' kp⟩

/-- the test whether the extra member's number is to be dropped -/
structure T25 (h : HArgs) (c : Ctx) (w W : World) (ms : Value) (es : List OpE) (n bx : Nat) (a2 : Option Addr) (vn q : Nat) (t : Value) : Prop where
  ex : ∃ b, t = .bool b ∧ Stays (MemF ⟨0, a2, vn, vn, if b = true then none else some ⟨q, 0, none⟩, -1⟩ ⟨0, xval h, numOf (xval h)⟩) W
  st : St h c w W ms es n bx

structure EX (h : HArgs) (W : World) (bE : Nat) (eE : OpE) : Prop where
  cells : ∀ j, j < 5 → W.cell? ⟨bE, j, none⟩ = (cellsE eE)[j]?
  mem : Stays (MemF eE (exD h)) W
theorem EX.after {h : HArgs} {W W' : World} {bE : Nat} {eE : OpE} (x : EX h W bE eE) (hb : Below W.heap.size W W') : EX h W' bE eE := by
  refine ⟨fun j hj => ?_, x.mem.on (Kp.of_below hb)⟩
  rw [hb.cell (p := ⟨bE, j, none⟩) (cell_lt (x.cells 0 (by decide)))]
  exact x.cells j hj

theorem n36_below {W W' : World} {a : Option Addr} {n : Nat} {l : List UInt8} (hb : Bytes W a n l) (h36 : N36 W a n) (k : Below W.heap.size W W') : N36 W' a n := by
  intro ad h1 h2
  obtain ⟨bb, oo, he, hcc⟩ := hb.2 h2
  have hlt' := cell_lt (hcc 0 h2)
  rw [he] at h1
  cases h1
  rw [k.block _ hlt']
  exact h36 _ he h2

abbrev opC (v : Value) : Array Value := #[.int .u8 1, .slice none 0 0, .pointer none, .int .i64 (-1), v]
structure Stage4 (W C : World) (i r m : Value) : Prop where
  below : Below W.heap.size W C
  c1 : C.cell? ⟨W.heap.size + 1, 0 + 4, none⟩ = some i
  c2 : C.cell? ⟨W.heap.size + 1 + 1 + 1, 0 + 4, none⟩ = some r
  c3 : C.cell? ⟨W.heap.size + 1 + 1 + 1 + 1 + 1, 0 + 4, none⟩ = some m
theorem stage4 (W : World) (i r m : Value) : Stage4 W ((((((W.alloc (.cells (opC i) 36)).alloc (.cells (opC i) 36)).alloc (.cells (opC r) 36)).alloc (.cells (opC r) 36)).alloc (.cells (opC m) 36)).alloc (.cells (opC m) 36)) i r m := by
  refine ⟨?_, ?_, ?_, ?_⟩
  · repeat (first | exact Below.refl _ _ | refine below_alloc' ?_ _)
  all_goals go_simp

/-! the plain law -/
theorem hiLo_self (a b : Dsc) (ha : a.k = b.k) (h0 : ¬ a.k = 0) : eqD a b = true := by
  unfold eqD
  rw [if_neg (by omega), if_neg (by omega)]
  unfold hiLo truthD emptyD
  rw [ha]
  by_cases k6 : b.k = 6
  · simp [k6]
  · by_cases k5 : b.k = 5
    · simp [k5]
    · by_cases k4 : b.k = 4
      · simp [k4]
      · simp [k6, k5, k4]

theorem own_law (h : HArgs) : eqD (exD h) (xD h) = true := by
  by_cases h0 : h.xk = 0
  · have e1 : exD h = ⟨0, xval h, numOf (xval h)⟩ := by unfold exD; rw [if_pos h0]
    unfold eqD
    have hk : (exD h).k = 0 ∧ (xD h).k = 0 := ⟨by rw [e1], h0⟩
    rw [if_pos hk, e1]
    unfold eqT
    have hself : eqB (xval h) (xval h) = true := by simp [eqB]
    have hn : (xD h).num = none ∨ (xD h).num = numOf (xval h) := by
      show (if 0 ≤ h.xs then _ else _) = _ ∨ (if 0 ≤ h.xs then _ else _) = _
      by_cases hs : 0 ≤ h.xs
      · rw [if_pos hs]; exact .inr rfl
      · rw [if_neg hs]
        have e2 : xval h = h.X := by unfold xval; rw [if_neg (by omega)]
        unfold xnum
        by_cases hx : h.xk = 0 ∧ h.xn = true
        · rw [if_pos hx, e2]; exact .inr rfl
        · rw [if_neg hx]; exact .inl rfl
    cases hc : numOf (xval h) with
    | none => exact hself
    | some x =>
      rcases hn with hn | hn
      · rw [hn]; exact hself
      · rw [hn, hc]; exact cmp0_self x
  · have e1 : exD h = ⟨h.xk, [], none⟩ := by unfold exD; rw [if_neg h0]
    exact hiLo_self _ _ (by rw [e1]; rfl) (by rw [e1]; exact h0)

theorem take_step (ds : List Dsc) (k : Nat) (hk : k < ds.length) : ds.take (k + 1) = ds.take k ++ [ds.getD k dsc0] := by
  rw [List.take_add_one]
  simp [List.getD_eq_getElem?_getD, hk]
theorem drop_step (ds : List Dsc) (p k : Nat) (hp : p ≤ k) (hk : k < ds.length) : (ds.drop p).take (k + 1 - p) = (ds.drop p).take (k - p) ++ [ds.getD k dsc0] := by
  have e : k + 1 - p = (k - p) + 1 := by omega
  have e2 : p + (k - p) = k := by omega
  rw [e, List.take_add_one]
  simp [List.getD_eq_getElem?_getD, hk, e2]
theorem rev_step (ds : List Dsc) (k : Nat) (hk : k < ds.length) : (ds.drop k).reverse = (ds.drop (k + 1)).reverse ++ [ds.getD k dsc0] := by
  rw [List.drop_eq_getElem_cons hk, List.reverse_cons]
  simp [List.getD_eq_getElem?_getD, hk]

theorem below_step {w0 w w' : World} (h : Below w0.heap.size w0 w) (hb : Below w.heap.size w w') : Below w0.heap.size w0 w' := h.trans (hb.mono h.size)

theorem new10b (a b : Option Addr) (n c m d : Nat) (w : World) :
    Calls Try.prog 10 #[.slice a n c, .slice b m d] w fun e w' => ∃ pb, e = .returned (.pointer (some ⟨pb, 0, none⟩)) ∧ w'.cell? ⟨pb, 1, none⟩ = some (.slice a n c) ∧ Below w.heap.size w w' := by
  refine (new10 a b n c m d w).mono ?_
  rintro e w' ⟨rfl, rfl⟩
  exact ⟨_, rfl, by go_simp, below_alloc' (Below.refl _ _) _⟩

theorem ex_new {h : HArgs} {W : World} {eE : OpE} (hm : Stays (MemF eE (exD h)) W) : EX h (W.alloc (.cells #[.int .u8 eE.k, .slice eE.ta eE.tn eE.tc, .pointer eE.np, .int .i64 eE.s, .slice none 0 0] 36)) W.heap.size eE :=
  ⟨fun j hj => by rw [World.cell?_alloc_new]; simp [cellsE], hm.on (Kp.of_below (below_alloc' (Below.refl _ _) _))⟩

theorem ex_zero {h : HArgs} (W : World) (hf : HFit h) (h0 : 0 ≤ h.xk) (hk : ¬ h.xk = 0) : Stays (MemF ⟨h.xk, none, 0, 0, none, -1⟩ (exD h)) W := by
  unfold exD
  rw [if_neg hk]
  exact memf_new h0 hf.hxk.2 hf.hxk.1 (by decide) ⟨rfl, fun h => absurd h (Nat.lt_irrefl 0)⟩ (fun _ h => by cases h) (.inl ⟨rfl, rfl⟩)

/-- element i of the row -/
structure ElemAt (w : World) (a : Option Addr) (i : Nat) (e : OpE) (d : Dsc) : Prop where
  ex : ∃ g, a = some ⟨g, 0, none⟩ ∧ w.cell? ⟨g, i * 5, none⟩ = some (.int .u8 e.k) ∧ w.cell? ⟨g, i * 5 + 1, none⟩ = some (.slice e.ta e.tn e.tc) ∧ w.cell? ⟨g, i * 5 + 2, none⟩ = some (.pointer e.np) ∧ w.cell? ⟨g, i * 5 + 3, none⟩ = some (.int .i64 e.s) ∧ w.cell? ⟨g, i * 5 + 4, none⟩ = some (.slice none 0 0)
  mem : Stays (MemF e d) w

theorem OpsL.elem {B n c : Nat} {w0 w : World} {a : Option Addr} {es : List OpE} {ds : List Dsc} (h : OpsL B w0 w (.slice a n c) es ds) (i : Nat) (hi : i < es.length) : ∃ e, ElemAt w a i e (ds.getD i dsc0) := by
  obtain ⟨a', c', hv, _, _, hc⟩ := h.shape
  cases hv
  obtain ⟨g, ha, hcell⟩ := hc (by omega)
  exact ⟨es.getD i ope0, ⟨g, ha, hcell i hi 0 (by decide), hcell i hi 1 (by decide), hcell i hi 2 (by decide), hcell i hi 3 (by decide), hcell i hi 4 (by decide)⟩, h.mem i hi⟩

theorem ins_any (ds : List Dsc) (p : Nat) (e d : Dsc) (he : eqD e d = true) : ((ds.take p ++ [e]) ++ ds.drop p).any (eqD · d) = true := by
  simp [he]
theorem rev_any (ds : List Dsc) (d : Dsc) : ds.reverse.any (eqD · d) = ds.any (eqD · d) := by simp
end Go.Proofs.Qxb6616563a
