/- The branches of evalInner's switch that neither enter nor call: what each does. -/
import Derived.Test.YtkhicabfmkldpaaDoorEvA
namespace Go.Proofs.YtkhicabfmkldpaaDoor
open Go.RowKit

theorem Inv.cPc {R : Rig} {s : St} {w : World} (h : Inv R s w) : w.cell? ⟨R.qb, 0, none⟩ = some (.int .i64 s.pc) := by rw [cell_of_row _ _ _ _ _ _ h.pc]; rfl
theorem Inv.fPc {R : Rig} {s : St} {w : World} (h : Inv R s w) : w.frozen? ⟨R.qb, 0, none⟩ = false := frozen_of_row _ _ _ _ _ h.pc
theorem inst1 {w : World} {nb : Nat} {a b : Value} (h : w.heap[nb]? = some (.cells #[a, b] 89 (0, 0))) : w.cell? ⟨nb, 1, none⟩ = some b := by rw [cell_of_row _ _ _ _ _ _ h]; rfl

theorem goOn_mk {R : Rig} {t : Int} {xb fb : Nat} {w w' : World} {r : Regs} {nul : Bool} {s : St} {l : Array Value} (hz : l.size = 419) (h0 : l.getD 0 undef = rdV R) (h2 : l.getD 2 undef = fldI R t)
    (h3 : l.getD 3 undef = .pointer (some ⟨R.qb, 0, none⟩)) (h4 : l.getD 4 undef = bufV R) (h6 : l.getD 6 undef = .pointer (some ⟨xb, 0, none⟩)) (h13 : l.getD 13 undef = .bool nul) (h14 : l.getD 14 undef = .pointer (some ⟨fb, 0, none⟩))
    (h11 : l.getD 11 undef = .nilIface) (hi : Inv R s w') (hl : Loc R w' xb fb r) (hk : KeepsG R fb w w') : After R t xb fb w (.go r nul s) .normal ⟨l, dfr29 xb⟩ w' :=
  ⟨rfl, ⟨⟨hz, rfl, h0, h2, h3, h4, h6, h13, h14⟩, h11, hi, hl, hk⟩⟩

theorem retAt_mk {R : Rig} {t : Int} {xb fb : Nat} {w w' : World} {nul : Bool} {s : St} {l : Array Value} (hz : l.size = 419) (h10 : l.getD 10 undef = .bool nul) (h11 : l.getD 11 undef = .nilIface)
    (hi : Inv R s w') (hb : w'.heap[xb]? = some (.cells #[.pointer (some ⟨R.pb, 0, none⟩)] 66 (0, 0))) (hx : ¬ R.own xb) (hk : KeepsG R fb w w') : After R t xb fb w (.ret nul s) .ret ⟨l, dfr29 xb⟩ w' :=
  ⟨rfl, ⟨hz, rfl, h10, h11, hi, hb, hx, hk⟩⟩

theorem errAt_mk {R : Rig} {t : Int} {xb fb p : Nat} {w w' : World} {s : St} {l : Array Value} {ev : Value} (hz : l.size = 419) (h11 : l.getD 11 undef = ev) (he : IsErr R w' ev)
    (hi : Inv R { s with pos := p } w') (hb : w'.heap[xb]? = some (.cells #[.pointer (some ⟨R.pb, 0, none⟩)] 66 (0, 0))) (hx : ¬ R.own xb) (hk : KeepsG R fb w w') : After R t xb fb w (.err s) .normal ⟨l, dfr29 xb⟩ w' :=
  ⟨rfl, ⟨hz, rfl, ⟨ev, p, h11, he, hi⟩, hb, hx, hk⟩⟩

theorem KeepsG.setCell {R : Rig} {w : World} {fb i : Nat} (hb : R.base ≤ fb) (u : Value) : KeepsG R fb w (w.setCell ⟨fb, i, none⟩ u) :=
  ⟨(Below.refl _ _).setCell hb u, fun b o ho _ hg _ => by rw [Below.heap_setCell _ _ _ _ hg]; exact ho⟩

def regArr (r : Regs) (bv : Value) : Array Value := #[.bool r.b, .int .i32 r.i, .int .i64 r.l, .float .f32 r.f, .float .f64 r.d, bv, .string r.s, .bool r.c]

theorem IsErr.keepG {R : Rig} {w w' : World} {v : Value} {fb : Nat} (h : IsErr R w v) (hk : KeepsG R fb w w') (hne : ∀ cs, w.heap[fb]? ≠ some (.cells cs 98 (0, 0))) : IsErr R w' v := by
  rcases h with h | h | ⟨b, s, e, h1, h2, h3⟩
  · exact .inl h
  · exact .inr (.inl h)
  · exact .inr (.inr ⟨b, s, e, h1, h2, hk.keep _ _ h3 h2 (by rintro rfl; exact hne _ h3) rfl⟩)

/-- A register is written. -/
theorem frame_set {R : Rig} {s : St} {w : World} {xb fb i : Nat} {r r' : Regs} {u : Value} (hR : R.Ok) (h : Inv R s w) (hl : Loc R w xb fb r)
    (hr : ∀ bv, BytesAt R w bv r.y → ∃ bv', (regArr r bv).setIfInBounds i u = regArr r' bv' ∧ BytesAt R w bv' r'.y) :
    Inv R s (w.setCell ⟨fb, i, none⟩ u) ∧ Loc R (w.setCell ⟨fb, i, none⟩ u) xb fb r' ∧ KeepsG R fb w (w.setCell ⟨fb, i, none⟩ u) := by
  obtain ⟨bv, hb, hy⟩ := hl.regs
  have kg : KeepsG R fb w (w.setCell ⟨fb, i, none⟩ u) := KeepsG.setCell hl.fbase u
  have hxf : xb ≠ fb := fun e => by have := hl.box; rw [e, hb] at this; cases this
  refine ⟨h.setOther hR (p := ⟨fb, i, none⟩) (fun b o ho e => by subst e; rw [hb] at ho; cases ho; rfl) hl.fbase hl.fo hl.fi u, ⟨kg.keep _ _ hl.box hl.xo hxf rfl, hl.xo, ?_, hl.fo, hl.fbase, hl.fi⟩, kg⟩
  obtain ⟨bv', e, hy'⟩ := hr bv hy
  refine ⟨bv', ?_, ?_⟩
  · have := blk_set (i := i) u hb
    rw [this]
    exact congrArg (fun z => some (Obj.cells z 102 (0, 0))) e
  · rcases hy' with hz | ⟨g, n, cap, cs, e1, e2, e3, e4, e5, e6⟩
    · exact .inl hz
    · exact .inr ⟨g, n, cap, cs, e1, e2, e3, e4, kg.keep _ _ e5 e4 (fun e => by rw [e, hb] at e5; cases e5) rfl, e6⟩

theorem Loc.cell {R : Rig} {w : World} {xb fb : Nat} {r : Regs} (h : Loc R w xb fb r) :
    w.cell? ⟨fb, 0, none⟩ = some (.bool r.b) ∧ w.cell? ⟨fb, 1, none⟩ = some (.int .i32 r.i) ∧ w.cell? ⟨fb, 2, none⟩ = some (.int .i64 r.l) ∧ w.cell? ⟨fb, 3, none⟩ = some (.float .f32 r.f) ∧
    w.cell? ⟨fb, 4, none⟩ = some (.float .f64 r.d) ∧ (∃ bv, w.cell? ⟨fb, 5, none⟩ = some bv ∧ BytesAt R w bv r.y) ∧ w.cell? ⟨fb, 6, none⟩ = some (.string r.s) ∧ w.cell? ⟨fb, 7, none⟩ = some (.bool r.c) ∧
    ∀ i, w.frozen? ⟨fb, i, none⟩ = false := by
  obtain ⟨bv, hb, hy⟩ := h.regs
  refine ⟨?_, ?_, ?_, ?_, ?_, ⟨bv, ?_, hy⟩, ?_, ?_, fun i => frozen_of_row _ _ _ _ _ hb⟩ <;> (rw [cell_of_row _ _ _ _ _ _ hb]; rfl)

theorem Loc.not98 {R : Rig} {w : World} {xb fb : Nat} {r : Regs} (h : Loc R w xb fb r) : ∀ cs, w.heap[fb]? ≠ some (.cells cs 98 (0, 0)) := by
  obtain ⟨bv, hb, _⟩ := h.regs
  intro cs e
  rw [hb] at e
  cases e

set_option maxRecDepth 1000000 in
set_option maxHeartbeats 4000000 in
theorem op_4 {R : Rig} {s : St} {w : World} {a : Act} {t x : Int} {xb fb nb : Nat} {nul : Bool} {r : Regs} (_hR : R.Ok) (h : Inv R s w) (hl : Loc R w xb fb r) (hf : FrameInv R t xb fb nul a) (h11 : a.tmps.getD 11 undef = .nilIface)
    (h15 : a.tmps.getD 15 undef = .pointer (some ⟨nb, 0, none⟩)) (h69 : a.tmps.getD 69 undef = .int .i64 4) (hn : w.heap[nb]? = some (.cells #[.int .i64 4, .int .i64 x] 89 (0, 0))) :
    Code.wp Tryd.prog sw29 (After R t xb fb w (.go r true s)) a w := by
  obtain ⟨u, rfl⟩ := hf.lits h11 h15 h69
  have c1 := inst1 hn
  clear hf h11 h15 h69
  unfold lit29s
  conv => arg 2; whnf
  go_wp2
  exact goOn_mk rfl rfl rfl rfl rfl rfl rfl rfl rfl h hl (Keeps.refl R w).toG

set_option maxRecDepth 1000000 in
set_option maxHeartbeats 4000000 in
theorem op_9 {R : Rig} {s : St} {w : World} {a : Act} {t x : Int} {xb fb nb : Nat} {nul : Bool} {r : Regs} (_hR : R.Ok) (h : Inv R s w) (hl : Loc R w xb fb r) (hf : FrameInv R t xb fb nul a) (h11 : a.tmps.getD 11 undef = .nilIface)
    (h15 : a.tmps.getD 15 undef = .pointer (some ⟨nb, 0, none⟩)) (h69 : a.tmps.getD 69 undef = .int .i64 9) (hn : w.heap[nb]? = some (.cells #[.int .i64 9, .int .i64 x] 89 (0, 0))) :
    Code.wp Tryd.prog sw29 (After R t xb fb w (.ret false s)) a w := by
  obtain ⟨u, rfl⟩ := hf.lits h11 h15 h69
  have c1 := inst1 hn
  clear hf h11 h15 h69
  unfold lit29s
  conv => arg 2; whnf
  go_wp2
  exact retAt_mk rfl rfl rfl h hl.box hl.xo (Keeps.refl R w).toG

set_option maxRecDepth 1000000 in
set_option maxHeartbeats 4000000 in
theorem op_20 {R : Rig} {s : St} {w : World} {a : Act} {t x : Int} {xb fb nb : Nat} {nul : Bool} {r : Regs} (_hR : R.Ok) (h : Inv R s w) (hl : Loc R w xb fb r) (hf : FrameInv R t xb fb nul a) (h11 : a.tmps.getD 11 undef = .nilIface)
    (h15 : a.tmps.getD 15 undef = .pointer (some ⟨nb, 0, none⟩)) (h69 : a.tmps.getD 69 undef = .int .i64 20) (hn : w.heap[nb]? = some (.cells #[.int .i64 20, .int .i64 x] 89 (0, 0))) :
    Code.wp Tryd.prog sw29 (After R t xb fb w (.ret false s)) a w := by
  obtain ⟨u, rfl⟩ := hf.lits h11 h15 h69
  have c1 := inst1 hn
  clear hf h11 h15 h69
  unfold lit29s
  conv => arg 2; whnf
  go_wp2
  exact retAt_mk rfl rfl rfl h hl.box hl.xo (Keeps.refl R w).toG

set_option maxRecDepth 1000000 in
set_option maxHeartbeats 4000000 in
theorem op_10 {R : Rig} {s : St} {w : World} {a : Act} {t : Int} {xb fb nb : Nat} {nul : Bool} {r : Regs} (_hR : R.Ok) (h : Inv R s w) (hl : Loc R w xb fb r) (hf : FrameInv R t xb fb nul a) (h11 : a.tmps.getD 11 undef = .nilIface)
    (h15 : a.tmps.getD 15 undef = .pointer (some ⟨nb, 0, none⟩)) (h69 : a.tmps.getD 69 undef = .int .i64 10) (hn : w.heap[nb]? = some (.cells #[.int .i64 10, .int .i64 0] 89 (0, 0))) :
    Code.wp Tryd.prog sw29 (After R t xb fb w (.ret false s)) a w := by
  obtain ⟨u, rfl⟩ := hf.lits h11 h15 h69
  have c1 := inst1 hn
  clear hf h11 h15 h69
  unfold lit29s
  conv => arg 2; whnf
  go_wp2
  exact retAt_mk rfl rfl rfl h hl.box hl.xo (Keeps.refl R w).toG

set_option maxRecDepth 1000000 in
set_option maxHeartbeats 4000000 in
theorem op_11 {R : Rig} {s : St} {w : World} {a : Act} {t x : Int} {xb fb nb : Nat} {nul : Bool} {r : Regs} (hR : R.Ok) (h : Inv R s w) (hl : Loc R w xb fb r) (hf : FrameInv R t xb fb nul a) (h11 : a.tmps.getD 11 undef = .nilIface)
    (h15 : a.tmps.getD 15 undef = .pointer (some ⟨nb, 0, none⟩)) (h69 : a.tmps.getD 69 undef = .int .i64 11) (hn : w.heap[nb]? = some (.cells #[.int .i64 11, .int .i64 x] 89 (0, 0))) (hx0 : 0 ≤ x) (hx1 : x ≤ 1000000) :
    Code.wp Tryd.prog sw29 (After R t xb fb w (.go r nul { s with pc := x - 1 })) a w := by
  obtain ⟨u, rfl⟩ := hf.lits h11 h15 h69
  have c1 := inst1 hn
  have q1 := h.cPc
  have q2 := h.fPc
  have i2 := h.setPc hR (x - 1)
  have k2 := (Keeps.refl R w).setCell (p := ⟨R.qb, 0, none⟩) hR.q (.inl (by simp [Rig.own])) (.int .i64 (x - 1))
  have l2 := hl.keep k2
  clear hf h11 h15 h69
  unfold lit29s
  conv => arg 2; whnf
  go_wp2
  exact goOn_mk rfl rfl rfl rfl rfl rfl rfl rfl rfl i2 l2 k2.toG

set_option maxRecDepth 1000000 in
set_option maxHeartbeats 4000000 in
theorem op_14t {R : Rig} {s : St} {w : World} {a : Act} {t x : Int} {xb fb nb : Nat} {nul : Bool} {r : Regs} (hR : R.Ok) (h : Inv R s w) (hl : Loc R w xb fb r) (hf : FrameInv R t xb fb nul a) (h11 : a.tmps.getD 11 undef = .nilIface)
    (h15 : a.tmps.getD 15 undef = .pointer (some ⟨nb, 0, none⟩)) (h69 : a.tmps.getD 69 undef = .int .i64 14) (hn : w.heap[nb]? = some (.cells #[.int .i64 14, .int .i64 x] 89 (0, 0))) (hx0 : 0 ≤ x) (hx1 : x ≤ 1000000) (hc : r.c = true) :
    Code.wp Tryd.prog sw29 (After R t xb fb w (.go r nul { s with pc := x - 1 })) a w := by
  obtain ⟨u, rfl⟩ := hf.lits h11 h15 h69
  have c1 := inst1 hn
  have q1 := h.cPc
  have q2 := h.fPc
  have i2 := h.setPc hR (x - 1)
  have k2 := (Keeps.refl R w).setCell (p := ⟨R.qb, 0, none⟩) hR.q (.inl (by simp [Rig.own])) (.int .i64 (x - 1))
  have l2 := hl.keep k2
  obtain ⟨g0, g1, g2, g3, g4, ⟨bv, g5, gy⟩, g6, g7, gf⟩ := hl.cell
  rw [hc] at g7
  clear hf h11 h15 h69
  unfold lit29s
  conv => arg 2; whnf
  go_wp2
  exact goOn_mk rfl rfl rfl rfl rfl rfl rfl rfl rfl i2 l2 k2.toG

set_option maxRecDepth 1000000 in
set_option maxHeartbeats 4000000 in
theorem op_14f {R : Rig} {s : St} {w : World} {a : Act} {t x : Int} {xb fb nb : Nat} {nul : Bool} {r : Regs} (_hR : R.Ok) (h : Inv R s w) (hl : Loc R w xb fb r) (hf : FrameInv R t xb fb nul a) (h11 : a.tmps.getD 11 undef = .nilIface)
    (h15 : a.tmps.getD 15 undef = .pointer (some ⟨nb, 0, none⟩)) (h69 : a.tmps.getD 69 undef = .int .i64 14) (hn : w.heap[nb]? = some (.cells #[.int .i64 14, .int .i64 x] 89 (0, 0))) (hc : r.c = false) :
    Code.wp Tryd.prog sw29 (After R t xb fb w (.go r nul s)) a w := by
  obtain ⟨u, rfl⟩ := hf.lits h11 h15 h69
  have c1 := inst1 hn
  obtain ⟨g0, g1, g2, g3, g4, ⟨bv, g5, gy⟩, g6, g7, gf⟩ := hl.cell
  rw [hc] at g7
  clear hf h11 h15 h69
  unfold lit29s
  conv => arg 2; whnf
  go_wp2
  exact goOn_mk rfl rfl rfl rfl rfl rfl rfl rfl rfl h hl (Keeps.refl R w).toG

set_option maxRecDepth 1000000 in
set_option maxHeartbeats 4000000 in
theorem op_13 {R : Rig} {s : St} {w : World} {a : Act} {t x : Int} {xb fb nb : Nat} {nul : Bool} {r : Regs} (hR : R.Ok) (h : Inv R s w) (hl : Loc R w xb fb r) (hf : FrameInv R t xb fb nul a) (h11 : a.tmps.getD 11 undef = .nilIface)
    (h15 : a.tmps.getD 15 undef = .pointer (some ⟨nb, 0, none⟩)) (h69 : a.tmps.getD 69 undef = .int .i64 13) (hn : w.heap[nb]? = some (.cells #[.int .i64 13, .int .i64 x] 89 (0, 0))) :
    Code.wp Tryd.prog sw29 (After R t xb fb w (.go { r with c := decide (r.l > x) } nul s)) a w := by
  obtain ⟨u, rfl⟩ := hf.lits h11 h15 h69
  have c1 := inst1 hn
  obtain ⟨g0, g1, g2, g3, g4, ⟨bv, g5, gy⟩, g6, g7, gf⟩ := hl.cell
  have gfi := gf 7
  have fs := frame_set (i := 7) (u := .bool (decide (r.l > x))) (r' := { r with c := decide (r.l > x) }) hR h hl (fun bv hy => ⟨bv, rfl, hy⟩)
  clear gf
  clear hf h11 h15 h69
  unfold lit29s
  conv => arg 2; whnf
  go_wp2
  exact goOn_mk rfl rfl rfl rfl rfl rfl rfl rfl rfl fs.1 fs.2.1 fs.2.2

set_option maxRecDepth 1000000 in
set_option maxHeartbeats 4000000 in
theorem op_12 {R : Rig} {s : St} {w : World} {a : Act} {t x : Int} {xb fb nb : Nat} {nul : Bool} {r : Regs} (hR : R.Ok) (h : Inv R s w) (hl : Loc R w xb fb r) (hf : FrameInv R t xb fb nul a) (h11 : a.tmps.getD 11 undef = .nilIface)
    (h15 : a.tmps.getD 15 undef = .pointer (some ⟨nb, 0, none⟩)) (h69 : a.tmps.getD 69 undef = .int .i64 12) (hn : w.heap[nb]? = some (.cells #[.int .i64 12, .int .i64 x] 89 (0, 0))) :
    Code.wp Tryd.prog sw29 (After R t xb fb w (.go { r with c := (r.l == x) } nul s)) a w := by
  obtain ⟨u, rfl⟩ := hf.lits h11 h15 h69
  have c1 := inst1 hn
  obtain ⟨g0, g1, g2, g3, g4, ⟨bv, g5, gy⟩, g6, g7, gf⟩ := hl.cell
  have gfi := gf 7
  have fs := frame_set (i := 7) (u := .bool (r.l == x)) (r' := { r with c := (r.l == x) }) hR h hl (fun bv hy => ⟨bv, rfl, hy⟩)
  clear gf
  clear hf h11 h15 h69
  unfold lit29s
  conv => arg 2; whnf
  go_wp2
  exact goOn_mk rfl rfl rfl rfl rfl rfl rfl rfl rfl fs.1 fs.2.1 fs.2.2

set_option maxRecDepth 1000000 in
set_option maxHeartbeats 4000000 in
theorem op_16 {R : Rig} {s : St} {w : World} {a : Act} {t x : Int} {xb fb nb : Nat} {nul : Bool} {r : Regs} (hR : R.Ok) (h : Inv R s w) (hl : Loc R w xb fb r) (hf : FrameInv R t xb fb nul a) (h11 : a.tmps.getD 11 undef = .nilIface)
    (h15 : a.tmps.getD 15 undef = .pointer (some ⟨nb, 0, none⟩)) (h69 : a.tmps.getD 69 undef = .int .i64 16) (hn : w.heap[nb]? = some (.cells #[.int .i64 16, .int .i64 x] 89 (0, 0))) :
    Code.wp Tryd.prog sw29 (After R t xb fb w (.go { r with l := wrap64 (r.l + x) } nul s)) a w := by
  obtain ⟨u, rfl⟩ := hf.lits h11 h15 h69
  have c1 := inst1 hn
  obtain ⟨g0, g1, g2, g3, g4, ⟨bv, g5, gy⟩, g6, g7, gf⟩ := hl.cell
  have gfi := gf 2
  have fs := frame_set (i := 2) (u := .int .i64 (wrap64 (r.l + x))) (r' := { r with l := wrap64 (r.l + x) }) hR h hl (fun bv hy => ⟨bv, rfl, hy⟩)
  clear gf
  clear hf h11 h15 h69
  unfold lit29s
  conv => arg 2; whnf
  go_wp2
  exact goOn_mk rfl rfl rfl rfl rfl rfl rfl rfl rfl fs.1 fs.2.1 fs.2.2

set_option maxRecDepth 1000000 in
set_option maxHeartbeats 4000000 in
theorem op_15 {R : Rig} {s : St} {w : World} {a : Act} {t x : Int} {xb fb nb : Nat} {nul : Bool} {r : Regs} (hR : R.Ok) (h : Inv R s w) (hl : Loc R w xb fb r) (hf : FrameInv R t xb fb nul a) (h11 : a.tmps.getD 11 undef = .nilIface)
    (h15 : a.tmps.getD 15 undef = .pointer (some ⟨nb, 0, none⟩)) (h69 : a.tmps.getD 69 undef = .int .i64 15) (hn : w.heap[nb]? = some (.cells #[.int .i64 15, .int .i64 x] 89 (0, 0))) :
    Code.wp Tryd.prog sw29 (After R t xb fb w (.go { r with l := x } nul s)) a w := by
  obtain ⟨u, rfl⟩ := hf.lits h11 h15 h69
  have c1 := inst1 hn
  obtain ⟨g0, g1, g2, g3, g4, ⟨bv, g5, gy⟩, g6, g7, gf⟩ := hl.cell
  have gfi := gf 2
  have fs := frame_set (i := 2) (u := .int .i64 x) (r' := { r with l := x }) hR h hl (fun bv hy => ⟨bv, rfl, hy⟩)
  clear gf
  clear hf h11 h15 h69
  unfold lit29s
  conv => arg 2; whnf
  go_wp2
  exact goOn_mk rfl rfl rfl rfl rfl rfl rfl rfl rfl fs.1 fs.2.1 fs.2.2

set_option maxRecDepth 1000000 in
set_option maxHeartbeats 4000000 in
theorem op_18 {R : Rig} {s : St} {w : World} {a : Act} {t x : Int} {xb fb nb : Nat} {nul : Bool} {r : Regs} (hR : R.Ok) (h : Inv R s w) (hl : Loc R w xb fb r) (hf : FrameInv R t xb fb nul a) (h11 : a.tmps.getD 11 undef = .nilIface)
    (h15 : a.tmps.getD 15 undef = .pointer (some ⟨nb, 0, none⟩)) (h69 : a.tmps.getD 69 undef = .int .i64 18) (hn : w.heap[nb]? = some (.cells #[.int .i64 18, .int .i64 x] 89 (0, 0))) :
    Code.wp Tryd.prog sw29 (After R t xb fb w (.go { r with i := wrap32 x } nul s)) a w := by
  obtain ⟨u, rfl⟩ := hf.lits h11 h15 h69
  have c1 := inst1 hn
  obtain ⟨g0, g1, g2, g3, g4, ⟨bv, g5, gy⟩, g6, g7, gf⟩ := hl.cell
  have gfi := gf 1
  have fs := frame_set (i := 1) (u := .int .i32 (wrap32 x)) (r' := { r with i := wrap32 x }) hR h hl (fun bv hy => ⟨bv, rfl, hy⟩)
  clear gf
  clear hf h11 h15 h69
  unfold lit29s
  conv => arg 2; whnf
  go_wp2
  exact goOn_mk rfl rfl rfl rfl rfl rfl rfl rfl rfl fs.1 fs.2.1 fs.2.2

set_option maxRecDepth 1000000 in
set_option maxHeartbeats 4000000 in
theorem op_17 {R : Rig} {s : St} {w : World} {a : Act} {t x : Int} {xb fb nb : Nat} {nul : Bool} {r : Regs} (hR : R.Ok) (h : Inv R s w) (hl : Loc R w xb fb r) (hf : FrameInv R t xb fb nul a) (h11 : a.tmps.getD 11 undef = .nilIface)
    (h15 : a.tmps.getD 15 undef = .pointer (some ⟨nb, 0, none⟩)) (h69 : a.tmps.getD 69 undef = .int .i64 17) (hn : w.heap[nb]? = some (.cells #[.int .i64 17, .int .i64 x] 89 (0, 0))) :
    Code.wp Tryd.prog sw29 (After R t xb fb w (.go { r with l := wrap64 (r.l * x) } nul s)) a w := by
  obtain ⟨u, rfl⟩ := hf.lits h11 h15 h69
  have c1 := inst1 hn
  obtain ⟨g0, g1, g2, g3, g4, ⟨bv, g5, gy⟩, g6, g7, gf⟩ := hl.cell
  have gfi := gf 2
  have fs := frame_set (i := 2) (u := .int .i64 (wrap64 (r.l * x))) (r' := { r with l := wrap64 (r.l * x) }) hR h hl (fun bv hy => ⟨bv, rfl, hy⟩)
  clear gf
  clear hf h11 h15 h69
  unfold lit29s
  conv => arg 2; whnf
  go_wp2
  exact goOn_mk rfl rfl rfl rfl rfl rfl rfl rfl rfl fs.1 fs.2.1 fs.2.2

set_option maxRecDepth 1000000 in
set_option maxHeartbeats 4000000 in
theorem op_7 {R : Rig} {s : St} {w : World} {a : Act} {t x : Int} {xb fb nb : Nat} {nul : Bool} {r : Regs} (hR : R.Ok) (h : Inv R s w) (hl : Loc R w xb fb r) (hf : FrameInv R t xb fb nul a) (h11 : a.tmps.getD 11 undef = .nilIface)
    (h15 : a.tmps.getD 15 undef = .pointer (some ⟨nb, 0, none⟩)) (h69 : a.tmps.getD 69 undef = .int .i64 7) (hn : w.heap[nb]? = some (.cells #[.int .i64 7, .int .i64 x] 89 (0, 0))) (hfew : s.notes.length < 4194304) :
    Code.wp Tryd.prog sw29 (After R t xb fb w (.go r nul (s.note nameSetDefault x noText t))) a w := by
  obtain ⟨u, rfl⟩ := hf.lits h11 h15 h69
  have c1 := inst1 hn
  have me : ∀ w : World, (method 268 69 (.agg #[.pointer (some ⟨R.nb, 0, none⟩), .int .i64 t]) "SetDefault").run Tryd.prog w = .ok (78, .agg #[.pointer (some ⟨R.nb, 0, none⟩), .int .i64 t]) w := fun _ => by kernel_rfl
  clear hf h11 h15 h69
  unfold lit29s fldI fldV
  conv => arg 2; whnf
  go_wp2_with (go_at_call 78; refine (mSetDefault_any hR h t x hfew).mono ?_; rintro e w1 ⟨rfl, hi1, hk1⟩)
  exact goOn_mk rfl rfl rfl rfl rfl rfl rfl rfl rfl hi1 (hl.keep hk1) hk1.toG

set_option maxRecDepth 1000000 in
set_option maxHeartbeats 4000000 in
theorem op_21 {R : Rig} {s : St} {w : World} {a : Act} {t x : Int} {xb fb nb : Nat} {nul : Bool} {r : Regs} (hR : R.Ok) (h : Inv R s w) (hl : Loc R w xb fb r) (hf : FrameInv R t xb fb nul a) (h11 : a.tmps.getD 11 undef = .nilIface)
    (h15 : a.tmps.getD 15 undef = .pointer (some ⟨nb, 0, none⟩)) (h69 : a.tmps.getD 69 undef = .int .i64 21) (hn : w.heap[nb]? = some (.cells #[.int .i64 21, .int .i64 x] 89 (0, 0))) (hfew : s.notes.length < 4194304) :
    Code.wp Tryd.prog sw29 (After R t xb fb w (.go r nul (s.note nameNullField x noText t))) a w := by
  obtain ⟨u, rfl⟩ := hf.lits h11 h15 h69
  have c1 := inst1 hn
  have me : ∀ w : World, (method 268 69 (.agg #[.pointer (some ⟨R.nb, 0, none⟩), .int .i64 t]) "NullField").run Tryd.prog w = .ok (75, .agg #[.pointer (some ⟨R.nb, 0, none⟩), .int .i64 t]) w := fun _ => by kernel_rfl
  clear hf h11 h15 h69
  unfold lit29s fldI fldV
  conv => arg 2; whnf
  go_wp2_with (go_at_call 75; refine (mNullField_any hR h t x hfew).mono ?_; rintro e w1 ⟨rfl, hi1, hk1⟩)
  exact goOn_mk rfl rfl rfl rfl rfl rfl rfl rfl rfl hi1 (hl.keep hk1) hk1.toG

set_option maxRecDepth 1000000 in
set_option maxHeartbeats 4000000 in
theorem op_3 {R : Rig} {s : St} {w : World} {a : Act} {t x : Int} {xb fb nb : Nat} {nul : Bool} {r : Regs} (hR : R.Ok) (h : Inv R s w) (hl : Loc R w xb fb r) (hf : FrameInv R t xb fb nul a) (h11 : a.tmps.getD 11 undef = .nilIface)
    (h15 : a.tmps.getD 15 undef = .pointer (some ⟨nb, 0, none⟩)) (h69 : a.tmps.getD 69 undef = .int .i64 3) (hn : w.heap[nb]? = some (.cells #[.int .i64 3, .int .i64 x] 89 (0, 0))) (hfew : s.notes.length < 4194304) :
    Code.wp Tryd.prog sw29 (After R t xb fb w (.ret nul (s.note nameFinalize 0 noText t))) a w := by
  obtain ⟨u, rfl⟩ := hf.lits h11 h15 h69
  have c1 := inst1 hn
  have me : ∀ w : World, (method 268 69 (.agg #[.pointer (some ⟨R.nb, 0, none⟩), .int .i64 t]) "Finalize").run Tryd.prog w = .ok (72, .agg #[.pointer (some ⟨R.nb, 0, none⟩), .int .i64 t]) w := fun _ => by kernel_rfl
  clear hf h11 h15 h69
  unfold lit29s fldI fldV
  conv => arg 2; whnf
  go_wp2_with (go_at_call 72; refine (mFinalize_any hR h t  hfew).mono ?_; rintro e w1 ⟨rfl, hi1, hk1⟩)
  exact retAt_mk rfl rfl rfl hi1 (hl.keep hk1).box hl.xo hk1.toG

set_option maxRecDepth 1000000 in
set_option maxHeartbeats 4000000 in
theorem op_22 {R : Rig} {s : St} {w : World} {a : Act} {t x : Int} {xb fb nb : Nat} {nul : Bool} {r : Regs} (hR : R.Ok) (h : Inv R s w) (hl : Loc R w xb fb r) (hf : FrameInv R t xb fb nul a) (h11 : a.tmps.getD 11 undef = .nilIface)
    (h15 : a.tmps.getD 15 undef = .pointer (some ⟨nb, 0, none⟩)) (h69 : a.tmps.getD 69 undef = .int .i64 22) (hn : w.heap[nb]? = some (.cells #[.int .i64 22, .int .i64 x] 89 (0, 0))) (hfew : s.notes.length < 4194304) :
    Code.wp Tryd.prog sw29 (After R t xb fb w (.go r nul (s.note nameHintSize r.l noText t))) a w := by
  obtain ⟨u, rfl⟩ := hf.lits h11 h15 h69
  have c1 := inst1 hn
  obtain ⟨g0, g1, g2, g3, g4, ⟨bv, g5, gy⟩, g6, g7, gf⟩ := hl.cell
  have me : ∀ w : World, (method 268 69 (.agg #[.pointer (some ⟨R.nb, 0, none⟩), .int .i64 t]) "HintSize").run Tryd.prog w = .ok (74, .agg #[.pointer (some ⟨R.nb, 0, none⟩), .int .i64 t]) w := fun _ => by kernel_rfl
  clear hf h11 h15 h69
  unfold lit29s fldI fldV
  conv => arg 2; whnf
  go_wp2_with (go_at_call 74; refine (mHintSize_any hR h t r.l hfew).mono ?_; rintro e w1 ⟨rfl, hi1, hk1⟩)
  exact goOn_mk rfl rfl rfl rfl rfl rfl rfl rfl rfl hi1 (hl.keep hk1) hk1.toG

set_option maxRecDepth 1000000 in
set_option maxHeartbeats 4000000 in
theorem op_1_2 {R : Rig} {s : St} {w : World} {a : Act} {t : Int} {xb fb nb : Nat} {nul : Bool} {r : Regs} (hR : R.Ok) (h : Inv R s w) (hl : Loc R w xb fb r) (hf : FrameInv R t xb fb nul a) (h11 : a.tmps.getD 11 undef = .nilIface)
    (h15 : a.tmps.getD 15 undef = .pointer (some ⟨nb, 0, none⟩)) (h69 : a.tmps.getD 69 undef = .int .i64 1) (hn : w.heap[nb]? = some (.cells #[.int .i64 1, .int .i64 2] 89 (0, 0))) (hfew : s.notes.length < 4194304) :
    Code.wp Tryd.prog sw29 (After R t xb fb w (.go r nul (s.note nameSetBoolean (boolN r.b) noText t))) a w := by
  obtain ⟨u, rfl⟩ := hf.lits h11 h15 h69
  have c1 := inst1 hn
  obtain ⟨g0, g1, g2, g3, g4, ⟨bv, g5, gy⟩, g6, g7, gf⟩ := hl.cell
  have me : ∀ w : World, (method 268 69 (.agg #[.pointer (some ⟨R.nb, 0, none⟩), .int .i64 t]) "SetBoolean").run Tryd.prog w = .ok (76, .agg #[.pointer (some ⟨R.nb, 0, none⟩), .int .i64 t]) w := fun _ => by kernel_rfl
  clear hf h11 h15 h69
  unfold lit29s fldI fldV
  conv => arg 2; whnf
  go_wp2_with (go_at_call 76; refine (mSetBooleanN_any hR h t r.b hfew).mono ?_; rintro e w1 ⟨rfl, hi1, hk1⟩)
  exact goOn_mk rfl rfl rfl rfl rfl rfl rfl rfl rfl hi1 (hl.keep hk1) hk1.toG

set_option maxRecDepth 1000000 in
set_option maxHeartbeats 4000000 in
theorem op_1_3 {R : Rig} {s : St} {w : World} {a : Act} {t : Int} {xb fb nb : Nat} {nul : Bool} {r : Regs} (hR : R.Ok) (h : Inv R s w) (hl : Loc R w xb fb r) (hf : FrameInv R t xb fb nul a) (h11 : a.tmps.getD 11 undef = .nilIface)
    (h15 : a.tmps.getD 15 undef = .pointer (some ⟨nb, 0, none⟩)) (h69 : a.tmps.getD 69 undef = .int .i64 1) (hn : w.heap[nb]? = some (.cells #[.int .i64 1, .int .i64 3] 89 (0, 0))) (hfew : s.notes.length < 4194304) :
    Code.wp Tryd.prog sw29 (After R t xb fb w (.go r nul (s.note nameSetInt (wrap64 r.i) noText t))) a w := by
  obtain ⟨u, rfl⟩ := hf.lits h11 h15 h69
  have c1 := inst1 hn
  obtain ⟨g0, g1, g2, g3, g4, ⟨bv, g5, gy⟩, g6, g7, gf⟩ := hl.cell
  have me : ∀ w : World, (method 268 69 (.agg #[.pointer (some ⟨R.nb, 0, none⟩), .int .i64 t]) "SetInt").run Tryd.prog w = .ok (81, .agg #[.pointer (some ⟨R.nb, 0, none⟩), .int .i64 t]) w := fun _ => by kernel_rfl
  clear hf h11 h15 h69
  unfold lit29s fldI fldV
  conv => arg 2; whnf
  go_wp2_with (go_at_call 81; refine (mSetInt_any hR h t r.i hfew).mono ?_; rintro e w1 ⟨rfl, hi1, hk1⟩)
  exact goOn_mk rfl rfl rfl rfl rfl rfl rfl rfl rfl hi1 (hl.keep hk1) hk1.toG

set_option maxRecDepth 1000000 in
set_option maxHeartbeats 4000000 in
theorem op_1_4 {R : Rig} {s : St} {w : World} {a : Act} {t : Int} {xb fb nb : Nat} {nul : Bool} {r : Regs} (hR : R.Ok) (h : Inv R s w) (hl : Loc R w xb fb r) (hf : FrameInv R t xb fb nul a) (h11 : a.tmps.getD 11 undef = .nilIface)
    (h15 : a.tmps.getD 15 undef = .pointer (some ⟨nb, 0, none⟩)) (h69 : a.tmps.getD 69 undef = .int .i64 1) (hn : w.heap[nb]? = some (.cells #[.int .i64 1, .int .i64 4] 89 (0, 0))) (hfew : s.notes.length < 4194304) :
    Code.wp Tryd.prog sw29 (After R t xb fb w (.go r nul (s.note nameSetLong r.l noText t))) a w := by
  obtain ⟨u, rfl⟩ := hf.lits h11 h15 h69
  have c1 := inst1 hn
  obtain ⟨g0, g1, g2, g3, g4, ⟨bv, g5, gy⟩, g6, g7, gf⟩ := hl.cell
  have me : ∀ w : World, (method 268 69 (.agg #[.pointer (some ⟨R.nb, 0, none⟩), .int .i64 t]) "SetLong").run Tryd.prog w = .ok (82, .agg #[.pointer (some ⟨R.nb, 0, none⟩), .int .i64 t]) w := fun _ => by kernel_rfl
  clear hf h11 h15 h69
  unfold lit29s fldI fldV
  conv => arg 2; whnf
  go_wp2_with (go_at_call 82; refine (mSetLong_any hR h t r.l hfew).mono ?_; rintro e w1 ⟨rfl, hi1, hk1⟩)
  exact goOn_mk rfl rfl rfl rfl rfl rfl rfl rfl rfl hi1 (hl.keep hk1) hk1.toG

set_option maxRecDepth 1000000 in
set_option maxHeartbeats 4000000 in
theorem op_1_5 {R : Rig} {s : St} {w : World} {a : Act} {t : Int} {xb fb nb : Nat} {nul : Bool} {r : Regs} (hR : R.Ok) (h : Inv R s w) (hl : Loc R w xb fb r) (hf : FrameInv R t xb fb nul a) (h11 : a.tmps.getD 11 undef = .nilIface)
    (h15 : a.tmps.getD 15 undef = .pointer (some ⟨nb, 0, none⟩)) (h69 : a.tmps.getD 69 undef = .int .i64 1) (hn : w.heap[nb]? = some (.cells #[.int .i64 1, .int .i64 5] 89 (0, 0))) (hfew : s.notes.length < 4194304) :
    Code.wp Tryd.prog sw29 (After R t xb fb w (.go r nul (s.note nameSetFloat (IntKind.i64.wrap (r.f : Int)) noText t))) a w := by
  obtain ⟨u, rfl⟩ := hf.lits h11 h15 h69
  have c1 := inst1 hn
  obtain ⟨g0, g1, g2, g3, g4, ⟨bv, g5, gy⟩, g6, g7, gf⟩ := hl.cell
  have me : ∀ w : World, (method 268 69 (.agg #[.pointer (some ⟨R.nb, 0, none⟩), .int .i64 t]) "SetFloat").run Tryd.prog w = .ok (80, .agg #[.pointer (some ⟨R.nb, 0, none⟩), .int .i64 t]) w := fun _ => by kernel_rfl
  clear hf h11 h15 h69
  unfold lit29s fldI fldV
  conv => arg 2; whnf
  go_wp2_with (go_at_call 80; refine (mSetFloat_any hR h t r.f hfew).mono ?_; rintro e w1 ⟨rfl, hi1, hk1⟩)
  exact goOn_mk rfl rfl rfl rfl rfl rfl rfl rfl rfl hi1 (hl.keep hk1) hk1.toG

set_option maxRecDepth 1000000 in
set_option maxHeartbeats 4000000 in
theorem op_1_6 {R : Rig} {s : St} {w : World} {a : Act} {t : Int} {xb fb nb : Nat} {nul : Bool} {r : Regs} (hR : R.Ok) (h : Inv R s w) (hl : Loc R w xb fb r) (hf : FrameInv R t xb fb nul a) (h11 : a.tmps.getD 11 undef = .nilIface)
    (h15 : a.tmps.getD 15 undef = .pointer (some ⟨nb, 0, none⟩)) (h69 : a.tmps.getD 69 undef = .int .i64 1) (hn : w.heap[nb]? = some (.cells #[.int .i64 1, .int .i64 6] 89 (0, 0))) (hfew : s.notes.length < 4194304) :
    Code.wp Tryd.prog sw29 (After R t xb fb w (.go r nul (s.note nameSetDouble (IntKind.i64.wrap (r.d : Int)) noText t))) a w := by
  obtain ⟨u, rfl⟩ := hf.lits h11 h15 h69
  have c1 := inst1 hn
  obtain ⟨g0, g1, g2, g3, g4, ⟨bv, g5, gy⟩, g6, g7, gf⟩ := hl.cell
  have me : ∀ w : World, (method 268 69 (.agg #[.pointer (some ⟨R.nb, 0, none⟩), .int .i64 t]) "SetDouble").run Tryd.prog w = .ok (79, .agg #[.pointer (some ⟨R.nb, 0, none⟩), .int .i64 t]) w := fun _ => by kernel_rfl
  clear hf h11 h15 h69
  unfold lit29s fldI fldV
  conv => arg 2; whnf
  go_wp2_with (go_at_call 79; refine (mSetDouble_any hR h t r.d hfew).mono ?_; rintro e w1 ⟨rfl, hi1, hk1⟩)
  exact goOn_mk rfl rfl rfl rfl rfl rfl rfl rfl rfl hi1 (hl.keep hk1) hk1.toG

set_option maxRecDepth 1000000 in
set_option maxHeartbeats 4000000 in
theorem op_1_7 {R : Rig} {s : St} {w : World} {a : Act} {t : Int} {xb fb nb : Nat} {nul : Bool} {r : Regs} (hR : R.Ok) (h : Inv R s w) (hl : Loc R w xb fb r) (hf : FrameInv R t xb fb nul a) (h11 : a.tmps.getD 11 undef = .nilIface)
    (h15 : a.tmps.getD 15 undef = .pointer (some ⟨nb, 0, none⟩)) (h69 : a.tmps.getD 69 undef = .int .i64 1) (hn : w.heap[nb]? = some (.cells #[.int .i64 1, .int .i64 7] 89 (0, 0))) (hfew : s.notes.length < 4194304) :
    Code.wp Tryd.prog sw29 (After R t xb fb w (.go r nul (s.note nameSetBytes 0 (strOfNums r.y) t))) a w := by
  obtain ⟨u, rfl⟩ := hf.lits h11 h15 h69
  have c1 := inst1 hn
  obtain ⟨g0, g1, g2, g3, g4, ⟨bv, g5, gy⟩, g6, g7, gf⟩ := hl.cell
  have me : ∀ w : World, (method 268 69 (.agg #[.pointer (some ⟨R.nb, 0, none⟩), .int .i64 t]) "SetBytes").run Tryd.prog w = .ok (77, .agg #[.pointer (some ⟨R.nb, 0, none⟩), .int .i64 t]) w := fun _ => by kernel_rfl
  clear hf h11 h15 h69
  unfold lit29s fldI fldV
  conv => arg 2; whnf
  go_wp2_with (go_at_call 77; refine (mSetBytes_any hR h t bv r.y gy hfew).mono ?_; rintro e w1 ⟨rfl, hi1, hk1⟩)
  exact goOn_mk rfl rfl rfl rfl rfl rfl rfl rfl rfl hi1 (hl.keep hk1) hk1.toG

set_option maxRecDepth 1000000 in
set_option maxHeartbeats 4000000 in
theorem op_1_8 {R : Rig} {s : St} {w : World} {a : Act} {t : Int} {xb fb nb : Nat} {nul : Bool} {r : Regs} (hR : R.Ok) (h : Inv R s w) (hl : Loc R w xb fb r) (hf : FrameInv R t xb fb nul a) (h11 : a.tmps.getD 11 undef = .nilIface)
    (h15 : a.tmps.getD 15 undef = .pointer (some ⟨nb, 0, none⟩)) (h69 : a.tmps.getD 69 undef = .int .i64 1) (hn : w.heap[nb]? = some (.cells #[.int .i64 1, .int .i64 8] 89 (0, 0))) (hfew : s.notes.length < 4194304) :
    Code.wp Tryd.prog sw29 (After R t xb fb w (.go r nul (s.note nameSetString 0 r.s t))) a w := by
  obtain ⟨u, rfl⟩ := hf.lits h11 h15 h69
  have c1 := inst1 hn
  obtain ⟨g0, g1, g2, g3, g4, ⟨bv, g5, gy⟩, g6, g7, gf⟩ := hl.cell
  have me : ∀ w : World, (method 268 69 (.agg #[.pointer (some ⟨R.nb, 0, none⟩), .int .i64 t]) "SetString").run Tryd.prog w = .ok (83, .agg #[.pointer (some ⟨R.nb, 0, none⟩), .int .i64 t]) w := fun _ => by kernel_rfl
  clear hf h11 h15 h69
  unfold lit29s fldI fldV
  conv => arg 2; whnf
  go_wp2_with (go_at_call 83; refine (mSetString_any hR h t r.s hfew).mono ?_; rintro e w1 ⟨rfl, hi1, hk1⟩)
  exact goOn_mk rfl rfl rfl rfl rfl rfl rfl rfl rfl hi1 (hl.keep hk1) hk1.toG

set_option maxRecDepth 1000000 in
set_option maxHeartbeats 4000000 in
theorem op_1_1 {R : Rig} {s : St} {w : World} {a : Act} {t : Int} {xb fb nb : Nat} {nul : Bool} {r : Regs} (_hR : R.Ok) (h : Inv R s w) (hl : Loc R w xb fb r) (hf : FrameInv R t xb fb nul a) (h11 : a.tmps.getD 11 undef = .nilIface)
    (h15 : a.tmps.getD 15 undef = .pointer (some ⟨nb, 0, none⟩)) (h69 : a.tmps.getD 69 undef = .int .i64 1) (hn : w.heap[nb]? = some (.cells #[.int .i64 1, .int .i64 1] 89 (0, 0))) :
    Code.wp Tryd.prog sw29 (After R t xb fb w (.go r nul s)) a w := by
  obtain ⟨u, rfl⟩ := hf.lits h11 h15 h69
  have c1 := inst1 hn
  clear hf h11 h15 h69
  unfold lit29s
  conv => arg 2; whnf
  go_wp2
  exact goOn_mk rfl rfl rfl rfl rfl rfl rfl rfl rfl h hl (Keeps.refl R w).toG

set_option maxRecDepth 1000000 in
set_option maxHeartbeats 4000000 in
theorem op_1_o {R : Rig} {s : St} {w : World} {a : Act} {t x : Int} {xb fb nb : Nat} {nul : Bool} {r : Regs} (_hR : R.Ok) (h : Inv R s w) (hl : Loc R w xb fb r) (hf : FrameInv R t xb fb nul a) (h11 : a.tmps.getD 11 undef = .nilIface)
    (h15 : a.tmps.getD 15 undef = .pointer (some ⟨nb, 0, none⟩)) (h69 : a.tmps.getD 69 undef = .int .i64 1) (hn : w.heap[nb]? = some (.cells #[.int .i64 1, .int .i64 x] 89 (0, 0))) (k1 : (x == 1) = false) (k2 : (x == 2) = false) (k3 : (x == 3) = false) (k4 : (x == 4) = false) (k5 : (x == 5) = false) (k6 : (x == 6) = false) (k7 : (x == 7) = false) (k8 : (x == 8) = false) :
    Code.wp Tryd.prog sw29 (After R t xb fb w (.go r nul s)) a w := by
  obtain ⟨u, rfl⟩ := hf.lits h11 h15 h69
  have c1 := inst1 hn
  clear hf h11 h15 h69
  unfold lit29s
  conv => arg 2; whnf
  go_wp2
  exact goOn_mk rfl rfl rfl rfl rfl rfl rfl rfl rfl h hl (Keeps.refl R w).toG

end Go.Proofs.YtkhicabfmkldpaaDoor
