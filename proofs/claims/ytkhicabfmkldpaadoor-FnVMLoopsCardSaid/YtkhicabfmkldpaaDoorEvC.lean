/- The branches of evalInner's switch that read. -/
import Derived.Test.YtkhicabfmkldpaaDoorEvB
namespace Go.Proofs.YtkhicabfmkldpaaDoor
open Go.RowKit

theorem store_float (a : Addr) (k : FloatKind) (n : Nat) (w : World) : (store a (.float k n)).run Tryd.prog w = stored Tryd.prog w a (.float k n) .plain := run_store Tryd.prog w a _ .plain rfl

theorem BytesAt.slice {R : Rig} {w : World} {v : Value} {l : List Int} (h : BytesAt R w v l) : ∃ p n c, v = .slice p n c := by
  rcases h with ⟨rfl, _⟩ | ⟨g, n, cap, cs, rfl, _⟩
  · exact ⟨_, _, _, rfl⟩
  · exact ⟨_, _, _, rfl⟩

set_option maxRecDepth 1000000 in
set_option maxHeartbeats 4000000 in
theorem op_0_1 {R : Rig} {s : St} {w : World} {a : Act} {t : Int} {xb fb nb : Nat} {nul : Bool} {r : Regs} (_hR : R.Ok) (h : Inv R s w) (hl : Loc R w xb fb r) (hf : FrameInv R t xb fb nul a) (h11 : a.tmps.getD 11 undef = .nilIface)
    (h15 : a.tmps.getD 15 undef = .pointer (some ⟨nb, 0, none⟩)) (h69 : a.tmps.getD 69 undef = .int .i64 0) (hn : w.heap[nb]? = some (.cells #[.int .i64 0, .int .i64 1] 89 (0, 0))) :
    Code.wp Tryd.prog sw29 (After R t xb fb w (.go r nul s)) a w := by
  obtain ⟨u, rfl⟩ := hf.lits h11 h15 h69
  have c1 := inst1 hn
  clear hf h11 h15 h69
  unfold lit29s
  conv => arg 2; whnf
  go_wp2
  exact goOn_mk rfl rfl rfl rfl rfl rfl rfl rfl rfl h hl (Keeps.refl R w).toG

set_option maxRecDepth 1000000 in
set_option maxHeartbeats 4000000 in
theorem op_0_3 {R : Rig} {s : St} {w : World} {a : Act} {t : Int} {xb fb nb : Nat} {nul : Bool} {r : Regs} (hR : R.Ok) (h : Inv R s w) (hl : Loc R w xb fb r) (hf : FrameInv R t xb fb nul a) (h11 : a.tmps.getD 11 undef = .nilIface)
    (h15 : a.tmps.getD 15 undef = .pointer (some ⟨nb, 0, none⟩)) (h69 : a.tmps.getD 69 undef = .int .i64 0) (hn : w.heap[nb]? = some (.cells #[.int .i64 0, .int .i64 3] 89 (0, 0)))  {v : Int} {p : Nat} (hrd : rdInt R.data s.pos = some (v, p)) :
    Code.wp Tryd.prog sw29 (After R t xb fb w (.go { r with i := v } nul { s with pos := p })) a w := by
  obtain ⟨u, rfl⟩ := hf.lits h11 h15 h69
  have c1 := inst1 hn
  have C := readInt_any hR h (bufV R)
  unfold IntPost at C
  rw [hrd] at C
  dsimp only at C
  clear hf h11 h15 h69
  unfold lit29s rdV bufV
  conv => arg 2; whnf
  go_wp2_with (go_at_call 37; refine C.mono ?_; rintro e w1 ⟨rfl, hi1, hk1⟩; have l1 := hl.keep hk1; obtain ⟨g0, g1, g2, g3, g4, ⟨bv, g5, gy⟩, g6, g7, gf⟩ := l1.cell; have gfi := gf 1; clear gf)
  have fs := frame_set (i := 1) (u := .int .i32 v) (r' := { r with i := v }) hR hi1 l1 (fun bv hy => ⟨bv, rfl, hy⟩)
  exact goOn_mk rfl rfl rfl rfl rfl rfl rfl rfl rfl fs.1 fs.2.1 (hk1.toG.trans fs.2.2)

set_option maxRecDepth 1000000 in
set_option maxHeartbeats 4000000 in
theorem op_0_3e {R : Rig} {s : St} {w : World} {a : Act} {t : Int} {xb fb nb : Nat} {nul : Bool} {r : Regs} (hR : R.Ok) (h : Inv R s w) (hl : Loc R w xb fb r) (hf : FrameInv R t xb fb nul a) (h11 : a.tmps.getD 11 undef = .nilIface)
    (h15 : a.tmps.getD 15 undef = .pointer (some ⟨nb, 0, none⟩)) (h69 : a.tmps.getD 69 undef = .int .i64 0) (hn : w.heap[nb]? = some (.cells #[.int .i64 0, .int .i64 3] 89 (0, 0)))  (hrd : rdInt R.data s.pos = none) :
    Code.wp Tryd.prog sw29 (After R t xb fb w (.err s)) a w := by
  obtain ⟨u, rfl⟩ := hf.lits h11 h15 h69
  have c1 := inst1 hn
  have C := readInt_any hR h (bufV R)
  unfold IntPost at C
  rw [hrd] at C
  dsimp only at C
  clear hf h11 h15 h69
  unfold lit29s rdV bufV
  conv => arg 2; whnf
  go_wp2_with (go_at_call 37; refine C.mono ?_; rintro e w1 ⟨p, ev, rfl, hx, hi1, hk1⟩; obtain ⟨et, ex, rfl⟩ := hx.form; have l1 := hl.keep hk1; obtain ⟨g0, g1, g2, g3, g4, ⟨bv, g5, gy⟩, g6, g7, gf⟩ := l1.cell; have gfi := gf 1; clear gf)
  have fs := frame_set (i := 1) (u := .int .i32 0) (r' := { r with i := 0 }) hR hi1 l1 (fun bv _ => ⟨bv, rfl, by assumption⟩)
  exact errAt_mk rfl rfl (hx.keepG fs.2.2 l1.not98) fs.1 fs.2.1.box hl.xo (hk1.toG.trans fs.2.2)

set_option maxRecDepth 1000000 in
set_option maxHeartbeats 4000000 in
theorem op_0_4 {R : Rig} {s : St} {w : World} {a : Act} {t : Int} {xb fb nb : Nat} {nul : Bool} {r : Regs} (hR : R.Ok) (h : Inv R s w) (hl : Loc R w xb fb r) (hf : FrameInv R t xb fb nul a) (h11 : a.tmps.getD 11 undef = .nilIface)
    (h15 : a.tmps.getD 15 undef = .pointer (some ⟨nb, 0, none⟩)) (h69 : a.tmps.getD 69 undef = .int .i64 0) (hn : w.heap[nb]? = some (.cells #[.int .i64 0, .int .i64 4] 89 (0, 0)))  {v : Int} {p : Nat} (hrd : rdLong R.data s.pos = some (v, p)) :
    Code.wp Tryd.prog sw29 (After R t xb fb w (.go { r with l := v } nul { s with pos := p })) a w := by
  obtain ⟨u, rfl⟩ := hf.lits h11 h15 h69
  have c1 := inst1 hn
  have C := readLong_any hR h (bufV R)
  unfold LongPost at C
  rw [hrd] at C
  dsimp only at C
  clear hf h11 h15 h69
  unfold lit29s rdV bufV
  conv => arg 2; whnf
  go_wp2_with (go_at_call 38; refine C.mono ?_; rintro e w1 ⟨rfl, hi1, hk1⟩; have l1 := hl.keep hk1; obtain ⟨g0, g1, g2, g3, g4, ⟨bv, g5, gy⟩, g6, g7, gf⟩ := l1.cell; have gfi := gf 2; clear gf)
  have fs := frame_set (i := 2) (u := .int .i64 v) (r' := { r with l := v }) hR hi1 l1 (fun bv hy => ⟨bv, rfl, hy⟩)
  exact goOn_mk rfl rfl rfl rfl rfl rfl rfl rfl rfl fs.1 fs.2.1 (hk1.toG.trans fs.2.2)

set_option maxRecDepth 1000000 in
set_option maxHeartbeats 4000000 in
theorem op_0_4e {R : Rig} {s : St} {w : World} {a : Act} {t : Int} {xb fb nb : Nat} {nul : Bool} {r : Regs} (hR : R.Ok) (h : Inv R s w) (hl : Loc R w xb fb r) (hf : FrameInv R t xb fb nul a) (h11 : a.tmps.getD 11 undef = .nilIface)
    (h15 : a.tmps.getD 15 undef = .pointer (some ⟨nb, 0, none⟩)) (h69 : a.tmps.getD 69 undef = .int .i64 0) (hn : w.heap[nb]? = some (.cells #[.int .i64 0, .int .i64 4] 89 (0, 0)))  (hrd : rdLong R.data s.pos = none) :
    Code.wp Tryd.prog sw29 (After R t xb fb w (.err s)) a w := by
  obtain ⟨u, rfl⟩ := hf.lits h11 h15 h69
  have c1 := inst1 hn
  have C := readLong_any hR h (bufV R)
  unfold LongPost at C
  rw [hrd] at C
  dsimp only at C
  clear hf h11 h15 h69
  unfold lit29s rdV bufV
  conv => arg 2; whnf
  go_wp2_with (go_at_call 38; refine C.mono ?_; rintro e w1 ⟨p, ev, rfl, hx, hi1, hk1⟩; obtain ⟨et, ex, rfl⟩ := hx.form; have l1 := hl.keep hk1; obtain ⟨g0, g1, g2, g3, g4, ⟨bv, g5, gy⟩, g6, g7, gf⟩ := l1.cell; have gfi := gf 2; clear gf)
  have fs := frame_set (i := 2) (u := .int .i64 0) (r' := { r with l := 0 }) hR hi1 l1 (fun bv _ => ⟨bv, rfl, by assumption⟩)
  exact errAt_mk rfl rfl (hx.keepG fs.2.2 l1.not98) fs.1 fs.2.1.box hl.xo (hk1.toG.trans fs.2.2)

set_option maxRecDepth 1000000 in
set_option maxHeartbeats 4000000 in
theorem op_0_10 {R : Rig} {s : St} {w : World} {a : Act} {t : Int} {xb fb nb : Nat} {nul : Bool} {r : Regs} (hR : R.Ok) (h : Inv R s w) (hl : Loc R w xb fb r) (hf : FrameInv R t xb fb nul a) (h11 : a.tmps.getD 11 undef = .nilIface)
    (h15 : a.tmps.getD 15 undef = .pointer (some ⟨nb, 0, none⟩)) (h69 : a.tmps.getD 69 undef = .int .i64 0) (hn : w.heap[nb]? = some (.cells #[.int .i64 0, .int .i64 10] 89 (0, 0)))  {v : Int} {p : Nat} (hrd : rdLong R.data s.pos = some (v, p)) :
    Code.wp Tryd.prog sw29 (After R t xb fb w (.go r nul { s with pos := p })) a w := by
  obtain ⟨u, rfl⟩ := hf.lits h11 h15 h69
  have c1 := inst1 hn
  have C := readLong_any hR h (bufV R)
  unfold LongPost at C
  rw [hrd] at C
  dsimp only at C
  clear hf h11 h15 h69
  unfold lit29s rdV bufV
  conv => arg 2; whnf
  go_wp2_with (go_at_call 38; refine C.mono ?_; rintro e w1 ⟨rfl, hi1, hk1⟩)
  exact goOn_mk rfl rfl rfl rfl rfl rfl rfl rfl rfl hi1 (hl.keep hk1) hk1.toG

set_option maxRecDepth 1000000 in
set_option maxHeartbeats 4000000 in
theorem op_0_10e {R : Rig} {s : St} {w : World} {a : Act} {t : Int} {xb fb nb : Nat} {nul : Bool} {r : Regs} (hR : R.Ok) (h : Inv R s w) (hl : Loc R w xb fb r) (hf : FrameInv R t xb fb nul a) (h11 : a.tmps.getD 11 undef = .nilIface)
    (h15 : a.tmps.getD 15 undef = .pointer (some ⟨nb, 0, none⟩)) (h69 : a.tmps.getD 69 undef = .int .i64 0) (hn : w.heap[nb]? = some (.cells #[.int .i64 0, .int .i64 10] 89 (0, 0)))  (hrd : rdLong R.data s.pos = none) :
    Code.wp Tryd.prog sw29 (After R t xb fb w (.err s)) a w := by
  obtain ⟨u, rfl⟩ := hf.lits h11 h15 h69
  have c1 := inst1 hn
  have C := readLong_any hR h (bufV R)
  unfold LongPost at C
  rw [hrd] at C
  dsimp only at C
  clear hf h11 h15 h69
  unfold lit29s rdV bufV
  conv => arg 2; whnf
  go_wp2_with (go_at_call 38; refine C.mono ?_; rintro e w1 ⟨p, ev, rfl, hx, hi1, hk1⟩; obtain ⟨et, ex, rfl⟩ := hx.form)
  exact errAt_mk rfl rfl hx hi1 (hl.keep hk1).box hl.xo hk1.toG

set_option maxRecDepth 1000000 in
set_option maxHeartbeats 4000000 in
theorem op_0_5 {R : Rig} {s : St} {w : World} {a : Act} {t : Int} {xb fb nb : Nat} {nul : Bool} {r : Regs} (hR : R.Ok) (h : Inv R s w) (hl : Loc R w xb fb r) (hf : FrameInv R t xb fb nul a) (h11 : a.tmps.getD 11 undef = .nilIface)
    (h15 : a.tmps.getD 15 undef = .pointer (some ⟨nb, 0, none⟩)) (h69 : a.tmps.getD 69 undef = .int .i64 0) (hn : w.heap[nb]? = some (.cells #[.int .i64 0, .int .i64 5] 89 (0, 0)))  {v : Nat} {p : Nat} (hrd : rdFloat R.data s.pos = some (v, p)) :
    Code.wp Tryd.prog sw29 (After R t xb fb w (.go { r with f := v } nul { s with pos := p })) a w := by
  obtain ⟨u, rfl⟩ := hf.lits h11 h15 h69
  have c1 := inst1 hn
  have sf := store_float
  have C := readFloat_any hR h
  unfold FloatPost at C
  rw [hrd] at C
  dsimp only at C
  clear hf h11 h15 h69
  unfold lit29s rdV bufV
  conv => arg 2; whnf
  go_wp2_with (go_at_call 39; refine C.mono ?_; rintro e w1 ⟨rfl, hi1, hk1⟩; have l1 := hl.keep hk1; obtain ⟨g0, g1, g2, g3, g4, ⟨bv, g5, gy⟩, g6, g7, gf⟩ := l1.cell; have gfi := gf 3; clear gf)
  have fs := frame_set (i := 3) (u := .float .f32 v) (r' := { r with f := v }) hR hi1 l1 (fun bv hy => ⟨bv, rfl, hy⟩)
  exact goOn_mk rfl rfl rfl rfl rfl rfl rfl rfl rfl fs.1 fs.2.1 (hk1.toG.trans fs.2.2)

set_option maxRecDepth 1000000 in
set_option maxHeartbeats 4000000 in
theorem op_0_5e {R : Rig} {s : St} {w : World} {a : Act} {t : Int} {xb fb nb : Nat} {nul : Bool} {r : Regs} (hR : R.Ok) (h : Inv R s w) (hl : Loc R w xb fb r) (hf : FrameInv R t xb fb nul a) (h11 : a.tmps.getD 11 undef = .nilIface)
    (h15 : a.tmps.getD 15 undef = .pointer (some ⟨nb, 0, none⟩)) (h69 : a.tmps.getD 69 undef = .int .i64 0) (hn : w.heap[nb]? = some (.cells #[.int .i64 0, .int .i64 5] 89 (0, 0)))  (hrd : rdFloat R.data s.pos = none) :
    Code.wp Tryd.prog sw29 (After R t xb fb w (.err s)) a w := by
  obtain ⟨u, rfl⟩ := hf.lits h11 h15 h69
  have c1 := inst1 hn
  have sf := store_float
  have C := readFloat_any hR h
  unfold FloatPost at C
  rw [hrd] at C
  dsimp only at C
  clear hf h11 h15 h69
  unfold lit29s rdV bufV
  conv => arg 2; whnf
  go_wp2_with (go_at_call 39; refine C.mono ?_; rintro e w1 ⟨p, ev, rfl, hx, hi1, hk1⟩; obtain ⟨et, ex, rfl⟩ := hx.form; have l1 := hl.keep hk1; obtain ⟨g0, g1, g2, g3, g4, ⟨bv, g5, gy⟩, g6, g7, gf⟩ := l1.cell; have gfi := gf 3; clear gf)
  have fs := frame_set (i := 3) (u := .float .f32 0) (r' := { r with f := 0 }) hR hi1 l1 (fun bv _ => ⟨bv, rfl, by assumption⟩)
  exact errAt_mk rfl rfl (hx.keepG fs.2.2 l1.not98) fs.1 fs.2.1.box hl.xo (hk1.toG.trans fs.2.2)

set_option maxRecDepth 1000000 in
set_option maxHeartbeats 4000000 in
theorem op_0_6 {R : Rig} {s : St} {w : World} {a : Act} {t : Int} {xb fb nb : Nat} {nul : Bool} {r : Regs} (hR : R.Ok) (h : Inv R s w) (hl : Loc R w xb fb r) (hf : FrameInv R t xb fb nul a) (h11 : a.tmps.getD 11 undef = .nilIface)
    (h15 : a.tmps.getD 15 undef = .pointer (some ⟨nb, 0, none⟩)) (h69 : a.tmps.getD 69 undef = .int .i64 0) (hn : w.heap[nb]? = some (.cells #[.int .i64 0, .int .i64 6] 89 (0, 0)))  {v : Nat} {p : Nat} (hrd : rdDouble R.data s.pos = some (v, p)) :
    Code.wp Tryd.prog sw29 (After R t xb fb w (.go { r with d := v } nul { s with pos := p })) a w := by
  obtain ⟨u, rfl⟩ := hf.lits h11 h15 h69
  have c1 := inst1 hn
  have sf := store_float
  have C := readDouble_any hR h
  unfold DoublePost at C
  rw [hrd] at C
  dsimp only at C
  clear hf h11 h15 h69
  unfold lit29s rdV bufV
  conv => arg 2; whnf
  go_wp2_with (go_at_call 40; refine C.mono ?_; rintro e w1 ⟨rfl, hi1, hk1⟩; have l1 := hl.keep hk1; obtain ⟨g0, g1, g2, g3, g4, ⟨bv, g5, gy⟩, g6, g7, gf⟩ := l1.cell; have gfi := gf 4; clear gf)
  have fs := frame_set (i := 4) (u := .float .f64 v) (r' := { r with d := v }) hR hi1 l1 (fun bv hy => ⟨bv, rfl, hy⟩)
  exact goOn_mk rfl rfl rfl rfl rfl rfl rfl rfl rfl fs.1 fs.2.1 (hk1.toG.trans fs.2.2)

set_option maxRecDepth 1000000 in
set_option maxHeartbeats 4000000 in
theorem op_0_6e {R : Rig} {s : St} {w : World} {a : Act} {t : Int} {xb fb nb : Nat} {nul : Bool} {r : Regs} (hR : R.Ok) (h : Inv R s w) (hl : Loc R w xb fb r) (hf : FrameInv R t xb fb nul a) (h11 : a.tmps.getD 11 undef = .nilIface)
    (h15 : a.tmps.getD 15 undef = .pointer (some ⟨nb, 0, none⟩)) (h69 : a.tmps.getD 69 undef = .int .i64 0) (hn : w.heap[nb]? = some (.cells #[.int .i64 0, .int .i64 6] 89 (0, 0)))  (hrd : rdDouble R.data s.pos = none) :
    Code.wp Tryd.prog sw29 (After R t xb fb w (.err s)) a w := by
  obtain ⟨u, rfl⟩ := hf.lits h11 h15 h69
  have c1 := inst1 hn
  have sf := store_float
  have C := readDouble_any hR h
  unfold DoublePost at C
  rw [hrd] at C
  dsimp only at C
  clear hf h11 h15 h69
  unfold lit29s rdV bufV
  conv => arg 2; whnf
  go_wp2_with (go_at_call 40; refine C.mono ?_; rintro e w1 ⟨p, ev, rfl, hx, hi1, hk1⟩; obtain ⟨et, ex, rfl⟩ := hx.form; have l1 := hl.keep hk1; obtain ⟨g0, g1, g2, g3, g4, ⟨bv, g5, gy⟩, g6, g7, gf⟩ := l1.cell; have gfi := gf 4; clear gf)
  have fs := frame_set (i := 4) (u := .float .f64 0) (r' := { r with d := 0 }) hR hi1 l1 (fun bv _ => ⟨bv, rfl, by assumption⟩)
  exact errAt_mk rfl rfl (hx.keepG fs.2.2 l1.not98) fs.1 fs.2.1.box hl.xo (hk1.toG.trans fs.2.2)

set_option maxRecDepth 1000000 in
set_option maxHeartbeats 4000000 in
theorem op_0_7 {R : Rig} {s : St} {w : World} {a : Act} {t : Int} {xb fb nb : Nat} {nul : Bool} {r : Regs} (hR : R.Ok) (h : Inv R s w) (hl : Loc R w xb fb r) (hf : FrameInv R t xb fb nul a) (h11 : a.tmps.getD 11 undef = .nilIface)
    (h15 : a.tmps.getD 15 undef = .pointer (some ⟨nb, 0, none⟩)) (h69 : a.tmps.getD 69 undef = .int .i64 0) (hn : w.heap[nb]? = some (.cells #[.int .i64 0, .int .i64 7] 89 (0, 0)))  {v : List Int} {p : Nat} (hrd : rdBytes R.data s.pos = some (v, p)) :
    Code.wp Tryd.prog sw29 (After R t xb fb w (.go { r with y := v } nul { s with pos := p })) a w := by
  obtain ⟨u, rfl⟩ := hf.lits h11 h15 h69
  have c1 := inst1 hn
  have C := readBytes_any hR h (bufV R)
  unfold BytesPost at C
  rw [hrd] at C
  dsimp only at C
  clear hf h11 h15 h69
  unfold lit29s rdV bufV
  conv => arg 2; whnf
  go_wp2_with (go_at_call 41; refine C.mono ?_; rintro e w1 ⟨bw, rfl, hy, hi1, hk1⟩; have l1 := hl.keep hk1; obtain ⟨g0, g1, g2, g3, g4, ⟨bv, g5, gy⟩, g6, g7, gf⟩ := l1.cell; have gfi := gf 5; clear gf; obtain ⟨q1, q2, q3, rfl⟩ := hy.slice)
  have fs := frame_set (i := 5) (u := .slice q1 q2 q3) (r' := { r with y := v }) hR hi1 l1 (fun bv _ => ⟨.slice q1 q2 q3, rfl, hy⟩)
  exact goOn_mk rfl rfl rfl rfl rfl rfl rfl rfl rfl fs.1 fs.2.1 (hk1.toG.trans fs.2.2)

set_option maxRecDepth 1000000 in
set_option maxHeartbeats 4000000 in
theorem op_0_7e {R : Rig} {s : St} {w : World} {a : Act} {t : Int} {xb fb nb : Nat} {nul : Bool} {r : Regs} (hR : R.Ok) (h : Inv R s w) (hl : Loc R w xb fb r) (hf : FrameInv R t xb fb nul a) (h11 : a.tmps.getD 11 undef = .nilIface)
    (h15 : a.tmps.getD 15 undef = .pointer (some ⟨nb, 0, none⟩)) (h69 : a.tmps.getD 69 undef = .int .i64 0) (hn : w.heap[nb]? = some (.cells #[.int .i64 0, .int .i64 7] 89 (0, 0)))  (hrd : rdBytes R.data s.pos = none) :
    Code.wp Tryd.prog sw29 (After R t xb fb w (.err s)) a w := by
  obtain ⟨u, rfl⟩ := hf.lits h11 h15 h69
  have c1 := inst1 hn
  have C := readBytes_any hR h (bufV R)
  unfold BytesPost at C
  rw [hrd] at C
  dsimp only at C
  clear hf h11 h15 h69
  unfold lit29s rdV bufV
  conv => arg 2; whnf
  go_wp2_with (go_at_call 41; refine C.mono ?_; rintro e w1 ⟨p, ev, rfl, hx, hi1, hk1⟩; obtain ⟨et, ex, rfl⟩ := hx.form; have l1 := hl.keep hk1; obtain ⟨g0, g1, g2, g3, g4, ⟨bv, g5, gy⟩, g6, g7, gf⟩ := l1.cell; have gfi := gf 5; clear gf)
  have fs := frame_set (i := 5) (u := .slice none 0 0) (r' := { r with y := [] }) hR hi1 l1 (fun bv _ => ⟨.slice none 0 0, rfl, .inl ⟨rfl, rfl⟩⟩)
  exact errAt_mk rfl rfl (hx.keepG fs.2.2 l1.not98) fs.1 fs.2.1.box hl.xo (hk1.toG.trans fs.2.2)

set_option maxRecDepth 1000000 in
set_option maxHeartbeats 4000000 in
theorem op_0_8 {R : Rig} {s : St} {w : World} {a : Act} {t : Int} {xb fb nb : Nat} {nul : Bool} {r : Regs} (hR : R.Ok) (h : Inv R s w) (hl : Loc R w xb fb r) (hf : FrameInv R t xb fb nul a) (h11 : a.tmps.getD 11 undef = .nilIface)
    (h15 : a.tmps.getD 15 undef = .pointer (some ⟨nb, 0, none⟩)) (h69 : a.tmps.getD 69 undef = .int .i64 0) (hn : w.heap[nb]? = some (.cells #[.int .i64 0, .int .i64 8] 89 (0, 0)))  {v : List Int} {p : Nat} (hrd : rdBytes R.data s.pos = some (v, p)) :
    Code.wp Tryd.prog sw29 (After R t xb fb w (.go { r with s := strOfNums v } nul { s with pos := p })) a w := by
  obtain ⟨u, rfl⟩ := hf.lits h11 h15 h69
  have c1 := inst1 hn
  have C := readString_any hR h (bufV R)
  unfold StringPost at C
  rw [hrd] at C
  dsimp only at C
  clear hf h11 h15 h69
  unfold lit29s rdV bufV
  conv => arg 2; whnf
  go_wp2_with (go_at_call 42; refine C.mono ?_; rintro e w1 ⟨rfl, hi1, hk1⟩; have l1 := hl.keep hk1; obtain ⟨g0, g1, g2, g3, g4, ⟨bv, g5, gy⟩, g6, g7, gf⟩ := l1.cell; have gfi := gf 6; clear gf)
  have fs := frame_set (i := 6) (u := .string (strOfNums v)) (r' := { r with s := strOfNums v }) hR hi1 l1 (fun bv hy => ⟨bv, rfl, hy⟩)
  exact goOn_mk rfl rfl rfl rfl rfl rfl rfl rfl rfl fs.1 fs.2.1 (hk1.toG.trans fs.2.2)

set_option maxRecDepth 1000000 in
set_option maxHeartbeats 4000000 in
theorem op_0_8e {R : Rig} {s : St} {w : World} {a : Act} {t : Int} {xb fb nb : Nat} {nul : Bool} {r : Regs} (hR : R.Ok) (h : Inv R s w) (hl : Loc R w xb fb r) (hf : FrameInv R t xb fb nul a) (h11 : a.tmps.getD 11 undef = .nilIface)
    (h15 : a.tmps.getD 15 undef = .pointer (some ⟨nb, 0, none⟩)) (h69 : a.tmps.getD 69 undef = .int .i64 0) (hn : w.heap[nb]? = some (.cells #[.int .i64 0, .int .i64 8] 89 (0, 0)))  (hrd : rdBytes R.data s.pos = none) :
    Code.wp Tryd.prog sw29 (After R t xb fb w (.err s)) a w := by
  obtain ⟨u, rfl⟩ := hf.lits h11 h15 h69
  have c1 := inst1 hn
  have C := readString_any hR h (bufV R)
  unfold StringPost at C
  rw [hrd] at C
  dsimp only at C
  clear hf h11 h15 h69
  unfold lit29s rdV bufV
  conv => arg 2; whnf
  go_wp2_with (go_at_call 42; refine C.mono ?_; rintro e w1 ⟨p, ev, rfl, hx, hi1, hk1⟩; obtain ⟨et, ex, rfl⟩ := hx.form; have l1 := hl.keep hk1; obtain ⟨g0, g1, g2, g3, g4, ⟨bv, g5, gy⟩, g6, g7, gf⟩ := l1.cell; have gfi := gf 6; clear gf)
  have fs := frame_set (i := 6) (u := .string ⟨#[]⟩) (r' := { r with s := ⟨#[]⟩ }) hR hi1 l1 (fun bv _ => ⟨bv, rfl, by assumption⟩)
  exact errAt_mk rfl rfl (hx.keepG fs.2.2 l1.not98) fs.1 fs.2.1.box hl.xo (hk1.toG.trans fs.2.2)

set_option maxRecDepth 1000000 in
set_option maxHeartbeats 4000000 in
theorem op_0_o {R : Rig} {s : St} {w : World} {a : Act} {t x : Int} {xb fb nb : Nat} {nul : Bool} {r : Regs} (hR : R.Ok) (h : Inv R s w) (hl : Loc R w xb fb r) (hf : FrameInv R t xb fb nul a) (h11 : a.tmps.getD 11 undef = .nilIface)
    (h15 : a.tmps.getD 15 undef = .pointer (some ⟨nb, 0, none⟩)) (h69 : a.tmps.getD 69 undef = .int .i64 0) (hn : w.heap[nb]? = some (.cells #[.int .i64 0, .int .i64 x] 89 (0, 0)))  {m : Nat} (hm : m ≤ 1000) (hsub : x - 11 = (m : Int)) (_hx0 : 11 ≤ x) (_hx1 : x ≤ 1011) (k1 : (x == 1) = false) (k2 : (x == 2) = false) (k3 : (x == 3) = false) (k4 : (x == 4) = false) (k10 : (x == 10) = false) (k5 : (x == 5) = false) (k6 : (x == 6) = false) (k7 : (x == 7) = false) (k8 : (x == 8) = false) {v : List Int} {p : Nat} (hrd : rdFixed R.data s.pos m = some (v, p)) :
    Code.wp Tryd.prog sw29 (After R t xb fb w (.go { r with y := v } nul { s with pos := p })) a w := by
  obtain ⟨u, rfl⟩ := hf.lits h11 h15 h69
  have c1 := inst1 hn
  have C := readFixed_any hR h m hm
  unfold BytesPost at C
  rw [hrd] at C
  dsimp only at C
  clear hf h11 h15 h69
  unfold lit29s rdV bufV
  conv => arg 2; whnf
  go_wp2_with (go_at_call 43; refine C.mono ?_; rintro e w1 ⟨bw, rfl, hy, hi1, hk1⟩; have l1 := hl.keep hk1; obtain ⟨g0, g1, g2, g3, g4, ⟨bv, g5, gy⟩, g6, g7, gf⟩ := l1.cell; have gfi := gf 5; clear gf; obtain ⟨q1, q2, q3, rfl⟩ := hy.slice)
  have fs := frame_set (i := 5) (u := .slice q1 q2 q3) (r' := { r with y := v }) hR hi1 l1 (fun bv _ => ⟨.slice q1 q2 q3, rfl, hy⟩)
  exact goOn_mk rfl rfl rfl rfl rfl rfl rfl rfl rfl fs.1 fs.2.1 (hk1.toG.trans fs.2.2)

set_option maxRecDepth 1000000 in
set_option maxHeartbeats 4000000 in
theorem op_0_oe {R : Rig} {s : St} {w : World} {a : Act} {t x : Int} {xb fb nb : Nat} {nul : Bool} {r : Regs} (hR : R.Ok) (h : Inv R s w) (hl : Loc R w xb fb r) (hf : FrameInv R t xb fb nul a) (h11 : a.tmps.getD 11 undef = .nilIface)
    (h15 : a.tmps.getD 15 undef = .pointer (some ⟨nb, 0, none⟩)) (h69 : a.tmps.getD 69 undef = .int .i64 0) (hn : w.heap[nb]? = some (.cells #[.int .i64 0, .int .i64 x] 89 (0, 0)))  {m : Nat} (hm : m ≤ 1000) (hsub : x - 11 = (m : Int)) (_hx0 : 11 ≤ x) (_hx1 : x ≤ 1011) (k1 : (x == 1) = false) (k2 : (x == 2) = false) (k3 : (x == 3) = false) (k4 : (x == 4) = false) (k10 : (x == 10) = false) (k5 : (x == 5) = false) (k6 : (x == 6) = false) (k7 : (x == 7) = false) (k8 : (x == 8) = false) (hrd : rdFixed R.data s.pos m = none) :
    Code.wp Tryd.prog sw29 (After R t xb fb w (.err s)) a w := by
  obtain ⟨u, rfl⟩ := hf.lits h11 h15 h69
  have c1 := inst1 hn
  have C := readFixed_any hR h m hm
  unfold BytesPost at C
  rw [hrd] at C
  dsimp only at C
  clear hf h11 h15 h69
  unfold lit29s rdV bufV
  conv => arg 2; whnf
  go_wp2_with (go_at_call 43; refine C.mono ?_; rintro e w1 ⟨p, ev, rfl, hx, hi1, hk1⟩; obtain ⟨et, ex, rfl⟩ := hx.form; have l1 := hl.keep hk1; obtain ⟨g0, g1, g2, g3, g4, ⟨bv, g5, gy⟩, g6, g7, gf⟩ := l1.cell; have gfi := gf 5; clear gf)
  have fs := frame_set (i := 5) (u := .slice none 0 0) (r' := { r with y := [] }) hR hi1 l1 (fun bv _ => ⟨.slice none 0 0, rfl, .inl ⟨rfl, rfl⟩⟩)
  exact errAt_mk rfl rfl (hx.keepG fs.2.2 l1.not98) fs.1 fs.2.1.box hl.xo (hk1.toG.trans fs.2.2)

set_option maxRecDepth 1000000 in
set_option maxHeartbeats 4000000 in
theorem op_0_2 {R : Rig} {s : St} {w : World} {a : Act} {t : Int} {xb fb nb : Nat} {nul : Bool} {r : Regs} (hR : R.Ok) (h : Inv R s w) (hl : Loc R w xb fb r) (hf : FrameInv R t xb fb nul a) (h11 : a.tmps.getD 11 undef = .nilIface)
    (h15 : a.tmps.getD 15 undef = .pointer (some ⟨nb, 0, none⟩)) (h69 : a.tmps.getD 69 undef = .int .i64 0) (hn : w.heap[nb]? = some (.cells #[.int .i64 0, .int .i64 2] 89 (0, 0))) :
    Code.wp Tryd.prog sw29 (After R t xb fb w (.go { r with b := (boolOf R.data s.pos).1 } nul { s with pos := (boolOf R.data s.pos).2 })) a w := by
  obtain ⟨u, rfl⟩ := hf.lits h11 h15 h69
  have c1 := inst1 hn
  have C := readBool_any hR h (bufV R)
  clear hf h11 h15 h69
  unfold lit29s rdV bufV
  conv => arg 2; whnf
  go_wp2_with (go_at_call 36; refine C.mono ?_; rintro e w1 ⟨rfl, hi1, hk1⟩; have l1 := hl.keep hk1; obtain ⟨g0, g1, g2, g3, g4, ⟨bv, g5, gy⟩, g6, g7, gf⟩ := l1.cell; have gfi := gf 0; clear gf)
  have fs := frame_set (i := 0) (u := .bool (boolOf R.data s.pos).1) (r' := { r with b := (boolOf R.data s.pos).1 }) hR hi1 l1 (fun bv hy => ⟨bv, rfl, hy⟩)
  exact goOn_mk rfl rfl rfl rfl rfl rfl rfl rfl rfl fs.1 fs.2.1 (hk1.toG.trans fs.2.2)

end Go.Proofs.YtkhicabfmkldpaaDoor
