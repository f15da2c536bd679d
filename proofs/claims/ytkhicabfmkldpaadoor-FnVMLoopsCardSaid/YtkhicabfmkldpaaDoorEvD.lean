/- The branches of evalInner's switch that enter a level. -/
import Derived.Test.YtkhicabfmkldpaaDoorEvC
import Derived.Test.YtkhicabfmkldpaaDoorEvF
namespace Go.Proofs.YtkhicabfmkldpaaDoor
open Go.RowKit

/-- What a call of evalInner ends in. -/
def EvalPost (R : Rig) (res : Res) (w : World) (e : Ending) (w' : World) : Prop :=
  match res with
  | .ok nl s2 => RdPost R s2.up (.tuple #[.bool nl, .nilIface]) w e w'
  | .err s2 => RdErr R s2.up (.bool false) w e w'

/-- evalInner does what the plain machine does, with so many calls within one another. -/
def EvalCall (k : Nat) : Prop := ∀ (R : Rig) (s : St) (w : World) (t : Int) (res : Res), R.Ok → Inv R s w → s.depth < 10000 →
  evalL R.data R.ins k t Regs.zero false { s with depth := s.depth + 1 } = some res →
  Calls Tryd.prog 29 #[.iface 60 (.pointer (some ⟨R.rb, 0, none⟩)), .pointer (some ⟨R.pb, 0, none⟩), .iface 69 (.agg #[.pointer (some ⟨R.nb, 0, none⟩), .int .i64 t]), .pointer (some ⟨R.qb, 0, none⟩), .slice (some ⟨R.bb, 0, none⟩) 8 8] w (EvalPost R res w)

theorem EvalCall.ok {k : Nat} (hc : EvalCall k) {R : Rig} {s : St} {w : World} {t : Int} {nl : Bool} {s2 : St} (hR : R.Ok) (h : Inv R s w) (hd : s.depth < 10000)
    (he : evalL R.data R.ins k t Regs.zero false { s with depth := s.depth + 1 } = some (.ok nl s2)) :
    Calls Tryd.prog 29 #[.iface 60 (.pointer (some ⟨R.rb, 0, none⟩)), .pointer (some ⟨R.pb, 0, none⟩), .iface 69 (.agg #[.pointer (some ⟨R.nb, 0, none⟩), .int .i64 t]), .pointer (some ⟨R.qb, 0, none⟩), .slice (some ⟨R.bb, 0, none⟩) 8 8] w
      (RdPost R s2.up (.tuple #[.bool nl, .nilIface]) w) := hc R s w t _ hR h hd he
theorem EvalCall.err {k : Nat} (hc : EvalCall k) {R : Rig} {s : St} {w : World} {t : Int} {s2 : St} (hR : R.Ok) (h : Inv R s w) (hd : s.depth < 10000)
    (he : evalL R.data R.ins k t Regs.zero false { s with depth := s.depth + 1 } = some (.err s2)) :
    Calls Tryd.prog 29 #[.iface 60 (.pointer (some ⟨R.rb, 0, none⟩)), .pointer (some ⟨R.pb, 0, none⟩), .iface 69 (.agg #[.pointer (some ⟨R.nb, 0, none⟩), .int .i64 t]), .pointer (some ⟨R.qb, 0, none⟩), .slice (some ⟨R.bb, 0, none⟩) 8 8] w
      (RdErr R s2.up (.bool false) w) := hc R s w t _ hR h hd he



theorem inst_keep {R : Rig} {w w' : World} {nb : Nat} {a b : Value} (h : w.heap[nb]? = some (.cells #[a, b] 89 (0, 0))) (hn : ¬ R.own nb) (hk : Keeps R w w') : w'.cell? ⟨nb, 1, none⟩ = some b := inst1 (hk.keep _ _ h hn rfl)

set_option maxRecDepth 1000000 in
set_option maxHeartbeats 4000000 in
theorem op_8f {R : Rig} {s : St} {w : World} {a : Act} {t x : Int} {xb fb nb : Nat} {nul : Bool} {r : Regs} (hR : R.Ok) (h : Inv R s w) (hl : Loc R w xb fb r) (hf : FrameInv R t xb fb nul a) (h11 : a.tmps.getD 11 undef = .nilIface)
    (h15 : a.tmps.getD 15 undef = .pointer (some ⟨nb, 0, none⟩)) (h69 : a.tmps.getD 69 undef = .int .i64 8) (hn : w.heap[nb]? = some (.cells #[.int .i64 8, .int .i64 x] 89 (0, 0))) (_hno : ¬ R.own nb) (_hp0 : 0 ≤ s.pc) (_hp1 : s.pc ≤ 1000000) (hd : s.depth < 10000) {k : Nat} (HC : EvalCall k) {s2 : St} {nl : Bool}
    (hev : evalL R.data R.ins k t Regs.zero false { s with pc := x, depth := s.depth + 1 } = some (.ok nl s2)) :
    Code.wp Tryd.prog sw29 (After R t xb fb w (.go r nul { s2.up with pc := s.pc })) a w := by
  obtain ⟨u, rfl⟩ := hf.lits h11 h15 h69
  have c1 := inst1 hn
  have q1 := h.cPc
  have q2 := h.fPc
  have i1 := h.setPc hR x
  have k1 := (Keeps.refl R w).setCell (p := ⟨R.qb, 0, none⟩) hR.q (.inl (by simp [Rig.own])) (.int .i64 x)
  have bx1 := (hl.keep k1).boxCell
  have Hev := Go.Lib.hid hev
  clear hev
  clear hf h11 h15 h69
  unfold lit29s fldI fldV rdV bufV
  conv => arg 2; whnf
  go_wp2_with (go_at_call 29; refine (HC.ok hR i1 hd Hev.out).mono ?_; rintro e w3 ⟨rfl, hi3, hk3⟩; have q3 := hi3.cPc; have q4 := hi3.fPc)
  have i4 := hi3.setPc hR s.pc
  have k4 := (Keeps.refl R w3).setCell (p := ⟨R.qb, 0, none⟩) hR.q (.inl (by simp [Rig.own])) (.int .i64 s.pc)
  exact goOn_mk rfl rfl rfl rfl rfl rfl rfl rfl rfl i4 (hl.keep ((k1.trans hk3).trans k4)) ((k1.trans hk3).trans k4).toG

set_option maxRecDepth 1000000 in
set_option maxHeartbeats 4000000 in
theorem op_8e {R : Rig} {s : St} {w : World} {a : Act} {t x : Int} {xb fb nb : Nat} {nul : Bool} {r : Regs} (hR : R.Ok) (h : Inv R s w) (hl : Loc R w xb fb r) (hf : FrameInv R t xb fb nul a) (h11 : a.tmps.getD 11 undef = .nilIface)
    (h15 : a.tmps.getD 15 undef = .pointer (some ⟨nb, 0, none⟩)) (h69 : a.tmps.getD 69 undef = .int .i64 8) (hn : w.heap[nb]? = some (.cells #[.int .i64 8, .int .i64 x] 89 (0, 0))) (_hno : ¬ R.own nb) (_hp0 : 0 ≤ s.pc) (_hp1 : s.pc ≤ 1000000) (hd : s.depth < 10000) {k : Nat} (HC : EvalCall k) {s2 : St}
    (hev : evalL R.data R.ins k t Regs.zero false { s with pc := x, depth := s.depth + 1 } = some (.err s2)) :
    Code.wp Tryd.prog sw29 (After R t xb fb w (.err { s2.up with pc := s.pc })) a w := by
  obtain ⟨u, rfl⟩ := hf.lits h11 h15 h69
  have c1 := inst1 hn
  have q1 := h.cPc
  have q2 := h.fPc
  have i1 := h.setPc hR x
  have k1 := (Keeps.refl R w).setCell (p := ⟨R.qb, 0, none⟩) hR.q (.inl (by simp [Rig.own])) (.int .i64 x)
  have bx1 := (hl.keep k1).boxCell
  have Hev := Go.Lib.hid hev
  clear hev
  clear hf h11 h15 h69
  unfold lit29s fldI fldV rdV bufV
  conv => arg 2; whnf
  go_wp2_with (go_at_call 29; refine (HC.err hR i1 hd Hev.out).mono ?_; rintro e w3 ⟨p, ev, rfl, hx, hi3, hk3⟩; obtain ⟨et, ex, rfl⟩ := hx.form; have q3 := hi3.cPc; have q4 := hi3.fPc)
  have i4 := hi3.setPc hR s.pc
  have k4 := (Keeps.refl R w3).setCell (p := ⟨R.qb, 0, none⟩) hR.q (.inl (by simp [Rig.own])) (.int .i64 s.pc)
  exact errAt_mk rfl rfl (hx.keep k4) i4 (hl.keep ((k1.trans hk3).trans k4)).box hl.xo ((k1.trans hk3).trans k4).toG

set_option maxRecDepth 1000000 in
set_option maxHeartbeats 4000000 in
theorem op_19f {R : Rig} {s : St} {w : World} {a : Act} {t x : Int} {xb fb nb : Nat} {nul : Bool} {r : Regs} (hR : R.Ok) (h : Inv R s w) (hl : Loc R w xb fb r) (hf : FrameInv R t xb fb nul a) (h11 : a.tmps.getD 11 undef = .nilIface)
    (h15 : a.tmps.getD 15 undef = .pointer (some ⟨nb, 0, none⟩)) (h69 : a.tmps.getD 69 undef = .int .i64 19) (hn : w.heap[nb]? = some (.cells #[.int .i64 19, .int .i64 x] 89 (0, 0))) (_hno : ¬ R.own nb) (hp0 : 0 ≤ s.pc) (hp1 : s.pc ≤ 1000000) (hd : s.depth < 10000) {k : Nat} (HC : EvalCall k) {s2 : St} {nl : Bool}
    (hev : evalL R.data R.ins k t Regs.zero false { s with pc := s.pc + 1, depth := s.depth + 1 } = some (.ok nl s2)) :
    Code.wp Tryd.prog sw29 (After R t xb fb w (.go r nul s2.up)) a w := by
  obtain ⟨u, rfl⟩ := hf.lits h11 h15 h69
  have c1 := inst1 hn
  have q1 := h.cPc
  have q2 := h.fPc
  have i1 := h.setPc hR (s.pc + 1)
  have k1 := (Keeps.refl R w).setCell (p := ⟨R.qb, 0, none⟩) hR.q (.inl (by simp [Rig.own])) (.int .i64 (s.pc + 1))
  have bx1 := (hl.keep k1).boxCell
  obtain ⟨-, -, g2, -⟩ := hl.cell
  have Hev := Go.Lib.hid hev
  clear hev
  clear hf h11 h15 h69
  unfold lit29s fldI fldV rdV bufV
  conv => arg 2; whnf
  go_wp2_with (go_at_call 29; refine (HC.ok hR i1 hd Hev.out).mono ?_; rintro e w3 ⟨rfl, hi3, hk3⟩; have l3 := hl.keep (k1.trans hk3); obtain ⟨j0, j1, j2, j3, j4, ⟨bv, j5, gy⟩, j6, j7, gf⟩ := l3.cell; have gf2 := gf 2; clear gf)
  have fs := frame_set (i := 2) (u := .int .i64 r.l) (r' := r) hR hi3 l3 (fun bv hy => ⟨bv, rfl, hy⟩)
  exact goOn_mk rfl rfl rfl rfl rfl rfl rfl rfl rfl fs.1 fs.2.1 ((k1.trans hk3).toG.trans fs.2.2)

set_option maxRecDepth 1000000 in
set_option maxHeartbeats 4000000 in
theorem op_19e {R : Rig} {s : St} {w : World} {a : Act} {t x : Int} {xb fb nb : Nat} {nul : Bool} {r : Regs} (hR : R.Ok) (h : Inv R s w) (hl : Loc R w xb fb r) (hf : FrameInv R t xb fb nul a) (h11 : a.tmps.getD 11 undef = .nilIface)
    (h15 : a.tmps.getD 15 undef = .pointer (some ⟨nb, 0, none⟩)) (h69 : a.tmps.getD 69 undef = .int .i64 19) (hn : w.heap[nb]? = some (.cells #[.int .i64 19, .int .i64 x] 89 (0, 0))) (_hno : ¬ R.own nb) (hp0 : 0 ≤ s.pc) (hp1 : s.pc ≤ 1000000) (hd : s.depth < 10000) {k : Nat} (HC : EvalCall k) {s2 : St}
    (hev : evalL R.data R.ins k t Regs.zero false { s with pc := s.pc + 1, depth := s.depth + 1 } = some (.err s2)) :
    Code.wp Tryd.prog sw29 (After R t xb fb w (.err s2.up)) a w := by
  obtain ⟨u, rfl⟩ := hf.lits h11 h15 h69
  have c1 := inst1 hn
  have q1 := h.cPc
  have q2 := h.fPc
  have i1 := h.setPc hR (s.pc + 1)
  have k1 := (Keeps.refl R w).setCell (p := ⟨R.qb, 0, none⟩) hR.q (.inl (by simp [Rig.own])) (.int .i64 (s.pc + 1))
  have bx1 := (hl.keep k1).boxCell
  obtain ⟨-, -, g2, -⟩ := hl.cell
  have Hev := Go.Lib.hid hev
  clear hev
  clear hf h11 h15 h69
  unfold lit29s fldI fldV rdV bufV
  conv => arg 2; whnf
  go_wp2_with (go_at_call 29; refine (HC.err hR i1 hd Hev.out).mono ?_; rintro e w3 ⟨p, ev, rfl, hx, hi3, hk3⟩; obtain ⟨et, ex, rfl⟩ := hx.form; have l3 := hl.keep (k1.trans hk3); obtain ⟨j0, j1, j2, j3, j4, ⟨bv, j5, gy⟩, j6, j7, gf⟩ := l3.cell; have gf2 := gf 2; clear gf)
  have fs := frame_set (i := 2) (u := .int .i64 r.l) (r' := r) hR hi3 l3 (fun bv hy => ⟨bv, rfl, hy⟩)
  exact errAt_mk rfl rfl (hx.keepG fs.2.2 l3.not98) fs.1 fs.2.1.box hl.xo ((k1.trans hk3).toG.trans fs.2.2)

end Go.Proofs.YtkhicabfmkldpaaDoor
