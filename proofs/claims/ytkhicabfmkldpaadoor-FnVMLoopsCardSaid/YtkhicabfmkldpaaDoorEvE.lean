/- The branches of evalInner's switch that enter a field, an array, a map. -/
import Derived.Test.YtkhicabfmkldpaaDoorEvD
import Derived.Test.YtkhicabfmkldpaaDoorEvF
namespace Go.Proofs.YtkhicabfmkldpaaDoor
open Go.RowKit

set_option maxRecDepth 1000000 in
set_option maxHeartbeats 4000000 in
theorem op_2f {R : Rig} {s : St} {w : World} {a : Act} {t x : Int} {xb fb nb : Nat} {nul : Bool} {r : Regs} (hR : R.Ok) (h : Inv R s w) (hl : Loc R w xb fb r) (hf : FrameInv R t xb fb nul a) (h11 : a.tmps.getD 11 undef = .nilIface)
    (h15 : a.tmps.getD 15 undef = .pointer (some ⟨nb, 0, none⟩)) (h69 : a.tmps.getD 69 undef = .int .i64 2) (hn : w.heap[nb]? = some (.cells #[.int .i64 2, .int .i64 x] 89 (0, 0))) (hno : ¬ R.own nb) (hp0 : 0 ≤ s.pc) (hp1 : s.pc ≤ 1000000) (hfew : s.notes.length < 4194304) (hff : s.fields < 4194304) (hd : s.depth < 10000) {k : Nat} (HC : EvalCall k) {s2 : St}
    (hev : evalL R.data R.ins k ((s.fields + 1 : Nat) : Int) Regs.zero false { s.note nameGet x noText t with pc := s.pc + 1, fields := s.fields + 1, depth := s.depth + 1 } = some (.ok false s2)) :
    Code.wp Tryd.prog sw29 (After R t xb fb w (.go r nul s2.up)) a w := by
  obtain ⟨u, rfl⟩ := hf.lits h11 h15 h69
  have c1 := inst1 hn
  have me : ∀ w : World, (method 268 69 (.agg #[.pointer (some ⟨R.nb, 0, none⟩), .int .i64 t]) "Get").run Tryd.prog w = .ok (73, .agg #[.pointer (some ⟨R.nb, 0, none⟩), .int .i64 t]) w := fun _ => by kernel_rfl
  have me2 : ∀ w : World, (method 268 69 (.agg #[.pointer (some ⟨R.nb, 0, none⟩), .int .i64 t]) "NullField").run Tryd.prog w = .ok (75, .agg #[.pointer (some ⟨R.nb, 0, none⟩), .int .i64 t]) w := fun _ => by kernel_rfl
  have q1 := h.cPc
  have q2 := h.fPc
  have i1 := h.setPc hR (s.pc + 1)
  have k1 := (Keeps.refl R w).setCell (p := ⟨R.qb, 0, none⟩) hR.q (.inl (by simp [Rig.own])) (.int .i64 (s.pc + 1))
  have bx1 := (hl.keep k1).boxCell
  have c2 := inst_keep hn hno k1

  have Hev := Go.Lib.hid hev
  clear hev
  clear hf h11 h15 h69
  unfold lit29s fldI fldV rdV bufV
  conv => arg 2; whnf
  go_wp2
  refine wp_region_noPanic ?_
  go_region_with (first | (go_at_call 73; refine (mGet_any hR (i1.drewN 1) t x hfew hff).mono ?_; rintro e w2 ⟨rfl, hi2, hk2⟩; have bx2 := (hl.keep ((k1.drewN 1).trans hk2)).boxCell) | (go_at_call 29; refine (HC.ok hR hi2 hd Hev.out).mono ?_; rintro e w3 ⟨rfl, hi3, hk3⟩))
  all_goals refine NoPanic.normal ?_
  all_goals go_wp2
  all_goals exact goOn_mk rfl rfl rfl rfl rfl rfl rfl rfl rfl hi3 (hl.keep (((k1.drewN 1).trans hk2).trans hk3)) (((k1.drewN 1).trans hk2).trans hk3).toG

set_option maxRecDepth 1000000 in
set_option maxHeartbeats 4000000 in
theorem op_2t {R : Rig} {s : St} {w : World} {a : Act} {t x : Int} {xb fb nb : Nat} {nul : Bool} {r : Regs} (hR : R.Ok) (h : Inv R s w) (hl : Loc R w xb fb r) (hf : FrameInv R t xb fb nul a) (h11 : a.tmps.getD 11 undef = .nilIface)
    (h15 : a.tmps.getD 15 undef = .pointer (some ⟨nb, 0, none⟩)) (h69 : a.tmps.getD 69 undef = .int .i64 2) (hn : w.heap[nb]? = some (.cells #[.int .i64 2, .int .i64 x] 89 (0, 0))) (hno : ¬ R.own nb) (hp0 : 0 ≤ s.pc) (hp1 : s.pc ≤ 1000000) (hfew : s.notes.length < 4194304) (hff : s.fields < 4194304) (hd : s.depth < 10000) {k : Nat} (HC : EvalCall k) {s2 : St}
    (hev : evalL R.data R.ins k ((s.fields + 1 : Nat) : Int) Regs.zero false { s.note nameGet x noText t with pc := s.pc + 1, fields := s.fields + 1, depth := s.depth + 1 } = some (.ok true s2)) (hfew2 : s2.notes.length < 4194304) :
    Code.wp Tryd.prog sw29 (After R t xb fb w (.go r nul (s2.up.note nameNullField x noText t))) a w := by
  obtain ⟨u, rfl⟩ := hf.lits h11 h15 h69
  have c1 := inst1 hn
  have me : ∀ w : World, (method 268 69 (.agg #[.pointer (some ⟨R.nb, 0, none⟩), .int .i64 t]) "Get").run Tryd.prog w = .ok (73, .agg #[.pointer (some ⟨R.nb, 0, none⟩), .int .i64 t]) w := fun _ => by kernel_rfl
  have me2 : ∀ w : World, (method 268 69 (.agg #[.pointer (some ⟨R.nb, 0, none⟩), .int .i64 t]) "NullField").run Tryd.prog w = .ok (75, .agg #[.pointer (some ⟨R.nb, 0, none⟩), .int .i64 t]) w := fun _ => by kernel_rfl
  have q1 := h.cPc
  have q2 := h.fPc
  have i1 := h.setPc hR (s.pc + 1)
  have k1 := (Keeps.refl R w).setCell (p := ⟨R.qb, 0, none⟩) hR.q (.inl (by simp [Rig.own])) (.int .i64 (s.pc + 1))
  have bx1 := (hl.keep k1).boxCell
  have c2 := inst_keep hn hno k1

  have Hev := Go.Lib.hid hev
  clear hev
  clear hf h11 h15 h69
  unfold lit29s fldI fldV rdV bufV
  conv => arg 2; whnf
  go_wp2
  refine wp_region_noPanic ?_
  go_region_with (first | (go_at_call 73; refine (mGet_any hR (i1.drewN 1) t x hfew hff).mono ?_; rintro e w2 ⟨rfl, hi2, hk2⟩; have bx2 := (hl.keep ((k1.drewN 1).trans hk2)).boxCell) | (go_at_call 29; refine (HC.ok hR hi2 hd Hev.out).mono ?_; rintro e w3 ⟨rfl, hi3, hk3⟩; have c3 := inst_keep hn hno (((k1.drewN 1).trans hk2).trans hk3)))
  all_goals refine NoPanic.normal ?_
  all_goals go_wp2_with (go_at_call 75; refine (mNullField_any hR hi3 t x hfew2).mono ?_; rintro e w4 ⟨rfl, hi4, hk4⟩)
  all_goals exact goOn_mk rfl rfl rfl rfl rfl rfl rfl rfl rfl hi4 (hl.keep ((((k1.drewN 1).trans hk2).trans hk3).trans hk4)) ((((k1.drewN 1).trans hk2).trans hk3).trans hk4).toG

set_option maxRecDepth 1000000 in
set_option maxHeartbeats 4000000 in
theorem op_2e {R : Rig} {s : St} {w : World} {a : Act} {t x : Int} {xb fb nb : Nat} {nul : Bool} {r : Regs} (hR : R.Ok) (h : Inv R s w) (hl : Loc R w xb fb r) (hf : FrameInv R t xb fb nul a) (h11 : a.tmps.getD 11 undef = .nilIface)
    (h15 : a.tmps.getD 15 undef = .pointer (some ⟨nb, 0, none⟩)) (h69 : a.tmps.getD 69 undef = .int .i64 2) (hn : w.heap[nb]? = some (.cells #[.int .i64 2, .int .i64 x] 89 (0, 0))) (hno : ¬ R.own nb) (hp0 : 0 ≤ s.pc) (hp1 : s.pc ≤ 1000000) (hfew : s.notes.length < 4194304) (hff : s.fields < 4194304) (hd : s.depth < 10000) {k : Nat} (HC : EvalCall k) {s2 : St}
    (hev : evalL R.data R.ins k ((s.fields + 1 : Nat) : Int) Regs.zero false { s.note nameGet x noText t with pc := s.pc + 1, fields := s.fields + 1, depth := s.depth + 1 } = some (.err s2)) :
    Code.wp Tryd.prog sw29 (After R t xb fb w (.err s2.up)) a w := by
  obtain ⟨u, rfl⟩ := hf.lits h11 h15 h69
  have c1 := inst1 hn
  have me : ∀ w : World, (method 268 69 (.agg #[.pointer (some ⟨R.nb, 0, none⟩), .int .i64 t]) "Get").run Tryd.prog w = .ok (73, .agg #[.pointer (some ⟨R.nb, 0, none⟩), .int .i64 t]) w := fun _ => by kernel_rfl
  have me2 : ∀ w : World, (method 268 69 (.agg #[.pointer (some ⟨R.nb, 0, none⟩), .int .i64 t]) "NullField").run Tryd.prog w = .ok (75, .agg #[.pointer (some ⟨R.nb, 0, none⟩), .int .i64 t]) w := fun _ => by kernel_rfl
  have q1 := h.cPc
  have q2 := h.fPc
  have i1 := h.setPc hR (s.pc + 1)
  have k1 := (Keeps.refl R w).setCell (p := ⟨R.qb, 0, none⟩) hR.q (.inl (by simp [Rig.own])) (.int .i64 (s.pc + 1))
  have bx1 := (hl.keep k1).boxCell
  have c2 := inst_keep hn hno k1

  have Hev := Go.Lib.hid hev
  clear hev
  clear hf h11 h15 h69
  unfold lit29s fldI fldV rdV bufV
  conv => arg 2; whnf
  go_wp2
  refine wp_region_noPanic ?_
  go_region_with (first | (go_at_call 73; refine (mGet_any hR (i1.drewN 1) t x hfew hff).mono ?_; rintro e w2 ⟨rfl, hi2, hk2⟩; have bx2 := (hl.keep ((k1.drewN 1).trans hk2)).boxCell) | (go_at_call 29; refine (HC.err hR hi2 hd Hev.out).mono ?_; rintro e w3 ⟨p, ev, rfl, hx, hi3, hk3⟩; obtain ⟨et, ex, rfl⟩ := hx.form))
  all_goals refine NoPanic.normal ?_
  all_goals go_wp2
  all_goals exact errAt_mk rfl rfl hx hi3 (hl.keep (((k1.drewN 1).trans hk2).trans hk3)).box hl.xo (((k1.drewN 1).trans hk2).trans hk3).toG

end Go.Proofs.YtkhicabfmkldpaaDoor
