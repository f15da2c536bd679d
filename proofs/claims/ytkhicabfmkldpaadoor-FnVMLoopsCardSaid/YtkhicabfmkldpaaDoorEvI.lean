/- evalInner does what the plain machine does. -/
import Derived.Test.YtkhicabfmkldpaaDoorEvE
import Derived.Test.YtkhicabfmkldpaaDoorEvG
import Derived.Test.YtkhicabfmkldpaaDoorEvH
import Derived.Test.YtkhicabfmkldpaaDoorMach
namespace Go.Proofs.YtkhicabfmkldpaaDoor
open Go.RowKit

theorem beq_no {x k : Int} (h : ¬ x = k) : (x == k) = false := by simpa using h

theorem doRead_wp {R : Rig} {s : St} {w : World} {a : Act} {t x : Int} {xb fb nb : Nat} {nul : Bool} {r : Regs} (hR : R.Ok) (h : Inv R s w) (hl : Loc R w xb fb r) (hf : FrameInv R t xb fb nul a) (h11 : a.tmps.getD 11 undef = .nilIface)
    (h15 : a.tmps.getD 15 undef = .pointer (some ⟨nb, 0, none⟩)) (h69 : a.tmps.getD 69 undef = .int .i64 0) (hn : w.heap[nb]? = some (.cells #[.int .i64 0, .int .i64 x] 89 (0, 0)))
    {o : Nxt} (h1 : doRead R.data x r nul s = some o) : Code.wp Tryd.prog sw29 (After R t xb fb w o) a w := by
  unfold doRead at h1
  by_cases c1 : x = 1
  · subst c1; rw [if_pos rfl] at h1; cases h1; exact op_0_1 hR h hl hf h11 h15 h69 hn
  rw [if_neg c1] at h1
  by_cases c2 : x = 2
  · subst c2; rw [if_pos rfl] at h1; cases h1; exact op_0_2 hR h hl hf h11 h15 h69 hn
  rw [if_neg c2] at h1
  by_cases c3 : x = 3
  · subst c3
    rw [if_pos rfl] at h1
    cases hrd : rdInt R.data s.pos with
    | none => rw [hrd] at h1; cases h1; exact op_0_3e hR h hl hf h11 h15 h69 hn hrd
    | some vp => obtain ⟨v, p⟩ := vp; rw [hrd] at h1; cases h1; exact op_0_3 hR h hl hf h11 h15 h69 hn hrd
  rw [if_neg c3] at h1
  by_cases c4 : x = 4
  · subst c4
    rw [if_pos rfl] at h1
    cases hrd : rdLong R.data s.pos with
    | none => rw [hrd] at h1; cases h1; exact op_0_4e hR h hl hf h11 h15 h69 hn hrd
    | some vp => obtain ⟨v, p⟩ := vp; rw [hrd] at h1; cases h1; exact op_0_4 hR h hl hf h11 h15 h69 hn hrd
  rw [if_neg c4] at h1
  by_cases c10 : x = 10
  · subst c10
    rw [if_pos rfl] at h1
    cases hrd : rdLong R.data s.pos with
    | none => rw [hrd] at h1; cases h1; exact op_0_10e hR h hl hf h11 h15 h69 hn hrd
    | some vp => obtain ⟨v, p⟩ := vp; rw [hrd] at h1; cases h1; exact op_0_10 hR h hl hf h11 h15 h69 hn hrd
  rw [if_neg c10] at h1
  by_cases c5 : x = 5
  · subst c5
    rw [if_pos rfl] at h1
    cases hrd : rdFloat R.data s.pos with
    | none => rw [hrd] at h1; cases h1; exact op_0_5e hR h hl hf h11 h15 h69 hn hrd
    | some vp => obtain ⟨v, p⟩ := vp; rw [hrd] at h1; cases h1; exact op_0_5 hR h hl hf h11 h15 h69 hn hrd
  rw [if_neg c5] at h1
  by_cases c6 : x = 6
  · subst c6
    rw [if_pos rfl] at h1
    cases hrd : rdDouble R.data s.pos with
    | none => rw [hrd] at h1; cases h1; exact op_0_6e hR h hl hf h11 h15 h69 hn hrd
    | some vp => obtain ⟨v, p⟩ := vp; rw [hrd] at h1; cases h1; exact op_0_6 hR h hl hf h11 h15 h69 hn hrd
  rw [if_neg c6] at h1
  by_cases c7 : x = 7
  · subst c7
    rw [if_pos rfl] at h1
    cases hrd : rdBytes R.data s.pos with
    | none => rw [hrd] at h1; cases h1; exact op_0_7e hR h hl hf h11 h15 h69 hn hrd
    | some vp => obtain ⟨v, p⟩ := vp; rw [hrd] at h1; cases h1; exact op_0_7 hR h hl hf h11 h15 h69 hn hrd
  rw [if_neg c7] at h1
  by_cases c8 : x = 8
  · subst c8
    rw [if_pos rfl] at h1
    cases hrd : rdBytes R.data s.pos with
    | none => rw [hrd] at h1; cases h1; exact op_0_8e hR h hl hf h11 h15 h69 hn hrd
    | some vp => obtain ⟨v, p⟩ := vp; rw [hrd] at h1; cases h1; exact op_0_8 hR h hl hf h11 h15 h69 hn hrd
  rw [if_neg c8] at h1
  by_cases cf : 11 ≤ x ∧ x ≤ 1011
  · rw [if_pos cf] at h1
    have hm : (x - 11).toNat ≤ 1000 := by omega
    have hs : x - 11 = (((x - 11).toNat : Nat) : Int) := by omega
    cases hrd : rdFixed R.data s.pos (x - 11).toNat with
    | none => rw [hrd] at h1; cases h1; exact op_0_oe hR h hl hf h11 h15 h69 hn hm hs cf.1 cf.2 (beq_no c1) (beq_no c2) (beq_no c3) (beq_no c4) (beq_no c10) (beq_no c5) (beq_no c6) (beq_no c7) (beq_no c8) hrd
    | some vp => obtain ⟨v, p⟩ := vp; rw [hrd] at h1; cases h1; exact op_0_o hR h hl hf h11 h15 h69 hn hm hs cf.1 cf.2 (beq_no c1) (beq_no c2) (beq_no c3) (beq_no c4) (beq_no c10) (beq_no c5) (beq_no c6) (beq_no c7) (beq_no c8) hrd
  rw [if_neg cf] at h1
  cases h1

theorem doSet_wp {R : Rig} {s : St} {w : World} {a : Act} {t x : Int} {xb fb nb : Nat} {nul : Bool} {r : Regs} (hR : R.Ok) (h : Inv R s w) (hl : Loc R w xb fb r) (hf : FrameInv R t xb fb nul a) (h11 : a.tmps.getD 11 undef = .nilIface)
    (h15 : a.tmps.getD 15 undef = .pointer (some ⟨nb, 0, none⟩)) (h69 : a.tmps.getD 69 undef = .int .i64 1) (hn : w.heap[nb]? = some (.cells #[.int .i64 1, .int .i64 x] 89 (0, 0))) (hfew : s.notes.length < 4194304) :
    Code.wp Tryd.prog sw29 (After R t xb fb w (.go r nul (doSet x t r s))) a w := by
  unfold doSet
  by_cases c2 : x = 2
  · subst c2; rw [if_pos rfl]; exact op_1_2 hR h hl hf h11 h15 h69 hn hfew
  rw [if_neg c2]
  by_cases c3 : x = 3
  · subst c3; rw [if_pos rfl]; exact op_1_3 hR h hl hf h11 h15 h69 hn hfew
  rw [if_neg c3]
  by_cases c4 : x = 4
  · subst c4; rw [if_pos rfl]; exact op_1_4 hR h hl hf h11 h15 h69 hn hfew
  rw [if_neg c4]
  by_cases c5 : x = 5
  · subst c5; rw [if_pos rfl]; exact op_1_5 hR h hl hf h11 h15 h69 hn hfew
  rw [if_neg c5]
  by_cases c6 : x = 6
  · subst c6; rw [if_pos rfl]; exact op_1_6 hR h hl hf h11 h15 h69 hn hfew
  rw [if_neg c6]
  by_cases c7 : x = 7
  · subst c7; rw [if_pos rfl]; exact op_1_7 hR h hl hf h11 h15 h69 hn hfew
  rw [if_neg c7]
  by_cases c8 : x = 8
  · subst c8; rw [if_pos rfl]; exact op_1_8 hR h hl hf h11 h15 h69 hn hfew
  rw [if_neg c8]
  by_cases c1 : x = 1
  · subst c1; exact op_1_1 hR h hl hf h11 h15 h69 hn
  exact op_1_o hR h hl hf h11 h15 h69 hn (beq_no c1) (beq_no c2) (beq_no c3) (beq_no c4) (beq_no c5) (beq_no c6) (beq_no c7) (beq_no c8)

theorem step1_wp {R : Rig} {s : St} {w : World} {a : Act} {t x : Int} {xb fb nb : Nat} {nul : Bool} {r : Regs} (hR : R.Ok) (h : Inv R s w) (hl : Loc R w xb fb r) (hf : FrameInv R t xb fb nul a) (h11 : a.tmps.getD 11 undef = .nilIface)
    (h15 : a.tmps.getD 15 undef = .pointer (some ⟨nb, 0, none⟩)) {op : Int} (h69 : a.tmps.getD 69 undef = .int .i64 op) (hn : w.heap[nb]? = some (.cells #[.int .i64 op, .int .i64 x] 89 (0, 0)))
    {o : Nxt} (h1 : step1 R.data op x t r nul s = some o) : Code.wp Tryd.prog sw29 (After R t xb fb w o) a w := by
  unfold step1 at h1
  by_cases c0 : op = 0
  · subst c0; rw [if_pos rfl] at h1; exact doRead_wp hR h hl hf h11 h15 h69 hn h1
  rw [if_neg c0] at h1
  by_cases c1 : op = 1
  · subst c1
    rw [if_pos rfl] at h1
    by_cases hw : few s = true
    · rw [if_pos hw] at h1; cases h1; exact doSet_wp hR h hl hf h11 h15 h69 hn (by simpa [few] using hw)
    · rw [if_neg hw] at h1; cases h1
  rw [if_neg c1] at h1
  by_cases c7 : op = 7
  · subst c7
    rw [if_pos rfl] at h1
    by_cases hw : few s = true
    · rw [if_pos hw] at h1; cases h1; exact op_7 hR h hl hf h11 h15 h69 hn (by simpa [few] using hw)
    · rw [if_neg hw] at h1; cases h1
  rw [if_neg c7] at h1
  by_cases c3 : op = 3
  · subst c3
    rw [if_pos rfl] at h1
    by_cases hw : few s = true
    · rw [if_pos hw] at h1; cases h1; exact op_3 hR h hl hf h11 h15 h69 hn (by simpa [few] using hw)
    · rw [if_neg hw] at h1; cases h1
  rw [if_neg c3] at h1
  by_cases c4 : op = 4
  · subst c4; rw [if_pos rfl] at h1; cases h1; exact op_4 hR h hl hf h11 h15 h69 hn
  rw [if_neg c4] at h1
  by_cases c9 : op = 9
  · subst c9; rw [if_pos rfl] at h1; cases h1; exact op_9 hR h hl hf h11 h15 h69 hn
  rw [if_neg c9] at h1
  by_cases c11 : op = 11
  · subst c11
    rw [if_pos rfl] at h1
    by_cases hw : 0 ≤ x ∧ x ≤ 1000000
    · rw [if_pos hw] at h1; cases h1
      exact op_11 hR h hl hf h11 h15 h69 hn hw.1 hw.2
    · rw [if_neg hw] at h1; cases h1
  rw [if_neg c11] at h1
  by_cases c13 : op = 13
  · subst c13; rw [if_pos rfl] at h1; cases h1; exact op_13 hR h hl hf h11 h15 h69 hn
  rw [if_neg c13] at h1
  by_cases c12 : op = 12
  · subst c12; rw [if_pos rfl] at h1; cases h1; exact op_12 hR h hl hf h11 h15 h69 hn
  rw [if_neg c12] at h1
  by_cases c14 : op = 14
  · subst c14
    rw [if_pos rfl] at h1
    by_cases hw : 0 ≤ x ∧ x ≤ 1000000
    · rw [if_pos hw] at h1; cases h1
      by_cases hc : r.c = true
      · rw [if_pos hc]; exact op_14t hR h hl hf h11 h15 h69 hn hw.1 hw.2 hc
      · rw [if_neg hc]; exact op_14f hR h hl hf h11 h15 h69 hn (by simpa using hc)
    · rw [if_neg hw] at h1; cases h1
  rw [if_neg c14] at h1
  by_cases c16 : op = 16
  · subst c16; rw [if_pos rfl] at h1; cases h1; exact op_16 hR h hl hf h11 h15 h69 hn
  rw [if_neg c16] at h1
  by_cases c15 : op = 15
  · subst c15; rw [if_pos rfl] at h1; cases h1; exact op_15 hR h hl hf h11 h15 h69 hn
  rw [if_neg c15] at h1
  by_cases c18 : op = 18
  · subst c18; rw [if_pos rfl] at h1; cases h1; exact op_18 hR h hl hf h11 h15 h69 hn
  rw [if_neg c18] at h1
  by_cases c17 : op = 17
  · subst c17; rw [if_pos rfl] at h1; cases h1; exact op_17 hR h hl hf h11 h15 h69 hn
  rw [if_neg c17] at h1
  by_cases c22 : op = 22
  · subst c22
    rw [if_pos rfl] at h1
    by_cases hw : few s = true
    · rw [if_pos hw] at h1; cases h1; exact op_22 hR h hl hf h11 h15 h69 hn (by simpa [few] using hw)
    · rw [if_neg hw] at h1; cases h1
  rw [if_neg c22] at h1
  by_cases c20 : op = 20
  · subst c20; rw [if_pos rfl] at h1; cases h1; exact op_20 hR h hl hf h11 h15 h69 hn
  rw [if_neg c20] at h1
  by_cases c10 : op = 10
  · subst c10
    rw [if_pos rfl] at h1
    by_cases hw : x = 0
    · subst hw; rw [if_pos rfl] at h1; cases h1; exact op_10 hR h hl hf h11 h15 h69 hn
    · rw [if_neg hw] at h1; cases h1
  rw [if_neg c10] at h1
  by_cases c21 : op = 21
  · subst c21
    rw [if_pos rfl] at h1
    by_cases hw : few s = true
    · rw [if_pos hw] at h1; cases h1; exact op_21 hR h hl hf h11 h15 h69 hn (by simpa [few] using hw)
    · rw [if_neg hw] at h1; cases h1
  rw [if_neg c21] at h1
  cases h1

end Go.Proofs.YtkhicabfmkldpaaDoor

namespace Go.Proofs.YtkhicabfmkldpaaDoor
open Go.RowKit

set_option maxRecDepth 1000000 in
set_option maxHeartbeats 8000000 in
theorem round_exit {R : Rig} {s : St} {w : World} {a : Act} {t : Int} {xb fb k : Nat} {nul : Bool} {r : Regs} {K : Act → World → Prop} {Q : Exit → Act → World → Prop} (hR : R.Ok) (h : Inv R s w) (hl : Loc R w xb fb r)
    (hf : FrameInv R t xb fb nul a) (h11 : a.tmps.getD 11 undef = .nilIface) (hpc : s.pc = (k : Int)) (hk : R.ins.length ≤ k)
    (hq : ∀ a' w', FrameInv R t xb fb nul a' → a'.tmps.getD 11 undef = .nilIface → Inv R s w' → Loc R w' xb fb r → KeepsG R fb w w' → Q (.exit 0) a' w') :
    Code.wp Tryd.prog body29 (Exit.then K Q) a w := by
  obtain ⟨u, rfl⟩ := hf.lit h11
  have hif := hR.insFew
  have q1 := h.cPc
  rw [hpc] at q1
  have p0 := h.cP0
  have bx := hl.boxCell
  have z1 := lt_of_block h.prog
  have z2 := lt_of_block h.pc
  have z4 := lt_of_block hl.box
  have Hpc := Go.Lib.hid hpc
  have Hq := Go.Lib.hid hq
  clear hf h11 hpc hq
  unfold lit29
  conv => arg 2; whnf
  go_wp2
  go_quiet (fail)
  go_wp2
  exact Hq.out _ _ ⟨rfl, rfl, rfl, rfl, rfl, rfl, rfl, rfl, rfl⟩ rfl (h.drewN _) (hl.drewN _) ((Keeps.refl R w).drewN _).toG

/-- What is asked behind the loop. -/
structure LoopQ (R : Rig) (t : Int) (xb fb : Nat) (w : World) (res : Res) (Q : Exit → Act → World → Prop) : Prop where
  exit : ∀ (s : St) (r : Regs) (nul : Bool) (a' : Act) (w' : World), res = .ok false s → FrameInv R t xb fb nul a' → a'.tmps.getD 11 undef = .nilIface → Inv R s w' → Loc R w' xb fb r → KeepsG R fb w w' → Q (.exit 0) a' w'
  ret : ∀ (nul : Bool) (s : St) (a' : Act) (w' : World), res = .ok nul s → RetAt R xb fb w nul s a' w' → Q .ret a' w'
  err : ∀ (s : St) (a' : Act) (w' : World), res = .err s → EndErr R xb fb w s a' w' → Q .ret a' w'

theorem RetAt.from {R : Rig} {xb fb : Nat} {w0 w w' : World} {nul : Bool} {s : St} {a' : Act} (h : RetAt R xb fb w nul s a' w') (hk : KeepsG R fb w0 w) : RetAt R xb fb w0 nul s a' w' :=
  ⟨h.size, h.dfr, h.s10, h.s11, h.inv, h.box, h.xo, hk.trans h.keeps⟩
theorem EndErr.from {R : Rig} {xb fb : Nat} {w0 w w' : World} {s : St} {a' : Act} (h : EndErr R xb fb w s a' w') (hk : KeepsG R fb w0 w) : EndErr R xb fb w0 s a' w' :=
  ⟨h.dfr, h.s10, h.err, h.box, h.xo, hk.trans h.keeps⟩

/-- A round, whatever the instruction. -/
theorem round_all {R : Rig} {s : St} {w0 w : World} {a : Act} {t : Int} {xb fb k : Nat} {nul : Bool} {r : Regs} {res : Res} {K : Act → World → Prop} {Q : Exit → Act → World → Prop} (hR : R.Ok) (HC : EvalCall k) (hk : k ≤ 900000)
    (h : Inv R s w) (hl : Loc R w xb fb r) (hf : FrameInv R t xb fb nul a) (h11 : a.tmps.getD 11 undef = .nilIface) (hkp : KeepsG R fb w0 w)
    (hev : evalL R.data R.ins (k + 1) t r nul s = some res)
    (hK : ∀ (r' : Regs) (nul' : Bool) (s' : St) (a' : Act) (w' : World), evalL R.data R.ins k t r' nul' s' = some res → FrameInv R t xb fb nul' a' → a'.tmps.getD 11 undef = .nilIface → Inv R s' w' → Loc R w' xb fb r' → KeepsG R fb w0 w' → K a' w')
    (hQ : LoopQ R t xb fb w0 res Q) : Code.wp Tryd.prog body29 (Exit.then K Q) a w := by
  obtain ⟨h0, h1⟩ := evalL_rnd hev
  have hpc : s.pc = ((s.pc.toNat : Nat) : Int) := by omega
  rcases h1 with ⟨h1, h2⟩ | ⟨op, x, h1, hs, h2⟩
  · refine round_exit hR h hl hf h11 hpc (by simpa using h1) (fun a' w' f1 f2 f3 f4 f5 => ?_)
    exact hQ.exit s r nul a' w' h2 f1 f2 f3 f4 (hkp.trans f5)
  have hlt : s.pc.toNat < R.ins.length := (List.getElem?_eq_some_iff.1 h1).1
  have hif := hR.insFew
  have goK : ∀ {r' : Regs} {nul' : Bool} {s' : St}, evalL R.data R.ins k t r' nul' s'.nextPc = some res → s'.pc ≤ 2000000 → RoundPost R t xb fb w (.go r' nul' s') K Q :=
    fun he hb a' w' f1 f2 f3 f4 f5 => hK _ _ _ a' w' he f1 f2 f3 f4 (hkp.trans f5)
  have errQ : ∀ {s' : St}, res = .err s' → RoundPost R t xb fb w (.err s') K Q := fun he a' w' f => hQ.err _ a' w' he (f.from hkp)
  have retQ : ∀ {nl : Bool} {s' : St}, res = .ok nl s' → RoundPost R t xb fb w (.ret nl s') K Q := fun he a' w' f => hQ.ret _ _ a' w' he (f.from hkp)
  have pcs : ∀ {t' : Int} {r' : Regs} {nul' nl : Bool} {s1 s2 : St}, evalL R.data R.ins k t' r' nul' s1 = some (.ok nl s2) → s1.pc ≤ 1000001 → -1 ≤ s2.up.pc ∧ s2.up.pc ≤ 2000000 := fun he hb => by
    have := evalL_pc hR.insFew k _ _ _ _ _ _ he
    simp only [St.up]
    omega
  cases h2 with
  | enterE name n str z s2 hc hf1 hff hd he hr =>
    refine round_err hR h hl hf h11 hpc h1 hs (fun a1 w1 nb i1 l1 g1 g2 g3 g4 g5 g6 => ?_) (errQ hr)
    rcases hc with ⟨rfl, rfl, rfl, rfl, rfl⟩ | ⟨rfl, rfl, rfl, rfl, rfl⟩ | ⟨rfl, rfl, rfl, rfl, rfl⟩
    · exact op_2e hR i1 l1 g1 g2 g3 g4 g5 g6 h0 (by show s.pc ≤ _; omega) hf1 hff hd HC he
    · exact op_5e hR i1 l1 g1 g2 g3 g4 g5 g6 h0 (by show s.pc ≤ _; omega) hf1 hff hd HC he
    · exact op_6e hR i1 l1 g1 g2 g3 g4 g5 g6 h0 (by show s.pc ≤ _; omega) hf1 hff hd HC he
  | enterF name n str z s2 hc hf1 hff hd he hr =>
    have hb := pcs he (by show s.pc + 1 ≤ _; omega)
    refine round_go hb.1 hb.2 hR h hl hf h11 hpc h1 hs (fun a1 w1 nb i1 l1 g1 g2 g3 g4 g5 g6 => ?_) (goK hr hb.2)
    rcases hc with ⟨rfl, rfl, rfl, rfl, rfl⟩ | ⟨rfl, rfl, rfl, rfl, rfl⟩ | ⟨rfl, rfl, rfl, rfl, rfl⟩
    · exact op_2f hR i1 l1 g1 g2 g3 g4 g5 g6 h0 (by show s.pc ≤ _; omega) hf1 hff hd HC he
    · exact op_5f hR i1 l1 g1 g2 g3 g4 g5 g6 h0 (by show s.pc ≤ _; omega) hf1 hff hd HC he
    · exact op_6f hR i1 l1 g1 g2 g3 g4 g5 g6 h0 (by show s.pc ≤ _; omega) hf1 hff hd HC he
  | enterT name n str z s2 hc hf1 hff hd he hf2 hr =>
    have hb := pcs he (by show s.pc + 1 ≤ _; omega)
    refine round_go (s' := s2.up.note nameNullField z noText t) hb.1 hb.2 hR h hl hf h11 hpc h1 hs (fun a1 w1 nb i1 l1 g1 g2 g3 g4 g5 g6 => ?_) (goK hr hb.2)
    rcases hc with ⟨rfl, rfl, rfl, rfl, rfl⟩ | ⟨rfl, rfl, rfl, rfl, rfl⟩ | ⟨rfl, rfl, rfl, rfl, rfl⟩
    · exact op_2t hR i1 l1 g1 g2 g3 g4 g5 g6 h0 (by show s.pc ≤ _; omega) hf1 hff hd HC he hf2
    · exact op_5t hR i1 l1 g1 g2 g3 g4 g5 g6 h0 (by show s.pc ≤ _; omega) hf1 hff hd HC he hf2
    · exact op_6t hR i1 l1 g1 g2 g3 g4 g5 g6 h0 (by show s.pc ≤ _; omega) hf1 hff hd HC he hf2
  | callE s2 hop hd hx0 hx1 he hr =>
    subst hop
    exact round_err hR h hl hf h11 hpc h1 hs (fun a1 w1 nb i1 l1 g1 g2 g3 g4 g5 g6 => op_8e hR i1 l1 g1 g2 g3 g4 g5 g6 h0 (by show s.pc ≤ _; omega) hd HC he) (errQ hr)
  | callF nl s2 hop hd hx0 hx1 he hr =>
    subst hop
    exact round_go (s' := { s2.up with pc := s.pc }) (by show -1 ≤ s.pc; omega) (by show s.pc ≤ _; omega) hR h hl hf h11 hpc h1 hs (fun a1 w1 nb i1 l1 g1 g2 g3 g4 g5 g6 => op_8f hR i1 l1 g1 g2 g3 g4 g5 g6 h0 (by show s.pc ≤ _; omega) hd HC he) (goK hr (by show s.pc ≤ _; omega))
  | pushE s2 hop hd he hr =>
    subst hop
    exact round_err hR h hl hf h11 hpc h1 hs (fun a1 w1 nb i1 l1 g1 g2 g3 g4 g5 g6 => op_19e hR i1 l1 g1 g2 g3 g4 g5 g6 h0 (by show s.pc ≤ _; omega) hd HC he) (errQ hr)
  | pushF nl s2 hop hd he hr =>
    subst hop
    have hb := pcs he (by show s.pc + 1 ≤ _; omega)
    exact round_go hb.1 hb.2 hR h hl hf h11 hpc h1 hs (fun a1 w1 nb i1 l1 g1 g2 g3 g4 g5 g6 => op_19f hR i1 l1 g1 g2 g3 g4 g5 g6 h0 (by show s.pc ≤ _; omega) hd HC he) (goK hr hb.2)
  | go r' nul' s' h2 hr =>
    have p := step1_pc R.data op x t r nul { s with steps := s.steps + 1 }
    rw [h2] at p
    simp only [OPcOk, Nxt.PcOk] at p
    exact round_go (by omega) (by omega) hR h hl hf h11 hpc h1 hs (fun a1 w1 nb i1 l1 g1 g2 g3 g4 g5 g6 => step1_wp hR i1 l1 g1 g2 g3 g4 g5 h2) (goK hr (by omega))
  | ret nl s' h2 hr =>
    exact round_ret hR h hl hf h11 hpc h1 hs (fun a1 w1 nb i1 l1 g1 g2 g3 g4 g5 g6 => step1_wp hR i1 l1 g1 g2 g3 g4 g5 h2) (retQ hr)
  | err s' h2 hr =>
    exact round_err hR h hl hf h11 hpc h1 hs (fun a1 w1 nb i1 l1 g1 g2 g3 g4 g5 g6 => step1_wp hR i1 l1 g1 g2 g3 g4 g5 h2) (errQ hr)

/-- The loop. -/
theorem level_loop {R : Rig} {s : St} {w0 w : World} {a : Act} {t : Int} {xb fb n : Nat} {nul : Bool} {r : Regs} {res : Res} {Q : Exit → Act → World → Prop} (hR : R.Ok) (HC : ∀ k, k < n → EvalCall k) (hn : n ≤ 900000)
    (h : Inv R s w) (hl : Loc R w xb fb r) (hf : FrameInv R t xb fb nul a) (h11 : a.tmps.getD 11 undef = .nilIface) (hkp : KeepsG R fb w0 w)
    (hev : evalL R.data R.ins n t r nul s = some res) (hQ : LoopQ R t xb fb w0 res Q) : Code.wp Tryd.prog (Code.loop body29) Q a w := by
  refine wp_loop_ghost (fun g a' w' => g ≤ n ∧ ∃ (r' : Regs) (nul' : Bool) (s' : St), evalL R.data R.ins g t r' nul' s' = some res ∧ FrameInv R t xb fb nul' a' ∧ a'.tmps.getD 11 undef = .nilIface ∧ Inv R s' w' ∧ Loc R w' xb fb r' ∧ KeepsG R fb w0 w') n
    ⟨Nat.le_refl _, r, nul, s, hev, hf, h11, h, hl, hkp⟩ ?_
  rintro g a' w' ⟨hg, r', nul', s', he, f1, f2, f3, f4, f5⟩
  cases g with
  | zero => cases he
  | succ k =>
    exact round_all hR (HC k (by omega)) (by omega) f3 f4 f1 f2 f5 he
      (fun r2 nul2 s2 a2 w2 e1 e2 e3 e4 e5 e6 => ⟨k, Nat.lt_succ_self k, by omega, r2, nul2, s2, e1, e2, e3, e4, e5, e6⟩) hQ

end Go.Proofs.YtkhicabfmkldpaaDoor

namespace Go.Proofs.YtkhicabfmkldpaaDoor
open Go.RowKit

set_option maxRecDepth 1000000 in
set_option maxHeartbeats 4000000 in
/-- The deferred function: one level less. -/
theorem deferred_any {R : Rig} {s : St} {w : World} (hR : R.Ok) (h : Inv R s w) (xb : Nat) (hb : w.heap[xb]? = some (.cells #[.pointer (some ⟨R.pb, 0, none⟩)] 66 (0, 0))) (hd : 1 ≤ s.depth) (u : FrameMode) :
    CallsD Tryd.prog 35 #[.pointer (some ⟨xb, 0, none⟩)] u w fun e u' w' => u' = u ∧ (RdPost R s.up (.tuple #[]) w e w') := by
  have hbx : w.cell? ⟨xb, 0, none⟩ = some (.pointer (some ⟨R.pb, 0, none⟩)) := by rw [cell_of_row _ _ _ _ _ _ hb]; rfl
  have p3 := h.cP3
  have p3f := h.fP 3
  obtain ⟨d, hd'⟩ : ∃ d, s.depth = d + 1 := ⟨s.depth - 1, by omega⟩
  rw [hd'] at p3
  have hlt : d ≤ 20000 := by have := h.fewD; omega
  have hup : s.up = { s with depth := d } := by unfold St.up; rw [hd']; rfl
  have i2 := h.setDepth hR d (by have := h.fewD; omega)
  have k2 := (Keeps.refl R w).setCell (p := ⟨R.pb, 3, none⟩) hR.p (.inl (by simp [Rig.own])) (.int .i64 (d : Int))
  rw [← hup] at i2
  clear hb hd' hup
  go_enter_d Tryd.func35, Tryd.ntmps35
  go_wp2
  go_end0
  exact ⟨rfl, by simpa using i2, by simpa using k2⟩

def Nxt.DepthOk (d : Nat) : Nxt → Prop
  | .go _ _ s => s.depth = d
  | .ret _ s => s.depth = d
  | .err s => s.depth = d
def ODepthOk (d : Nat) : Option Nxt → Prop
  | none => True
  | some n => n.DepthOk d

theorem od_ite {d : Nat} {c : Prop} [Decidable c] {a b : Option Nxt} (ha : ODepthOk d a) (hb : ODepthOk d b) : ODepthOk d (if c then a else b) := by
  split
  · exact ha
  · exact hb

theorem doSet_depth (x t : Int) (r : Regs) (s : St) : (doSet x t r s).depth = s.depth := by
  unfold doSet
  repeat' split
  all_goals rfl

theorem doRead_depth (data : List Int) (x : Int) (r : Regs) (nul : Bool) (s : St) : ODepthOk s.depth (doRead data x r nul s) := by
  unfold doRead
  repeat' (first | refine od_ite ?_ ?_ | split)
  all_goals first | rfl | trivial

theorem step1_depth (data : List Int) (op x t : Int) (r : Regs) (nul : Bool) (s : St) : ODepthOk s.depth (step1 data op x t r nul s) := by
  unfold step1
  refine od_ite (doRead_depth _ _ _ _ _) ?_
  refine od_ite (od_ite (doSet_depth _ _ _ _) trivial) ?_
  refine od_ite (od_ite rfl trivial) ?_
  refine od_ite (od_ite rfl trivial) ?_
  refine od_ite rfl ?_
  refine od_ite rfl ?_
  refine od_ite (od_ite rfl trivial) ?_
  refine od_ite rfl ?_
  refine od_ite rfl ?_
  refine od_ite (od_ite ?_ trivial) ?_
  · show (if r.c = true then { s with pc := x - 1 } else s).depth = s.depth
    split <;> rfl
  refine od_ite rfl ?_
  refine od_ite rfl ?_
  refine od_ite rfl ?_
  refine od_ite rfl ?_
  refine od_ite (od_ite rfl trivial) ?_
  refine od_ite rfl ?_
  refine od_ite (od_ite rfl trivial) ?_
  exact od_ite (od_ite rfl trivial) trivial

def Res.st : Res → St
  | .ok _ s => s
  | .err s => s

theorem evalL_depth {data : List Int} {ins : List (Int × Int)} : ∀ (k : Nat) (t : Int) (r : Regs) (nul : Bool) (s : St) (res : Res),
    evalL data ins k t r nul s = some res → res.st.depth = s.depth
  | 0, _, _, _, _, _, h => by cases h
  | k + 1, t, r, nul, s, res, h => by
    obtain ⟨h0, h1⟩ := evalL_rnd h
    rcases h1 with ⟨h1, h2⟩ | ⟨op, x, h1, hs, h2⟩
    · rw [h2]; rfl
    cases h2 with
    | enterE _ _ _ _ s3 hc hf hff hd he hr =>
      have a : s3.depth = s.depth + 1 := evalL_depth k _ _ _ _ _ he
      rw [hr]; show s3.depth - 1 = s.depth; omega
    | enterF _ _ _ _ s3 hc hf hff hd he hr =>
      have a : s3.depth = s.depth + 1 := evalL_depth k _ _ _ _ _ he
      have b : res.st.depth = s3.depth - 1 := evalL_depth k _ _ _ _ _ hr
      omega
    | enterT _ _ _ _ s3 hc hf hff hd he hf2 hr =>
      have a : s3.depth = s.depth + 1 := evalL_depth k _ _ _ _ _ he
      have b : res.st.depth = s3.depth - 1 := evalL_depth k _ _ _ _ _ hr
      omega
    | callE s3 hop hd hx0 hx1 he hr =>
      have a : s3.depth = s.depth + 1 := evalL_depth k _ _ _ _ _ he
      rw [hr]; show s3.depth - 1 = s.depth; omega
    | callF nl2 s3 hop hd hx0 hx1 he hr =>
      have a : s3.depth = s.depth + 1 := evalL_depth k _ _ _ _ _ he
      have b : res.st.depth = s3.depth - 1 := evalL_depth k _ _ _ _ _ hr
      omega
    | pushE s3 hop hd he hr =>
      have a : s3.depth = s.depth + 1 := evalL_depth k _ _ _ _ _ he
      rw [hr]; show s3.depth - 1 = s.depth; omega
    | pushF nl2 s3 hop hd he hr =>
      have a : s3.depth = s.depth + 1 := evalL_depth k _ _ _ _ _ he
      have b : res.st.depth = s3.depth - 1 := evalL_depth k _ _ _ _ _ hr
      omega
    | go r' nul' s' h1 hr =>
      have b : res.st.depth = s'.nextPc.depth := evalL_depth k _ _ _ _ _ hr
      have b2 : s'.nextPc.depth = s'.depth := rfl
      have p := step1_depth data op x t r nul { s with steps := s.steps + 1 }
      rw [h1] at p
      have p' : s'.depth = s.depth := p
      omega
    | ret nul' s' h1 hr =>
      have p := step1_depth data op x t r nul { s with steps := s.steps + 1 }
      rw [h1] at p
      rw [hr]; exact p
    | err s' h1 hr =>
      have p := step1_depth data op x t r nul { s with steps := s.steps + 1 }
      rw [h1] at p
      rw [hr]; exact p

theorem door {R : Rig} {s : St} {w0 w : World} {a : Act} {xb : Nat} {v10 v11 : Value} {P : Ending → World → Prop} (hR : R.Ok) (h : Inv R s w) (hb : w.heap[xb]? = some (.cells #[.pointer (some ⟨R.pb, 0, none⟩)] 66 (0, 0))) (hd : 1 ≤ s.depth)
    (h10 : a.tmps.getD 10 undef = v10) (h11 : a.tmps.getD 11 undef = v11) (hdf : a.defers = dfr29 xb) (hk : Keeps R w0 w)
    (hP : ∀ w', Inv R s.up w' → Keeps R w w' → P (.returned (.tuple #[v10, v11])) w') : bodyPostD Tryd.prog Tryd.f29 P .ret a w := by
  have _ := hk
  show Leaves Tryd.prog Tryd.f29 a.tmps P a.defers .returning w
  rw [hdf]
  refine leaves_cons (f := 35) (args := #[.pointer (some ⟨xb, 0, none⟩)]) (by simp) (by simp [go_sem]) ?_
  refine (deferred_any hR h xb hb hd .returning).mono ?_
  rintro e u' w'' ⟨rfl, rfl, hi, hk2⟩
  refine ⟨_, results_tmp2 rfl _ _ _, ?_⟩
  rw [h10, h11]
  exact hP w'' hi hk2

set_option maxRecDepth 1000000 in
set_option maxHeartbeats 8000000 in
theorem evalCall_step {n : Nat} (HC : ∀ k, k < n → EvalCall k) (hn : n ≤ 900000) : EvalCall n := by
  intro R s w t res hR h hd hev
  have p3 := h.cP3
  have p3f := h.fP 3
  have hlim : decide (10000 < (s.depth : Int) + 1) = false := by rw [decide_eq_false_iff_not]; omega
  have z1 := lt_of_block h.prog
  have hmf : ∀ (fn : Fn) (first cap : Array Value) (w : World), (Instr.makeFunc fn first cap).run Tryd.prog w = .ok (.func fn first cap) w := fun _ _ _ _ => rfl
  have sf := store_float
  have HC' := Go.Lib.hid HC
  have Hev := Go.Lib.hid hev
  clear HC hev
  go_enter_defers Tryd.func29, Tryd.ntmps29
  go_wp2
  rename_i K1 hK1
  have i1 := h.setDepth hR (s.depth + 1) (by omega)
  have hsz : (w.setCell ⟨R.pb, 3, none⟩ (.int .i64 ((s.depth + 1 : Nat) : Int))).heap.size = w.heap.size := World.size_setCell _ _ _
  have k1 := (Keeps.refl R w).setCell (p := ⟨R.pb, 3, none⟩) hR.p (.inl (by simp [Rig.own])) (.int .i64 ((s.depth + 1 : Nat) : Int))
  have i3 := (i1.alloc hR (.cells #[.pointer (some ⟨R.pb, 0, none⟩)] 66)).alloc hR (.cells (regArr Regs.zero (.slice none 0 0)) 102)
  have k3 := (k1.alloc (i1.base hR) (.cells #[.pointer (some ⟨R.pb, 0, none⟩)] 66)).alloc ((i1.alloc hR _).base hR) (.cells (regArr Regs.zero (.slice none 0 0)) 102)
  have hbx := heap_alloc2_old (w.setCell ⟨R.pb, 3, none⟩ (.int .i64 ((s.depth + 1 : Nat) : Int))) (.cells #[.pointer (some ⟨R.pb, 0, none⟩)] 66) (.cells (regArr Regs.zero (.slice none 0 0)) 102)
  have hfr := heap_alloc2_new (w.setCell ⟨R.pb, 3, none⟩ (.int .i64 ((s.depth + 1 : Nat) : Int))) (.cells #[.pointer (some ⟨R.pb, 0, none⟩)] 66) (.cells (regArr Regs.zero (.slice none 0 0)) 102)
  rw [hsz] at hbx hfr
  have hxo : ¬ R.own w.heap.size := h.fresh
  have hfo : ¬ R.own (w.heap.size + 1) := fun e => by have := h.size e; omega
  have hfi : w.heap.size + 1 ≠ R.ib := fun e => by have := lt_of_block h.ins; omega
  have l3 : Loc R _ w.heap.size (w.heap.size + 1) Regs.zero := ⟨hbx, hxo, ⟨_, hfr, .inl ⟨rfl, rfl⟩⟩, hfo, by have := h.base hR; omega, hfi⟩
  have hdp := evalL_depth _ _ _ _ _ _ Hev.out
  have fin : ∀ {w' : World}, KeepsG R (w.heap.size + 1) w w' → Keeps R w w' := fun hg => KeepsG.fresh (Keeps.refl R w) hg (by omega)
  refine level_loop (xb := w.heap.size) (fb := w.heap.size + 1) (t := t) (nul := false) (r := Regs.zero) (s := { s with depth := s.depth + 1 }) (w0 := w) (n := n) (res := res) hR HC'.out hn i3 l3 ⟨rfl, rfl, rfl, rfl, rfl, rfl, rfl, rfl, rfl⟩ rfl k3.toG Hev.out ⟨?_, ?_, ?_⟩
  · rintro s2 r2 nul2 a' w' rfl f1 f2 f3 f4 f5
    show K1 a' w'
    refine hK1 _ _ ?_
    obtain ⟨u2, rfl⟩ := f1.lit f2
    have hd2 : 1 ≤ s2.depth := by have e : s2.depth = s.depth + 1 := hdp; omega
    have Hf := Go.Lib.hid f4
    clear f1 f2 f4
    unfold lit29
    go_wp2
    exact door hR f3 Hf.out.box hd2 rfl rfl rfl (fin f5) (fun w2 g1 g2 => ⟨rfl, g1, (fin f5).trans g2⟩)
  · rintro nul2 s2 a' w' rfl f
    have hd2 : 1 ≤ s2.depth := by have e : s2.depth = s.depth + 1 := hdp; omega
    exact door hR f.inv f.box hd2 f.s10 f.s11 f.dfr (fin f.keeps) (fun w2 g1 g2 => ⟨rfl, g1, (fin f.keeps).trans g2⟩)
  · rintro s2 a' w' rfl f
    have hd2 : 1 ≤ s2.depth := by have e : s2.depth = s.depth + 1 := hdp; omega
    obtain ⟨ev, p, h11, he, hi⟩ := f.err
    exact door hR hi f.box hd2 f.s10 h11 f.dfr (fin f.keeps) (fun w2 g1 g2 => ⟨p, ev, rfl, he.keep g2, g1, (fin f.keeps).trans g2⟩)

/-- evalInner does what the plain machine does. -/
theorem evalCall_all : ∀ n, n ≤ 900000 → EvalCall n := by
  intro n
  induction n using Nat.strongRecOn with
  | _ n ih => intro hn; exact evalCall_step (fun k hk => ih k hk (by omega)) hn

end Go.Proofs.YtkhicabfmkldpaaDoor
