/- The reference's level: the rounds that call and that push; the level. -/
import Derived.Test.YtkhicabfmkldpaaDoorSpI
namespace Go.Proofs.YtkhicabfmkldpaaDoor
open Go.RowKit

theorem vnewAt {V : VRig} {s : VSt} {w : World} {N : Nat} (h : VAt V s w) (hz : w.heap.size = N) (x y : ByteArray) : VLoc V N (w.alloc (.cells #[.bool false, .bool false, .int .i64 0, .int .i64 0, .int .u64 0, .int .u64 0, .string x, .string y] 50)) := by
  subst hz
  exact vnew h x y

theorem vmidW_size (V : VRig) (s : VSt) (w : World) (k n1 n2 : Nat) : (vmidW V s w k n1 n2).heap.size = w.heap.size := by simp [vmidW]

theorem VHead.setPc {V : VRig} {t o f : Int} {rb L : Nat} {s0 s : VSt} {w0 w : World} {nul : Bool} {a : Act} (h : VHead V t o f rb L s0 w0 nul s a w) (v : Int) (hv : 0 ≤ v) :
    VHead V t o f rb L s0 w0 nul { s with pc := v } a (w.setCell ⟨V.mb, 6, none⟩ (.int .i64 v)) :=
  ⟨h.frame, (h.gen.setPc rb v).1, h.loc.keep (h.gen.setPc V.mb v).2 h.loc.ne, h.keep.trans (h.gen.setPc rb v).2, .inr hv, h.le, h.lo, h.n, h.few, h.big, h.hi⟩
theorem VHead.setReg {V : VRig} {t o f : Int} {rb L : Nat} {s0 s : VSt} {w0 w : World} {nul : Bool} {a : Act} (h : VHead V t o f rb L s0 w0 nul s a w) (v : Int) :
    VHead V t o f rb L s0 w0 nul s a (w.setCell ⟨rb, 3, none⟩ (.int .i64 v)) :=
  have S := h.loc.set h.gen 3 (.int .i64 v) (.inr (.inl ⟨.inr rfl, _, rfl⟩))
  ⟨h.frame, S.1, S.2.2, h.keep.trans S.2.1, h.pc, h.le, h.lo, h.n, h.few, h.big, h.hi⟩

theorem VHead.innerAt {V : VRig} {t o f : Int} {rb L N : Nat} {s0 s s4 : VSt} {w0 w w3 w4 : World} {nul nul' : Bool} {a a' : Act} {ob : Obj} (h : VHead V t o f rb L s0 w0 nul s a w) (hf : VFrame V t o f rb nul' a') (hl : 2 ≤ s.left)
    (kk : VKeep V V.mb w w3) (hz : w3.heap.size = N) (k4 : VKeep V N (w3.alloc ob) w4) (g4 : VAt V s4 w4) (hp : s4.odd = true ∨ 0 ≤ s4.pc) (e1 : s4.left ≤ s.left - 1) (e2 : -((L - 1 : Nat) : Int) ≤ s4.left) (e3 : (s4.n : Int) + 2 * s4.left ≤ (s.n : Int) + 2 * s.left) :
    VHead V t o f rb L s0 w0 nul' s4 a' w4 := by
  subst hz
  exact h.inner hf hl kk k4 g4 hp e1 e2 e3

set_option maxRecDepth 1000000 in
set_option maxHeartbeats 8000000 in
theorem vround_8 {V : VRig} {t o f : Int} {rb L k : Nat} {s0 s : VSt} {w0 w : World} {nul : Bool} {a : Act} {K : Act → World → Prop} {Q : Exit → Act → World → Prop} (h : VHead V t o f rb L s0 w0 nul s a w) (hQ : VQ V t o f rb L s0 w0 Q) (hK : VNext V t o f rb L s0 w0 s K)
    (hbad : s.bad = false) (hodd : s.odd = false) (hpc : s.pc = (k : Int)) (hl : 2 ≤ s.left) {x : Int} (hL : VLevel (L - 1)) (hx0 : 0 ≤ x) (hi : V.ins[k]? = some (8, x)) : Code.wp Tryd.prog body15 (Exit.then K Q) a w := by
  obtain ⟨u, rfl⟩ := h.frame.lit
  obtain ⟨c0, ⟨da, cap, c1, hb⟩, c3, c4, c5, c6, c7⟩ := h.gen.cells
  obtain ⟨n0, n1⟩ := h.gen.ins.at' k _ x hi
  have hif := h.gen.ins.few
  have f3 := h.gen.fz 3
  have f5 := h.gen.fz 5
  have f6 := h.gen.fz 6
  have hbig := h.big
  have hne : ¬ V.ib = V.mb := by have := h.gen.ins.old; have := h.gen.mb; omega
  have hk : k < V.ins.length := (List.getElem?_eq_some_iff.1 hi).1
  have hk0 : (0 : Int) ≤ (k : Int) := by omega
  have hlim : s.left ≤ 3000 := by have := h.le; have := h.hi; omega
  have hn : s.n < 50000 := by have := h.n; have := h.few; omega
  rw [hbad] at c3
  rw [hodd] at c4
  rw [hpc] at c6
  have HI := Go.Lib.hid hi
  have M := Go.Lib.hid (fun n1 n2 => h.mid k n1 n2)
  have H := Go.Lib.hid h
  have HQ := Go.Lib.hid hQ
  have HK := Go.Lib.hid hK
  have HL := Go.Lib.hid hL
  have hL1 : 2 ≤ L := by have := h.hi; have := h.le; omega
  have hleL : s.left ≤ (L : Int) := by have := h.hi; have := h.le; omega
  have r := h.loc
  have rl := lt_of_block (r.regs.choose_spec.choose_spec.choose_spec.choose_spec.choose_spec.choose_spec.choose_spec.choose_spec)
  obtain ⟨ra, rbb, rc, rd, re, rf, ry, rz, r0, r1, r2, r3, r4, r5, r6, r7, rfz⟩ := r.cells
  have hrm : ¬ rb = V.mb := r.ne
  have hFew := Go.Lib.hid (And.intro h.n h.few)
  clear hL r
  clear h hQ hK hb c1 hbad hodd hpc hi
  unfold lit15
  conv => arg 2; whnf
  go_wp2
  go_quiet (fail)
  go_wp2
  go_quiet (fail)
  go_wp2_with (go_at_call 15; refine (HL.out V { vmid s k with pc := x } _ w.heap.size _ _ _ (((M.out _ _).1.setPc V.mb x).1.alloc _) (vnewAt ((M.out _ _).1.setPc V.mb x).1 (by rw [World.size_setCell]; exact vmidW_size _ _ _ _ _ _) _ _) (.inr hx0) (by show 1 ≤ s.left - 1; omega) (by show s.left - 1 ≤ ((L - 1 : Nat) : Int); omega) (by have := hFew.out; show (s.n : Int) + 2 * (s.left - 1) ≤ 10000; omega)).mono ?_; rintro e4 w4 ⟨s4, rfl, g4, k4, b4⟩; have q6 := g4.cells.2.2.2.2.2.1; have q6f := g4.fz 6; have K4 := Go.Lib.hid k4; have G4 := Go.Lib.hid g4; have B4 := Go.Lib.hid b4; clear g4 k4 b4)
  exact HK.out nul _ _ _ (VHead.setPc (VHead.innerAt H.out ⟨rfl, rfl, rfl, rfl, rfl, rfl, rfl, rfl⟩ hl ((H.out.midK k _ _).trans ((M.out _ _).1.setPc V.mb x).2) (by rw [World.size_setCell]; exact vmidW_size _ _ _ _ _ _) K4.out G4.out B4.out.pc B4.out.le B4.out.lo (by have : (s4.n : Int) + 2 * s4.left ≤ (s.n : Int) + 2 * (s.left - 1) := B4.out.n; omega)) ((k : Int) + 1) (by omega)) (by have : s4.left ≤ s.left - 1 := B4.out.le; show s4.left < _; omega)
set_option maxRecDepth 1000000 in
set_option maxHeartbeats 8000000 in
theorem vround_19 {V : VRig} {t o f : Int} {rb L k : Nat} {s0 s : VSt} {w0 w : World} {nul : Bool} {a : Act} {K : Act → World → Prop} {Q : Exit → Act → World → Prop} (h : VHead V t o f rb L s0 w0 nul s a w) (hQ : VQ V t o f rb L s0 w0 Q) (hK : VNext V t o f rb L s0 w0 s K)
    (hbad : s.bad = false) (hodd : s.odd = false) (hpc : s.pc = (k : Int)) (hl : 2 ≤ s.left) {x : Int} (hL : VLevel (L - 1)) (hi : V.ins[k]? = some (19, x)) : Code.wp Tryd.prog body15 (Exit.then K Q) a w := by
  obtain ⟨u, rfl⟩ := h.frame.lit
  obtain ⟨c0, ⟨da, cap, c1, hb⟩, c3, c4, c5, c6, c7⟩ := h.gen.cells
  obtain ⟨n0, n1⟩ := h.gen.ins.at' k _ x hi
  have hif := h.gen.ins.few
  have f3 := h.gen.fz 3
  have f5 := h.gen.fz 5
  have f6 := h.gen.fz 6
  have hbig := h.big
  have hne : ¬ V.ib = V.mb := by have := h.gen.ins.old; have := h.gen.mb; omega
  have hk : k < V.ins.length := (List.getElem?_eq_some_iff.1 hi).1
  have hk0 : (0 : Int) ≤ (k : Int) := by omega
  have hlim : s.left ≤ 3000 := by have := h.le; have := h.hi; omega
  have hn : s.n < 50000 := by have := h.n; have := h.few; omega
  rw [hbad] at c3
  rw [hodd] at c4
  rw [hpc] at c6
  have HI := Go.Lib.hid hi
  have M := Go.Lib.hid (fun n1 n2 => h.mid k n1 n2)
  have H := Go.Lib.hid h
  have HQ := Go.Lib.hid hQ
  have HK := Go.Lib.hid hK
  have HL := Go.Lib.hid hL
  have hL1 : 2 ≤ L := by have := h.hi; have := h.le; omega
  have hleL : s.left ≤ (L : Int) := by have := h.hi; have := h.le; omega
  have r := h.loc
  have rl := lt_of_block (r.regs.choose_spec.choose_spec.choose_spec.choose_spec.choose_spec.choose_spec.choose_spec.choose_spec)
  obtain ⟨ra, rbb, rc, rd, re, rf, ry, rz, r0, r1, r2, r3, r4, r5, r6, r7, rfz⟩ := r.cells
  have hrm : ¬ rb = V.mb := r.ne
  have hFew := Go.Lib.hid (And.intro h.n h.few)
  clear hL r
  clear h hQ hK hb c1 hbad hodd hpc hi
  unfold lit15
  conv => arg 2; whnf
  go_wp2
  go_quiet (fail)
  go_wp2
  go_quiet (fail)
  go_wp2_with (go_at_call 15; refine (HL.out V (vmid s k) _ w.heap.size _ _ _ ((M.out _ _).1.alloc _) (vnewAt (M.out _ _).1 (vmidW_size _ _ _ _ _ _) _ _) (.inr (by show (0 : Int) ≤ (k : Int) + 1; omega)) (by show 1 ≤ s.left - 1; omega) (by show s.left - 1 ≤ ((L - 1 : Nat) : Int); omega) (by have := hFew.out; show (s.n : Int) + 2 * (s.left - 1) ≤ 10000; omega)).mono ?_; rintro e4 w4 ⟨s4, rfl, g4, k4, b4⟩; have K4 := Go.Lib.hid k4; have G4 := Go.Lib.hid g4; have B4 := Go.Lib.hid b4; have L4 : VLoc V rb w4 := VLoc.keep H.out.loc (VKeep.other (VKeep.alloc (H.out.midK k _ _) _) k4 (Nat.le_refl _)) H.out.loc.ne; obtain ⟨ra, rbb, rc, rd2, re, rf, ry, rz, r0, r1, r2, r3, r4, r5, r6, r7, rfz⟩ := L4.cells; clear g4 k4 b4)
  exact HK.out nul _ _ _ (VHead.setReg (VHead.innerAt H.out ⟨rfl, rfl, rfl, rfl, rfl, rfl, rfl, rfl⟩ hl (H.out.midK k _ _) (vmidW_size _ _ _ _ _ _) K4.out G4.out B4.out.pc B4.out.le B4.out.lo (by have : (s4.n : Int) + 2 * s4.left ≤ (s.n : Int) + 2 * (s.left - 1) := B4.out.n; omega)) _) (by have : s4.left ≤ s.left - 1 := B4.out.le; omega)
end Go.Proofs.YtkhicabfmkldpaaDoor
