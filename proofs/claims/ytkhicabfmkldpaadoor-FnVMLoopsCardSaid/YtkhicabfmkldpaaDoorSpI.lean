/- The reference's level: the rounds that enter a level. -/
import Derived.Test.YtkhicabfmkldpaaDoorSpH
namespace Go.Proofs.YtkhicabfmkldpaaDoor
open Go.RowKit

theorem VHead.midK {V : VRig} {t o f : Int} {rb L : Nat} {s0 s : VSt} {w0 w : World} {nul : Bool} {a : Act} (_ : VHead V t o f rb L s0 w0 nul s a w) (k n1 n2 : Nat) : VKeep V V.mb w (vmidW V s w k n1 n2) :=
  ((((VKeep.refl V V.mb w).drewN n1).set (p := ⟨V.mb, 5, none⟩) (.inl rfl) _).drewN n2).set (p := ⟨V.mb, 6, none⟩) (.inl rfl) _

/-- Behind an inner level: the outer one's registers are what they were. -/
theorem VHead.inner {V : VRig} {t o f : Int} {rb L : Nat} {s0 s s4 : VSt} {w0 w w3 w4 : World} {nul nul' : Bool} {a a' : Act} {ob : Obj} (h : VHead V t o f rb L s0 w0 nul s a w) (hf : VFrame V t o f rb nul' a') (hl : 2 ≤ s.left)
    (kk : VKeep V V.mb w w3) (k4 : VKeep V w3.heap.size (w3.alloc ob) w4) (g4 : VAt V s4 w4) (hp : s4.odd = true ∨ 0 ≤ s4.pc) (e1 : s4.left ≤ s.left - 1) (e2 : -((L - 1 : Nat) : Int) ≤ s4.left) (e3 : (s4.n : Int) + 2 * s4.left ≤ (s.n : Int) + 2 * s.left) :
    VHead V t o f rb L s0 w0 nul' s4 a' w4 := by
  have hL : 2 ≤ L := by have := h.hi; have := h.le; omega
  have rl : rb < w.heap.size := by obtain ⟨_, _, _, _, _, _, _, _, hh⟩ := h.loc.regs; exact lt_of_block hh
  have k5 : VKeep V V.mb w (w3.alloc ob) := kk.alloc ob
  have k6 : VKeep V V.mb w w4 := k5.other k4 (by have := kk.size; omega)
  exact h.next hf g4 (h.loc.keep k6 h.loc.ne) k6.mono hp e1 (by omega) e3

set_option maxRecDepth 1000000 in
set_option maxHeartbeats 8000000 in
theorem vround_2 {V : VRig} {t o f : Int} {rb L k : Nat} {s0 s : VSt} {w0 w : World} {nul : Bool} {a : Act} {K : Act → World → Prop} {Q : Exit → Act → World → Prop} (h : VHead V t o f rb L s0 w0 nul s a w) (hQ : VQ V t o f rb L s0 w0 Q) (hK : VNext V t o f rb L s0 w0 s K)
    (hbad : s.bad = false) (hodd : s.odd = false) (hpc : s.pc = (k : Int)) (hl : 2 ≤ s.left) {x : Int} (hL : VLevel (L - 1)) (hi : V.ins[k]? = some (2, x)) : Code.wp Tryd.prog body15 (Exit.then K Q) a w := by
  obtain ⟨u, rfl⟩ := h.frame.lit
  obtain ⟨c0, ⟨da, cap, c1, hb⟩, c3, c4, c5, c6, c7⟩ := h.gen.cells
  obtain ⟨n0, n1⟩ := h.gen.ins.at' k _ x hi
  have hif := h.gen.ins.few
  have f3 := h.gen.fz 3
  have f5 := h.gen.fz 5
  have f6 := h.gen.fz 6
  have hbig := h.big
  have hne : ¬ V.ib = V.mb := by have := h.gen.ins.old; have := h.gen.mb; omega
  have hk : k < V.ins.length := (List.getElem?_eq_some_iff.1 hi).1
  have hk0 : (0 : Int) ≤ (k : Int) := by omega
  have hlim : s.left ≤ 3000 := by have := h.le; have := h.hi; omega
  have hn : s.n < 50000 := by have := h.n; have := h.few; omega
  rw [hbad] at c3
  rw [hodd] at c4
  rw [hpc] at c6
  have HI := Go.Lib.hid hi
  have M := Go.Lib.hid (fun n1 n2 => h.mid k n1 n2)
  have H := Go.Lib.hid h
  have HQ := Go.Lib.hid hQ
  have HK := Go.Lib.hid hK
  have HL := Go.Lib.hid hL
  have hL1 : 2 ≤ L := by have := h.hi; have := h.le; omega
  have hleL : s.left ≤ (L : Int) := by have := h.hi; have := h.le; omega
  have r := h.loc
  have rl := lt_of_block (r.regs.choose_spec.choose_spec.choose_spec.choose_spec.choose_spec.choose_spec.choose_spec.choose_spec)
  obtain ⟨ra, rbb, rc, rd, re, rf, ry, rz, r0, r1, r2, r3, r4, r5, r6, r7, rfz⟩ := r.cells
  have hrm : ¬ rb = V.mb := r.ne
  have hFew := Go.Lib.hid (And.intro h.n h.few)
  clear hL r
  clear h hQ hK hb c1 hbad hodd hpc hi
  unfold lit15
  conv => arg 2; whnf
  go_wp2
  go_quiet (fail)
  go_wp2
  go_quiet (fail)
  go_wp2_with (first | (go_at_call 24; refine (vnote_any (M.out _ _).1 (by show s.n < 100000; omega) V.mb _ _ _ _).mono ?_; rintro e2 w2 ⟨s2, rfl, rfl, g2, k2⟩; have K2 := Go.Lib.hid k2; have G2 := Go.Lib.hid g2; clear g2 k2) | (go_at_call 25; refine (vfurther_any G2.out V.mb).mono ?_; rintro e3 w3 ⟨tg, s3, rfl, rfl, g3, k3⟩; have K3 := Go.Lib.hid k3; have G3 := Go.Lib.hid g3; clear g3 k3) | (go_at_call 15; refine (HL.out V _ _ w3.heap.size _ _ _ (G3.out.alloc _) (vnew G3.out _ _) (.inr (by show (0 : Int) ≤ (k : Int) + 1; omega)) (by show 1 ≤ s.left - 1; omega) (by show s.left - 1 ≤ ((L - 1 : Nat) : Int); omega) (by have := hFew.out; show (s.n : Int) + 1 + 2 * (s.left - 1) ≤ 10000; omega)).mono ?_; rintro e4 w4 ⟨s4, rfl, g4, k4, b4⟩; have K4 := Go.Lib.hid k4; have G4 := Go.Lib.hid g4; have B4 := Go.Lib.hid b4; clear g4 k4 b4))
  exact HK.out _ s4 _ _ (H.out.inner ⟨rfl, rfl, rfl, rfl, rfl, rfl, rfl, rfl⟩ hl (((H.out.midK k _ _).trans K2.out).trans K3.out) K4.out G4.out B4.out.pc B4.out.le B4.out.lo (by have : (s4.n : Int) + 2 * s4.left ≤ ((s.n + 1 : Nat) : Int) + 2 * (s.left - 1) := B4.out.n; omega)) (by have : s4.left ≤ s.left - 1 := B4.out.le; omega)
set_option maxRecDepth 1000000 in
set_option maxHeartbeats 8000000 in
theorem vround_5 {V : VRig} {t o f : Int} {rb L k : Nat} {s0 s : VSt} {w0 w : World} {nul : Bool} {a : Act} {K : Act → World → Prop} {Q : Exit → Act → World → Prop} (h : VHead V t o f rb L s0 w0 nul s a w) (hQ : VQ V t o f rb L s0 w0 Q) (hK : VNext V t o f rb L s0 w0 s K)
    (hbad : s.bad = false) (hodd : s.odd = false) (hpc : s.pc = (k : Int)) (hl : 2 ≤ s.left) {x : Int} (hL : VLevel (L - 1)) (hi : V.ins[k]? = some (5, x)) : Code.wp Tryd.prog body15 (Exit.then K Q) a w := by
  obtain ⟨u, rfl⟩ := h.frame.lit
  obtain ⟨c0, ⟨da, cap, c1, hb⟩, c3, c4, c5, c6, c7⟩ := h.gen.cells
  obtain ⟨n0, n1⟩ := h.gen.ins.at' k _ x hi
  have hif := h.gen.ins.few
  have f3 := h.gen.fz 3
  have f5 := h.gen.fz 5
  have f6 := h.gen.fz 6
  have hbig := h.big
  have hne : ¬ V.ib = V.mb := by have := h.gen.ins.old; have := h.gen.mb; omega
  have hk : k < V.ins.length := (List.getElem?_eq_some_iff.1 hi).1
  have hk0 : (0 : Int) ≤ (k : Int) := by omega
  have hlim : s.left ≤ 3000 := by have := h.le; have := h.hi; omega
  have hn : s.n < 50000 := by have := h.n; have := h.few; omega
  rw [hbad] at c3
  rw [hodd] at c4
  rw [hpc] at c6
  have HI := Go.Lib.hid hi
  have M := Go.Lib.hid (fun n1 n2 => h.mid k n1 n2)
  have H := Go.Lib.hid h
  have HQ := Go.Lib.hid hQ
  have HK := Go.Lib.hid hK
  have HL := Go.Lib.hid hL
  have hL1 : 2 ≤ L := by have := h.hi; have := h.le; omega
  have hleL : s.left ≤ (L : Int) := by have := h.hi; have := h.le; omega
  have r := h.loc
  have rl := lt_of_block (r.regs.choose_spec.choose_spec.choose_spec.choose_spec.choose_spec.choose_spec.choose_spec.choose_spec)
  obtain ⟨ra, rbb, rc, rd, re, rf, ry, rz, r0, r1, r2, r3, r4, r5, r6, r7, rfz⟩ := r.cells
  have hrm : ¬ rb = V.mb := r.ne
  have hFew := Go.Lib.hid (And.intro h.n h.few)
  clear hL r
  clear h hQ hK hb c1 hbad hodd hpc hi
  unfold lit15
  conv => arg 2; whnf
  go_wp2
  go_quiet (fail)
  go_wp2
  go_quiet (fail)
  go_wp2_with (first | (go_at_call 24; refine (vnote_any (M.out _ _).1 (by show s.n < 100000; omega) V.mb _ _ _ _).mono ?_; rintro e2 w2 ⟨s2, rfl, rfl, g2, k2⟩; have K2 := Go.Lib.hid k2; have G2 := Go.Lib.hid g2; clear g2 k2) | (go_at_call 25; refine (vfurther_any G2.out V.mb).mono ?_; rintro e3 w3 ⟨tg, s3, rfl, rfl, g3, k3⟩; have K3 := Go.Lib.hid k3; have G3 := Go.Lib.hid g3; clear g3 k3) | (go_at_call 15; refine (HL.out V _ _ w3.heap.size _ _ _ (G3.out.alloc _) (vnew G3.out _ _) (.inr (by show (0 : Int) ≤ (k : Int) + 1; omega)) (by show 1 ≤ s.left - 1; omega) (by show s.left - 1 ≤ ((L - 1 : Nat) : Int); omega) (by have := hFew.out; show (s.n : Int) + 1 + 2 * (s.left - 1) ≤ 10000; omega)).mono ?_; rintro e4 w4 ⟨s4, rfl, g4, k4, b4⟩; have K4 := Go.Lib.hid k4; have G4 := Go.Lib.hid g4; have B4 := Go.Lib.hid b4; clear g4 k4 b4))
  exact HK.out _ s4 _ _ (H.out.inner ⟨rfl, rfl, rfl, rfl, rfl, rfl, rfl, rfl⟩ hl (((H.out.midK k _ _).trans K2.out).trans K3.out) K4.out G4.out B4.out.pc B4.out.le B4.out.lo (by have : (s4.n : Int) + 2 * s4.left ≤ ((s.n + 1 : Nat) : Int) + 2 * (s.left - 1) := B4.out.n; omega)) (by have : s4.left ≤ s.left - 1 := B4.out.le; omega)
set_option maxRecDepth 1000000 in
set_option maxHeartbeats 8000000 in
theorem vround_6 {V : VRig} {t o f : Int} {rb L k : Nat} {s0 s : VSt} {w0 w : World} {nul : Bool} {a : Act} {K : Act → World → Prop} {Q : Exit → Act → World → Prop} (h : VHead V t o f rb L s0 w0 nul s a w) (hQ : VQ V t o f rb L s0 w0 Q) (hK : VNext V t o f rb L s0 w0 s K)
    (hbad : s.bad = false) (hodd : s.odd = false) (hpc : s.pc = (k : Int)) (hl : 2 ≤ s.left) {x : Int} (hL : VLevel (L - 1)) (hi : V.ins[k]? = some (6, x)) : Code.wp Tryd.prog body15 (Exit.then K Q) a w := by
  obtain ⟨u, rfl⟩ := h.frame.lit
  obtain ⟨c0, ⟨da, cap, c1, hb⟩, c3, c4, c5, c6, c7⟩ := h.gen.cells
  obtain ⟨n0, n1⟩ := h.gen.ins.at' k _ x hi
  have hif := h.gen.ins.few
  have f3 := h.gen.fz 3
  have f5 := h.gen.fz 5
  have f6 := h.gen.fz 6
  have hbig := h.big
  have hne : ¬ V.ib = V.mb := by have := h.gen.ins.old; have := h.gen.mb; omega
  have hk : k < V.ins.length := (List.getElem?_eq_some_iff.1 hi).1
  have hk0 : (0 : Int) ≤ (k : Int) := by omega
  have hlim : s.left ≤ 3000 := by have := h.le; have := h.hi; omega
  have hn : s.n < 50000 := by have := h.n; have := h.few; omega
  rw [hbad] at c3
  rw [hodd] at c4
  rw [hpc] at c6
  have HI := Go.Lib.hid hi
  have M := Go.Lib.hid (fun n1 n2 => h.mid k n1 n2)
  have H := Go.Lib.hid h
  have HQ := Go.Lib.hid hQ
  have HK := Go.Lib.hid hK
  have HL := Go.Lib.hid hL
  have hL1 : 2 ≤ L := by have := h.hi; have := h.le; omega
  have hleL : s.left ≤ (L : Int) := by have := h.hi; have := h.le; omega
  have r := h.loc
  have rl := lt_of_block (r.regs.choose_spec.choose_spec.choose_spec.choose_spec.choose_spec.choose_spec.choose_spec.choose_spec)
  obtain ⟨ra, rbb, rc, rd, re, rf, ry, rz, r0, r1, r2, r3, r4, r5, r6, r7, rfz⟩ := r.cells
  have hrm : ¬ rb = V.mb := r.ne
  have hFew := Go.Lib.hid (And.intro h.n h.few)
  clear hL r
  clear h hQ hK hb c1 hbad hodd hpc hi
  unfold lit15
  conv => arg 2; whnf
  go_wp2
  go_quiet (fail)
  go_wp2
  go_quiet (fail)
  go_wp2_with (first | (go_at_call 24; refine (vnote_any (M.out _ _).1 (by show s.n < 100000; omega) V.mb _ _ _ _).mono ?_; rintro e2 w2 ⟨s2, rfl, rfl, g2, k2⟩; have K2 := Go.Lib.hid k2; have G2 := Go.Lib.hid g2; clear g2 k2) | (go_at_call 25; refine (vfurther_any G2.out V.mb).mono ?_; rintro e3 w3 ⟨tg, s3, rfl, rfl, g3, k3⟩; have K3 := Go.Lib.hid k3; have G3 := Go.Lib.hid g3; clear g3 k3) | (go_at_call 15; refine (HL.out V _ _ w3.heap.size _ _ _ (G3.out.alloc _) (vnew G3.out _ _) (.inr (by show (0 : Int) ≤ (k : Int) + 1; omega)) (by show 1 ≤ s.left - 1; omega) (by show s.left - 1 ≤ ((L - 1 : Nat) : Int); omega) (by have := hFew.out; show (s.n : Int) + 1 + 2 * (s.left - 1) ≤ 10000; omega)).mono ?_; rintro e4 w4 ⟨s4, rfl, g4, k4, b4⟩; have K4 := Go.Lib.hid k4; have G4 := Go.Lib.hid g4; have B4 := Go.Lib.hid b4; clear g4 k4 b4))
  exact HK.out _ s4 _ _ (H.out.inner ⟨rfl, rfl, rfl, rfl, rfl, rfl, rfl, rfl⟩ hl (((H.out.midK k _ _).trans K2.out).trans K3.out) K4.out G4.out B4.out.pc B4.out.le B4.out.lo (by have : (s4.n : Int) + 2 * s4.left ≤ ((s.n + 1 : Nat) : Int) + 2 * (s.left - 1) := B4.out.n; omega)) (by have : s4.left ≤ s.left - 1 := B4.out.le; omega)
end Go.Proofs.YtkhicabfmkldpaaDoor
