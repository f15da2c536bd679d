/- The reference's level: a round, by the operation. -/
import Derived.Test.YtkhicabfmkldpaaDoorSpG
namespace Go.Proofs.YtkhicabfmkldpaaDoor
open Go.RowKit

theorem VHead.next {V : VRig} {t o f : Int} {rb L : Nat} {s0 s s2 : VSt} {w0 w W : World} {nul nul' : Bool} {a a' : Act} (h : VHead V t o f rb L s0 w0 nul s a w) (hf : VFrame V t o f rb nul' a')
    (g : VAt V s2 W) (l : VLoc V rb W) (k : VKeep V rb w W) (hp : s2.odd = true ∨ 0 ≤ s2.pc) (hl : s2.left ≤ s.left - 1) (hlo : 1 ≤ s2.left + L) (hn : (s2.n : Int) + 2 * s2.left ≤ (s.n : Int) + 2 * s.left) :
    VHead V t o f rb L s0 w0 nul' s2 a' W :=
  ⟨hf, g, l, h.keep.trans k, hp, by have := h.le; omega, hlo, by have := h.n; omega, h.few, h.big, h.hi⟩

/-- The state at the switch. -/
def vmid (s : VSt) (k : Nat) : VSt := ⟨s.data, s.n, s.bad, s.odd, s.left - 1, (k : Int) + 1, s.tg⟩
def vmidW (V : VRig) (s : VSt) (w : World) (k n1 n2 : Nat) : World := ((((w.drewN n1).setCell ⟨V.mb, 5, none⟩ (.int .i64 (s.left - 1))).drewN n2).setCell ⟨V.mb, 6, none⟩ (.int .i64 ((k : Int) + 1)))

theorem VHead.mid {V : VRig} {t o f : Int} {rb L : Nat} {s0 s : VSt} {w0 w : World} {nul : Bool} {a : Act} (h : VHead V t o f rb L s0 w0 nul s a w) (k n1 n2 : Nat) :
    VAt V (vmid s k) (vmidW V s w k n1 n2) ∧ VLoc V rb (vmidW V s w k n1 n2) ∧ VKeep V rb w (vmidW V s w k n1 n2) := by
  have k1 : VKeep V V.mb w (vmidW V s w k n1 n2) := ((((VKeep.refl V V.mb w).drewN n1).set (p := ⟨V.mb, 5, none⟩) (.inl rfl) _).drewN n2).set (p := ⟨V.mb, 6, none⟩) (.inl rfl) _
  exact ⟨((((h.gen.drewN n1).setLeft rb (s.left - 1)).1.drewN n2).setPc rb ((k : Int) + 1)).1, h.loc.keep k1 h.loc.ne, k1.mono⟩

/-- What is asked behind a round that goes on. -/
def VNext (V : VRig) (t o f : Int) (rb L : Nat) (s0 : VSt) (w0 : World) (s : VSt) (K : Act → World → Prop) : Prop :=
  ∀ (nul' : Bool) (s' : VSt) (a' : Act) (w' : World), VHead V t o f rb L s0 w0 nul' s' a' w' → s'.left < s.left → K a' w'

theorem vnew {V : VRig} {s : VSt} {w : World} (h : VAt V s w) (x y : ByteArray) : VLoc V w.heap.size (w.alloc (.cells #[.bool false, .bool false, .int .i64 0, .int .i64 0, .int .u64 0, .int .u64 0, .string x, .string y] 50)) :=
  ⟨⟨_, _, _, _, _, _, _, _, heap_alloc_new w _⟩, by have := h.lt; omega, h.size⟩

theorem VHead.stop {V : VRig} {t o f : Int} {rb L k : Nat} {s0 s s2 : VSt} {w0 w : World} {nul : Bool} {a : Act} (h : VHead V t o f rb L s0 w0 nul s a w) (hl : 2 ≤ s.left) (h1 : s2.left = s.left - 1) (h2 : s2.n ≤ s.n + 2) (h3 : s2.pc = (k : Int) + 1) : VBack L s0 s2 :=
  ⟨.inr (by omega), by have := h.le; omega, by omega, by have := h.n; omega⟩

set_option maxRecDepth 1000000 in
set_option maxHeartbeats 8000000 in
theorem vround_0 {V : VRig} {t o f : Int} {rb L k : Nat} {s0 s : VSt} {w0 w : World} {nul : Bool} {a : Act} {K : Act → World → Prop} {Q : Exit → Act → World → Prop} (h : VHead V t o f rb L s0 w0 nul s a w) (hQ : VQ V t o f rb L s0 w0 Q) (hK : VNext V t o f rb L s0 w0 s K)
    (hbad : s.bad = false) (hodd : s.odd = false) (hpc : s.pc = (k : Int)) (hl : 2 ≤ s.left) {x : Int} (hi : V.ins[k]? = some (0, x)) : Code.wp Tryd.prog body15 (Exit.then K Q) a w := by
  obtain ⟨u, rfl⟩ := h.frame.lit
  obtain ⟨c0, ⟨da, cap, c1, hb⟩, c3, c4, c5, c6, c7⟩ := h.gen.cells
  obtain ⟨n0, n1⟩ := h.gen.ins.at' k _ x hi
  have hif := h.gen.ins.few
  have f3 := h.gen.fz 3
  have f5 := h.gen.fz 5
  have f6 := h.gen.fz 6
  have hbig := h.big
  have hne : ¬ V.ib = V.mb := by have := h.gen.ins.old; have := h.gen.mb; omega
  have hk : k < V.ins.length := (List.getElem?_eq_some_iff.1 hi).1
  have hk0 : (0 : Int) ≤ (k : Int) := by omega
  have hlim : s.left ≤ 3000 := by have := h.le; have := h.hi; omega
  have hn : s.n < 50000 := by have := h.n; have := h.few; omega
  rw [hbad] at c3
  rw [hodd] at c4
  rw [hpc] at c6
  have HI := Go.Lib.hid hi
  have M := Go.Lib.hid (fun n1 n2 => h.mid k n1 n2)
  have H := Go.Lib.hid h
  have HQ := Go.Lib.hid hQ
  have HK := Go.Lib.hid hK
  clear h hQ hK hb c1 hbad hodd hpc hi
  unfold lit15
  conv => arg 2; whnf
  go_wp2
  go_quiet (fail)
  go_wp2
  go_quiet (fail)
  go_wp2_with (go_at_call 22; refine (vread_any (M.out _ _).1 (M.out _ _).2.1 (.inr (by show (0 : Int) ≤ (k : Int) + 1; omega)) x).mono ?_; rintro e2 w2 ⟨s2, rfl, st, g2, k2, l2⟩; have ST := Go.Lib.hid st; have G2 := Go.Lib.hid g2; have K2 := Go.Lib.hid k2; have L2 := Go.Lib.hid l2; clear st g2 k2 l2)
  have h1 : s2.left = s.left - 1 := ST.out.left
  have h2 : s2.n ≤ s.n + 1 := ST.out.n
  exact HK.out _ s2 _ _ (H.out.next ⟨rfl, rfl, rfl, rfl, rfl, rfl, rfl, rfl⟩ G2.out L2.out ((M.out _ _).2.2.trans K2.out) ST.out.pc (by omega) (by omega) (by omega)) (by omega)
set_option maxRecDepth 1000000 in
set_option maxHeartbeats 8000000 in
theorem vround_1 {V : VRig} {t o f : Int} {rb L k : Nat} {s0 s : VSt} {w0 w : World} {nul : Bool} {a : Act} {K : Act → World → Prop} {Q : Exit → Act → World → Prop} (h : VHead V t o f rb L s0 w0 nul s a w) (hQ : VQ V t o f rb L s0 w0 Q) (hK : VNext V t o f rb L s0 w0 s K)
    (hbad : s.bad = false) (hodd : s.odd = false) (hpc : s.pc = (k : Int)) (hl : 2 ≤ s.left) {x : Int} (hi : V.ins[k]? = some (1, x)) : Code.wp Tryd.prog body15 (Exit.then K Q) a w := by
  obtain ⟨u, rfl⟩ := h.frame.lit
  obtain ⟨c0, ⟨da, cap, c1, hb⟩, c3, c4, c5, c6, c7⟩ := h.gen.cells
  obtain ⟨n0, n1⟩ := h.gen.ins.at' k _ x hi
  have hif := h.gen.ins.few
  have f3 := h.gen.fz 3
  have f5 := h.gen.fz 5
  have f6 := h.gen.fz 6
  have hbig := h.big
  have hne : ¬ V.ib = V.mb := by have := h.gen.ins.old; have := h.gen.mb; omega
  have hk : k < V.ins.length := (List.getElem?_eq_some_iff.1 hi).1
  have hk0 : (0 : Int) ≤ (k : Int) := by omega
  have hlim : s.left ≤ 3000 := by have := h.le; have := h.hi; omega
  have hn : s.n < 50000 := by have := h.n; have := h.few; omega
  rw [hbad] at c3
  rw [hodd] at c4
  rw [hpc] at c6
  have HI := Go.Lib.hid hi
  have M := Go.Lib.hid (fun n1 n2 => h.mid k n1 n2)
  have H := Go.Lib.hid h
  have HQ := Go.Lib.hid hQ
  have HK := Go.Lib.hid hK
  clear h hQ hK hb c1 hbad hodd hpc hi
  unfold lit15
  conv => arg 2; whnf
  go_wp2
  go_quiet (fail)
  go_wp2
  go_quiet (fail)
  go_wp2_with (go_at_call 23; refine (vset_any (M.out _ _).1 (M.out _ _).2.1 (.inr (by show (0 : Int) ≤ (k : Int) + 1; omega)) (by show s.n < 100000; omega) x t).mono ?_; rintro e2 w2 ⟨s2, rfl, st, g2, k2, l2⟩; have ST := Go.Lib.hid st; have G2 := Go.Lib.hid g2; have K2 := Go.Lib.hid k2; have L2 := Go.Lib.hid l2; clear st g2 k2 l2)
  have h1 : s2.left = s.left - 1 := ST.out.left
  have h2 : s2.n ≤ s.n + 1 := ST.out.n
  exact HK.out _ s2 _ _ (H.out.next ⟨rfl, rfl, rfl, rfl, rfl, rfl, rfl, rfl⟩ G2.out L2.out ((M.out _ _).2.2.trans K2.out) ST.out.pc (by omega) (by omega) (by omega)) (by omega)
set_option maxRecDepth 1000000 in
set_option maxHeartbeats 8000000 in
theorem vround_4 {V : VRig} {t o f : Int} {rb L k : Nat} {s0 s : VSt} {w0 w : World} {nul : Bool} {a : Act} {K : Act → World → Prop} {Q : Exit → Act → World → Prop} (h : VHead V t o f rb L s0 w0 nul s a w) (hQ : VQ V t o f rb L s0 w0 Q) (hK : VNext V t o f rb L s0 w0 s K)
    (hbad : s.bad = false) (hodd : s.odd = false) (hpc : s.pc = (k : Int)) (hl : 2 ≤ s.left) {x : Int} (hi : V.ins[k]? = some (4, x)) : Code.wp Tryd.prog body15 (Exit.then K Q) a w := by
  obtain ⟨u, rfl⟩ := h.frame.lit
  obtain ⟨c0, ⟨da, cap, c1, hb⟩, c3, c4, c5, c6, c7⟩ := h.gen.cells
  obtain ⟨n0, n1⟩ := h.gen.ins.at' k _ x hi
  have hif := h.gen.ins.few
  have f3 := h.gen.fz 3
  have f5 := h.gen.fz 5
  have f6 := h.gen.fz 6
  have hbig := h.big
  have hne : ¬ V.ib = V.mb := by have := h.gen.ins.old; have := h.gen.mb; omega
  have hk : k < V.ins.length := (List.getElem?_eq_some_iff.1 hi).1
  have hk0 : (0 : Int) ≤ (k : Int) := by omega
  have hlim : s.left ≤ 3000 := by have := h.le; have := h.hi; omega
  have hn : s.n < 50000 := by have := h.n; have := h.few; omega
  rw [hbad] at c3
  rw [hodd] at c4
  rw [hpc] at c6
  have HI := Go.Lib.hid hi
  have M := Go.Lib.hid (fun n1 n2 => h.mid k n1 n2)
  have H := Go.Lib.hid h
  have HQ := Go.Lib.hid hQ
  have HK := Go.Lib.hid hK
  clear h hQ hK hb c1 hbad hodd hpc hi
  unfold lit15
  conv => arg 2; whnf
  go_wp2
  go_quiet (fail)
  go_wp2
  go_quiet (fail)
  go_wp2
  exact HK.out true (vmid s k) _ _ (H.out.next ⟨rfl, rfl, rfl, rfl, rfl, rfl, rfl, rfl⟩ (M.out _ _).1 (M.out _ _).2.1 (M.out _ _).2.2 (.inr (by show (0 : Int) ≤ (k : Int) + 1; omega)) (by show s.left - 1 ≤ _; omega) (by show 1 ≤ s.left - 1 + L; omega) (by show (s.n : Int) + 2 * (s.left - 1) ≤ _; omega)) (by show s.left - 1 < _; omega)
set_option maxRecDepth 1000000 in
set_option maxHeartbeats 8000000 in
theorem vround_9 {V : VRig} {t o f : Int} {rb L k : Nat} {s0 s : VSt} {w0 w : World} {nul : Bool} {a : Act} {K : Act → World → Prop} {Q : Exit → Act → World → Prop} (h : VHead V t o f rb L s0 w0 nul s a w) (hQ : VQ V t o f rb L s0 w0 Q) (hK : VNext V t o f rb L s0 w0 s K)
    (hbad : s.bad = false) (hodd : s.odd = false) (hpc : s.pc = (k : Int)) (hl : 2 ≤ s.left) {x : Int} (hi : V.ins[k]? = some (9, x)) : Code.wp Tryd.prog body15 (Exit.then K Q) a w := by
  obtain ⟨u, rfl⟩ := h.frame.lit
  obtain ⟨c0, ⟨da, cap, c1, hb⟩, c3, c4, c5, c6, c7⟩ := h.gen.cells
  obtain ⟨n0, n1⟩ := h.gen.ins.at' k _ x hi
  have hif := h.gen.ins.few
  have f3 := h.gen.fz 3
  have f5 := h.gen.fz 5
  have f6 := h.gen.fz 6
  have hbig := h.big
  have hne : ¬ V.ib = V.mb := by have := h.gen.ins.old; have := h.gen.mb; omega
  have hk : k < V.ins.length := (List.getElem?_eq_some_iff.1 hi).1
  have hk0 : (0 : Int) ≤ (k : Int) := by omega
  have hlim : s.left ≤ 3000 := by have := h.le; have := h.hi; omega
  have hn : s.n < 50000 := by have := h.n; have := h.few; omega
  rw [hbad] at c3
  rw [hodd] at c4
  rw [hpc] at c6
  have HI := Go.Lib.hid hi
  have M := Go.Lib.hid (fun n1 n2 => h.mid k n1 n2)
  have H := Go.Lib.hid h
  have HQ := Go.Lib.hid hQ
  have HK := Go.Lib.hid hK
  clear h hQ hK hb c1 hbad hodd hpc hi
  unfold lit15
  conv => arg 2; whnf
  go_wp2
  go_quiet (fail)
  go_wp2
  go_quiet (fail)
  go_wp2
  exact HQ.out.ret (vmid s k) _ _ rfl (M.out _ _).1 (H.out.keep.trans (M.out _ _).2.2) (H.out.stop (k := k) hl rfl (by show s.n ≤ _; omega) rfl)
set_option maxRecDepth 1000000 in
set_option maxHeartbeats 8000000 in
theorem vround_20 {V : VRig} {t o f : Int} {rb L k : Nat} {s0 s : VSt} {w0 w : World} {nul : Bool} {a : Act} {K : Act → World → Prop} {Q : Exit → Act → World → Prop} (h : VHead V t o f rb L s0 w0 nul s a w) (hQ : VQ V t o f rb L s0 w0 Q) (hK : VNext V t o f rb L s0 w0 s K)
    (hbad : s.bad = false) (hodd : s.odd = false) (hpc : s.pc = (k : Int)) (hl : 2 ≤ s.left) {x : Int} (hi : V.ins[k]? = some (20, x)) : Code.wp Tryd.prog body15 (Exit.then K Q) a w := by
  obtain ⟨u, rfl⟩ := h.frame.lit
  obtain ⟨c0, ⟨da, cap, c1, hb⟩, c3, c4, c5, c6, c7⟩ := h.gen.cells
  obtain ⟨n0, n1⟩ := h.gen.ins.at' k _ x hi
  have hif := h.gen.ins.few
  have f3 := h.gen.fz 3
  have f5 := h.gen.fz 5
  have f6 := h.gen.fz 6
  have hbig := h.big
  have hne : ¬ V.ib = V.mb := by have := h.gen.ins.old; have := h.gen.mb; omega
  have hk : k < V.ins.length := (List.getElem?_eq_some_iff.1 hi).1
  have hk0 : (0 : Int) ≤ (k : Int) := by omega
  have hlim : s.left ≤ 3000 := by have := h.le; have := h.hi; omega
  have hn : s.n < 50000 := by have := h.n; have := h.few; omega
  rw [hbad] at c3
  rw [hodd] at c4
  rw [hpc] at c6
  have HI := Go.Lib.hid hi
  have M := Go.Lib.hid (fun n1 n2 => h.mid k n1 n2)
  have H := Go.Lib.hid h
  have HQ := Go.Lib.hid hQ
  have HK := Go.Lib.hid hK
  clear h hQ hK hb c1 hbad hodd hpc hi
  unfold lit15
  conv => arg 2; whnf
  go_wp2
  go_quiet (fail)
  go_wp2
  go_quiet (fail)
  go_wp2
  exact HQ.out.ret (vmid s k) _ _ rfl (M.out _ _).1 (H.out.keep.trans (M.out _ _).2.2) (H.out.stop (k := k) hl rfl (by show s.n ≤ _; omega) rfl)
set_option maxRecDepth 1000000 in
set_option maxHeartbeats 8000000 in
theorem vround_10 {V : VRig} {t o f : Int} {rb L k : Nat} {s0 s : VSt} {w0 w : World} {nul : Bool} {a : Act} {K : Act → World → Prop} {Q : Exit → Act → World → Prop} (h : VHead V t o f rb L s0 w0 nul s a w) (hQ : VQ V t o f rb L s0 w0 Q) (hK : VNext V t o f rb L s0 w0 s K)
    (hbad : s.bad = false) (hodd : s.odd = false) (hpc : s.pc = (k : Int)) (hl : 2 ≤ s.left) {x : Int} (hi : V.ins[k]? = some (10, x)) : Code.wp Tryd.prog body15 (Exit.then K Q) a w := by
  obtain ⟨u, rfl⟩ := h.frame.lit
  obtain ⟨c0, ⟨da, cap, c1, hb⟩, c3, c4, c5, c6, c7⟩ := h.gen.cells
  obtain ⟨n0, n1⟩ := h.gen.ins.at' k _ x hi
  have hif := h.gen.ins.few
  have f3 := h.gen.fz 3
  have f5 := h.gen.fz 5
  have f6 := h.gen.fz 6
  have hbig := h.big
  have hne : ¬ V.ib = V.mb := by have := h.gen.ins.old; have := h.gen.mb; omega
  have hk : k < V.ins.length := (List.getElem?_eq_some_iff.1 hi).1
  have hk0 : (0 : Int) ≤ (k : Int) := by omega
  have hlim : s.left ≤ 3000 := by have := h.le; have := h.hi; omega
  have hn : s.n < 50000 := by have := h.n; have := h.few; omega
  rw [hbad] at c3
  rw [hodd] at c4
  rw [hpc] at c6
  have HI := Go.Lib.hid hi
  have M := Go.Lib.hid (fun n1 n2 => h.mid k n1 n2)
  have H := Go.Lib.hid h
  have HQ := Go.Lib.hid hQ
  have HK := Go.Lib.hid hK
  clear h hQ hK hb c1 hbad hodd hpc hi
  unfold lit15
  conv => arg 2; whnf
  go_wp2
  go_quiet (fail)
  go_wp2
  go_quiet (fail)
  go_wp2
  all_goals exact HQ.out.ret { vmid s k with bad := _ } _ _ rfl ((M.out _ _).1.setBad rb _).1 (H.out.keep.trans ((M.out _ _).2.2.trans ((M.out _ _).1.setBad rb _).2)) (H.out.stop (k := k) hl rfl (by show s.n ≤ _; omega) rfl)
set_option maxRecDepth 1000000 in
set_option maxHeartbeats 8000000 in
theorem vround_3 {V : VRig} {t o f : Int} {rb L k : Nat} {s0 s : VSt} {w0 w : World} {nul : Bool} {a : Act} {K : Act → World → Prop} {Q : Exit → Act → World → Prop} (h : VHead V t o f rb L s0 w0 nul s a w) (hQ : VQ V t o f rb L s0 w0 Q) (hK : VNext V t o f rb L s0 w0 s K)
    (hbad : s.bad = false) (hodd : s.odd = false) (hpc : s.pc = (k : Int)) (hl : 2 ≤ s.left) {x : Int} (hi : V.ins[k]? = some (3, x)) : Code.wp Tryd.prog body15 (Exit.then K Q) a w := by
  obtain ⟨u, rfl⟩ := h.frame.lit
  obtain ⟨c0, ⟨da, cap, c1, hb⟩, c3, c4, c5, c6, c7⟩ := h.gen.cells
  obtain ⟨n0, n1⟩ := h.gen.ins.at' k _ x hi
  have hif := h.gen.ins.few
  have f3 := h.gen.fz 3
  have f5 := h.gen.fz 5
  have f6 := h.gen.fz 6
  have hbig := h.big
  have hne : ¬ V.ib = V.mb := by have := h.gen.ins.old; have := h.gen.mb; omega
  have hk : k < V.ins.length := (List.getElem?_eq_some_iff.1 hi).1
  have hk0 : (0 : Int) ≤ (k : Int) := by omega
  have hlim : s.left ≤ 3000 := by have := h.le; have := h.hi; omega
  have hn : s.n < 50000 := by have := h.n; have := h.few; omega
  rw [hbad] at c3
  rw [hodd] at c4
  rw [hpc] at c6
  have HI := Go.Lib.hid hi
  have M := Go.Lib.hid (fun n1 n2 => h.mid k n1 n2)
  have H := Go.Lib.hid h
  have HQ := Go.Lib.hid hQ
  have HK := Go.Lib.hid hK
  clear h hQ hK hb c1 hbad hodd hpc hi
  unfold lit15
  conv => arg 2; whnf
  go_wp2
  go_quiet (fail)
  go_wp2
  go_quiet (fail)
  cases nul with
  | false =>
    go_wp2_with (go_at_call 24; refine (vnote_any (M.out _ _).1 (by show s.n < 100000; omega) V.mb _ _ _ _).mono ?_; rintro e2 w2 ⟨s2, rfl, rfl, g2, k2⟩; have K2 := Go.Lib.hid k2; have G2 := Go.Lib.hid g2; clear g2 k2)
    exact HQ.out.ret { vmid s k with n := s.n + 1 } _ _ rfl G2.out (H.out.keep.trans ((M.out _ _).2.2.trans K2.out.mono)) (H.out.stop (k := k) hl rfl (by show s.n + 1 ≤ _; omega) rfl)
  | true =>
    go_wp2_with (first
      | (go_at_call 24; refine (vnote_any G2.out (by show s.n + 1 < 100000; omega) V.mb _ _ _ _).mono ?_; rintro e3 w3 ⟨s3, rfl, rfl, g3, k3⟩; have K3 := Go.Lib.hid k3; have G3 := Go.Lib.hid g3; clear g3 k3)
      | (go_at_call 24; refine (vnote_any (M.out _ _).1 (by show s.n < 100000; omega) V.mb _ _ _ _).mono ?_; rintro e2 w2 ⟨s2, rfl, rfl, g2, k2⟩; have K2 := Go.Lib.hid k2; have G2 := Go.Lib.hid g2; clear g2 k2))
    exact HQ.out.ret { vmid s k with n := s.n + 1 + 1 } _ _ rfl G3.out (H.out.keep.trans ((M.out _ _).2.2.trans (K2.out.mono.trans K3.out.mono))) (H.out.stop (k := k) hl rfl (by show s.n + 1 + 1 ≤ _; omega) rfl)
set_option maxRecDepth 1000000 in
set_option maxHeartbeats 8000000 in
theorem vround_o {V : VRig} {t o f : Int} {rb L k : Nat} {s0 s : VSt} {w0 w : World} {nul : Bool} {a : Act} {K : Act → World → Prop} {Q : Exit → Act → World → Prop} (h : VHead V t o f rb L s0 w0 nul s a w) (hQ : VQ V t o f rb L s0 w0 Q) (hK : VNext V t o f rb L s0 w0 s K)
    (hbad : s.bad = false) (hodd : s.odd = false) (hpc : s.pc = (k : Int)) (hl : 2 ≤ s.left) {x : Int} {op : Int} (k0 : (op == 0) = false) (k1 : (op == 1) = false) (k2 : (op == 2) = false) (k5 : (op == 5) = false) (k6 : (op == 6) = false) (k8 : (op == 8) = false) (k19 : (op == 19) = false) (k3 : (op == 3) = false) (k9 : (op == 9) = false) (k20 : (op == 20) = false) (k10 : (op == 10) = false) (k4 : (op == 4) = false) (hi : V.ins[k]? = some (op, x)) : Code.wp Tryd.prog body15 (Exit.then K Q) a w := by
  obtain ⟨u, rfl⟩ := h.frame.lit
  obtain ⟨c0, ⟨da, cap, c1, hb⟩, c3, c4, c5, c6, c7⟩ := h.gen.cells
  obtain ⟨n0, n1⟩ := h.gen.ins.at' k _ x hi
  have hif := h.gen.ins.few
  have f3 := h.gen.fz 3
  have f5 := h.gen.fz 5
  have f6 := h.gen.fz 6
  have hbig := h.big
  have hne : ¬ V.ib = V.mb := by have := h.gen.ins.old; have := h.gen.mb; omega
  have hk : k < V.ins.length := (List.getElem?_eq_some_iff.1 hi).1
  have hk0 : (0 : Int) ≤ (k : Int) := by omega
  have hlim : s.left ≤ 3000 := by have := h.le; have := h.hi; omega
  have hn : s.n < 50000 := by have := h.n; have := h.few; omega
  rw [hbad] at c3
  rw [hodd] at c4
  rw [hpc] at c6
  have HI := Go.Lib.hid hi
  have M := Go.Lib.hid (fun n1 n2 => h.mid k n1 n2)
  have H := Go.Lib.hid h
  have HQ := Go.Lib.hid hQ
  have HK := Go.Lib.hid hK
  clear h hQ hK hb c1 hbad hodd hpc hi
  unfold lit15
  conv => arg 2; whnf
  go_wp2
  go_quiet (fail)
  go_wp2
  go_quiet (fail)
  go_wp2_with (go_at_call 26; refine (vplain_any (M.out _ _).1 (M.out _ _).2.1 (.inr (by show (0 : Int) ≤ (k : Int) + 1; omega)) (by show s.n < 100000; omega) op x t).mono ?_; rintro e2 w2 ⟨s2, rfl, st, g2, k2, l2⟩; have ST := Go.Lib.hid st; have G2 := Go.Lib.hid g2; have K2 := Go.Lib.hid k2; have L2 := Go.Lib.hid l2; clear st g2 k2 l2)
  have h1 : s2.left = s.left - 1 := ST.out.left
  have h2 : s2.n ≤ s.n + 1 := ST.out.n
  exact HK.out _ s2 _ _ (H.out.next ⟨rfl, rfl, rfl, rfl, rfl, rfl, rfl, rfl⟩ G2.out L2.out ((M.out _ _).2.2.trans K2.out) ST.out.pc (by omega) (by omega) (by omega)) (by omega)
end Go.Proofs.YtkhicabfmkldpaaDoor
