/- The reference's level, whole. -/
import Derived.Test.YtkhicabfmkldpaaDoorSpJ
namespace Go.Proofs.YtkhicabfmkldpaaDoor
open Go.RowKit

theorem vround {V : VRig} {t o f : Int} {rb L : Nat} {s0 s : VSt} {w0 w : World} {nul : Bool} {a : Act} {K : Act → World → Prop} {Q : Exit → Act → World → Prop} (h : VHead V t o f rb L s0 w0 nul s a w) (hQ : VQ V t o f rb L s0 w0 Q) (hK : VNext V t o f rb L s0 w0 s K)
    (hL : VLevel (L - 1)) : Code.wp Tryd.prog body15 (Exit.then K Q) a w := by
  by_cases hbad : s.bad = true
  · exact vround_exit h hQ (.inl hbad)
  by_cases hodd : s.odd = true
  · exact vround_exit h hQ (.inr (.inl hodd))
  by_cases hlt : s.pc < (V.ins.length : Int)
  rotate_left
  · exact vround_exit h hQ (.inr (.inr (by omega)))
  have hb0 : s.bad = false := by simpa using hbad
  have ho0 : s.odd = false := by simpa using hodd
  by_cases hl : s.left ≤ 1
  · exact vround_stop h hQ hb0 ho0 hlt hl
  have hp0 : 0 ≤ s.pc := by
    rcases h.pc with e | e
    · exact absurd e hodd
    · exact e
  have hpc : s.pc = ((s.pc.toNat : Nat) : Int) := by omega
  obtain ⟨⟨op, x⟩, hi⟩ : ∃ p, V.ins[s.pc.toNat]? = some p := ⟨_, List.getElem?_eq_getElem (by omega)⟩
  have hl2 : 2 ≤ s.left := by omega
  by_cases c0 : op = 0
  · subst c0; exact vround_0 h hQ hK hb0 ho0 hpc hl2 hi
  by_cases c1 : op = 1
  · subst c1; exact vround_1 h hQ hK hb0 ho0 hpc hl2 hi
  by_cases c2 : op = 2
  · subst c2; exact vround_2 h hQ hK hb0 ho0 hpc hl2 hL hi
  by_cases c5 : op = 5
  · subst c5; exact vround_5 h hQ hK hb0 ho0 hpc hl2 hL hi
  by_cases c6 : op = 6
  · subst c6; exact vround_6 h hQ hK hb0 ho0 hpc hl2 hL hi
  by_cases c8 : op = 8
  · subst c8; exact vround_8 h hQ hK hb0 ho0 hpc hl2 hL (h.gen.ins.calls _ _ hi).1 hi
  by_cases c19 : op = 19
  · subst c19; exact vround_19 h hQ hK hb0 ho0 hpc hl2 hL hi
  by_cases c3 : op = 3
  · subst c3; exact vround_3 h hQ hK hb0 ho0 hpc hl2 hi
  by_cases c9 : op = 9
  · subst c9; exact vround_9 h hQ hK hb0 ho0 hpc hl2 hi
  by_cases c20 : op = 20
  · subst c20; exact vround_20 h hQ hK hb0 ho0 hpc hl2 hi
  by_cases c10 : op = 10
  · subst c10; exact vround_10 h hQ hK hb0 ho0 hpc hl2 hi
  by_cases c4 : op = 4
  · subst c4; exact vround_4 h hQ hK hb0 ho0 hpc hl2 hi
  exact vround_o h hQ hK hb0 ho0 hpc hl2 (vbeq c0) (vbeq c1) (vbeq c2) (vbeq c5) (vbeq c6) (vbeq c8) (vbeq c19) (vbeq c3) (vbeq c9) (vbeq c20) (vbeq c10) (vbeq c4) hi

theorem vloop {V : VRig} {t o f : Int} {rb L : Nat} {s0 s : VSt} {w0 w : World} {nul : Bool} {a : Act} {Q : Exit → Act → World → Prop} (hL : VLevel (L - 1)) (h : VHead V t o f rb L s0 w0 nul s a w) (hQ : VQ V t o f rb L s0 w0 Q) :
    Code.wp Tryd.prog (Code.loop body15) Q a w := by
  refine wp_loop_ghost (fun g a' w' => ∃ (nul' : Bool) (s' : VSt), (s'.left + 4000).toNat ≤ g ∧ VHead V t o f rb L s0 w0 nul' s' a' w') (s.left + 4000).toNat ⟨nul, s, Nat.le_refl _, h⟩ ?_
  rintro g a' w' ⟨nul', s', hg, h'⟩
  exact vround h' hQ (K := fun _ _ => _) (fun nul2 s2 a2 w2 h2 hlt => ⟨(s2.left + 4000).toNat, by have := h2.lo; have := h2.big; omega, nul2, s2, Nat.le_refl _, h2⟩) hL

set_option maxRecDepth 1000000 in
set_option maxHeartbeats 8000000 in
theorem vlevel_step {L : Nat} (hL : VLevel (L - 1)) (hb : L ≤ 3000) : VLevel L := by
  intro V s w rb t o f g l hp h1 h2 hn
  have G := Go.Lib.hid g
  have L1 := Go.Lib.hid l
  have P := Go.Lib.hid (And.intro hp hn)
  have HL := Go.Lib.hid hL
  clear g l hp hn hL
  go_enter Tryd.func15, Tryd.ntmps15
  go_wp2
  refine vloop (nul := false) (s := s) (s0 := s) (w0 := w) HL.out ⟨⟨rfl, rfl, rfl, rfl, rfl, rfl, rfl, rfl⟩, G.out, L1.out, VKeep.refl _ _ _, P.out.1, by omega, by omega, by omega, P.out.2, hb, h2⟩ ⟨?_, ?_⟩
  · rintro s2 nul2 a2 w2 f1 g1 k1 b1
    exact bodyPost_end (results_none rfl _ _ _) f1.dfr ⟨s2, rfl, g1, k1, b1⟩
  · rintro s2 a2 w2 d1 g1 k1 b1
    exact bodyPost_ret (results_none rfl _ _ _) d1 ⟨s2, rfl, g1, k1, b1⟩

theorem vlevel_all : ∀ L, L ≤ 3000 → VLevel L
  | 0, _ => fun _ _ _ _ _ _ _ _ _ _ h1 h2 _ => by omega
  | L + 1, h => vlevel_step (vlevel_all L (by omega)) h

/-- What VMRuns ends in: whatever it answers, all that was there is what it was. -/
def VRunsPost (B : Nat) (w : World) (e : Ending) (w' : World) : Prop := ∃ (v : Value) (n : Int) (x y : Bool), e = .returned (.tuple #[v, .int .i64 n, .bool x, .bool y]) ∧ Below B w w'

theorem vresults4 {fn : Func} {t u v x : Tmp} (h : fn.results = #[.tmp t, .tmp u, .tmp v, .tmp x]) (tmps : Array Value) (P : Program) (w : World) :
    (results fn tmps).run P w = .ok (.tuple #[tmps.getD t undef, tmps.getD u undef, tmps.getD v undef, tmps.getD x undef]) w := by
  simp [results, h]

theorem VKeep.toBelow {V : VRig} {rb : Nat} {w w' : World} (h : VKeep V rb w w') (hm : V.B ≤ V.mb) (hr : V.B ≤ rb) (hs : V.B ≤ w.heap.size) : Below V.B w w' :=
  ⟨h.os, h.tape, h.output, h.size, fun i hi => by
    obtain ⟨o, ho⟩ : ∃ o, w.heap[i]? = some o := ⟨_, Array.getElem?_eq_getElem (show i < w.heap.size by omega)⟩
    rw [ho]
    exact h.below hm hr i o hi ho⟩

/-- The world in which the reference's level is called. -/
def vrunW (ib icap : Nat) (n : Nat) (da : Option Addr) (l cap : Nat) (w : World) : World :=
  (w.alloc (.cells #[.slice (some ⟨ib, 0, none⟩) n icap, .slice da l cap, .slice none 0 0, .bool false, .bool false, .int .i64 3000, .int .i64 0, .int .i64 0] 45)).alloc
    (.cells #[.bool false, .bool false, .int .i64 0, .int .i64 0, .int .u64 0, .int .u64 0, .string ⟨#[]⟩, .string ⟨#[]⟩] 50)

theorem vrun_at {ib icap : Nat} {ins : List (Int × Int)} {da : Option Addr} {cap : Nat} {data : List Int} {w : World}
    (hins : ∀ (k : Nat) (op x : Int), ins[k]? = some (op, x) → w.cell? ⟨ib, k * 2, none⟩ = some (.int .i64 op) ∧ w.cell? ⟨ib, k * 2 + 1, none⟩ = some (.int .i64 x))
    (hib : ib < w.heap.size) (hfew : ins.length ≤ 100000) (hcap : ins.length ≤ icap) (hcalls : ∀ (k : Nat) (x : Int), ins[k]? = some (8, x) → 0 ≤ x ∧ x ≤ 1000000) (hd : VBytes w.heap.size da cap data w) :
    VAt ⟨w.heap.size, w.heap.size, ib, icap, ins⟩ ⟨data, 0, false, false, 3000, 0, 0⟩ (vrunW ib icap ins.length da data.length cap w) ∧
    VLoc ⟨w.heap.size, w.heap.size, ib, icap, ins⟩ (w.heap.size + 1) (vrunW ib icap ins.length da data.length cap w) ∧ Below w.heap.size w (vrunW ib icap ins.length da data.length cap w) := by
  have hb : Below w.heap.size w (vrunW ib icap ins.length da data.length cap w) := ((Below.refl _ _).alloc (Nat.le_refl _) _).alloc (by simp) _
  have k : ∀ i o, i < w.heap.size → w.heap[i]? = some o → (vrunW ib icap ins.length da data.length cap w).heap[i]? = some o := fun i o hi ho => by rw [hb.block _ hi]; exact ho
  refine ⟨⟨⟨da, cap, .slice none 0 0, [], heap_alloc2_old w _ _, hd.keep k, World.ownsRow_nil _ _ _ _⟩, ?_, Nat.le_refl _, hb.size⟩, ⟨⟨_, _, _, _, _, _, _, _, heap_alloc2_new w _ _⟩, by show w.heap.size + 1 ≠ w.heap.size; omega, by show w.heap.size ≤ w.heap.size + 1; omega⟩, hb⟩
  exact VIns.keep (V := ⟨w.heap.size, w.heap.size, ib, icap, ins⟩) (w := w) ⟨hins, hib, hfew, hcap, hcalls⟩ k

set_option maxRecDepth 1000000 in
set_option maxHeartbeats 8000000 in
theorem vmruns_any {ib icap : Nat} {ins : List (Int × Int)} {da : Option Addr} {cap : Nat} {data : List Int} {w : World}
    (hins : ∀ (k : Nat) (op x : Int), ins[k]? = some (op, x) → w.cell? ⟨ib, k * 2, none⟩ = some (.int .i64 op) ∧ w.cell? ⟨ib, k * 2 + 1, none⟩ = some (.int .i64 x))
    (hib : ib < w.heap.size) (hfew : ins.length ≤ 100000) (hcap : ins.length ≤ icap) (hcalls : ∀ (k : Nat) (x : Int), ins[k]? = some (8, x) → 0 ≤ x ∧ x ≤ 1000000) (hd : VBytes w.heap.size da cap data w) :
    Calls Tryd.prog 9 #[.slice (some ⟨ib, 0, none⟩) ins.length icap, .slice da data.length cap] w (VRunsPost w.heap.size w) := by
  have A := vrun_at hins hib hfew hcap hcalls hd
  have I := Go.Lib.hid A
  have LV := Go.Lib.hid (vlevel_all 3000 (Nat.le_refl _) _ _ _ _ 0 0 (-1) A.1 A.2.1 (.inr (by show (0 : Int) ≤ 0; omega)) (by show (1 : Int) ≤ 3000; omega) (by show (3000 : Int) ≤ 3000; omega) (by show (0 : Int) + 2 * 3000 ≤ 10000; omega))
  have hfd := hd.few
  clear hins hib hfew hcap hcalls hd A
  go_enter Tryd.func9, Tryd.ntmps9
  go_wp2_with fail
  refine Calls.mono LV.out ?_
  rintro e w2 ⟨s2, rfl, g2, k2, b2⟩
  have hbl : Below w.heap.size w w2 := I.out.2.2.trans (k2.toBelow (Nat.le_refl _) (by show w.heap.size ≤ w.heap.size + 1; omega) I.out.2.2.size)
  obtain ⟨_, ⟨da2, cap2, q1, hb2⟩, q3, q4, q5, q6, q7⟩ := g2.cells
  obtain ⟨_, _, nv, xs, hbox, _, _⟩ := g2.box
  have q2 : w2.cell? ⟨w.heap.size, 2, none⟩ = some nv := by rw [cell_of_row _ _ _ _ _ _ hbox]; rfl
  have B := Go.Lib.hid hbl
  clear LV I g2 k2 b2 hbl hbox hb2
  dsimp only at q1 q3 q4 q5
  cases ho : s2.odd with
  | true =>
    rw [ho] at q4
    clear ho
    go_wp2
    go_quiet (fail)
    go_wp2
    refine bodyPost_ret (vresults4 rfl _ _ _) rfl ?_
    exact ⟨_, _, _, _, rfl, ⟨B.out.os, B.out.tape, B.out.output, B.out.size, B.out.block⟩⟩
  | false =>
    rw [ho] at q4
    clear ho
    go_wp2
    go_quiet (fail)
    go_wp2
    refine bodyPost_ret (vresults4 rfl _ _ _) rfl ?_
    exact ⟨_, _, _, _, rfl, ⟨B.out.os, B.out.tape, B.out.output, B.out.size, B.out.block⟩⟩

end Go.Proofs.YtkhicabfmkldpaaDoor
