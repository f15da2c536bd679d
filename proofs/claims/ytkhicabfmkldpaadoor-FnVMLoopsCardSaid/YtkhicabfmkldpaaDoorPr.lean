/- What the listed variables give; the law's walk from arguments that came in. -/
import Derived.Test.YtkhicabfmkldpaaDoorRows
import Derived.Test.YtkhicabfmkldpaaDoorFnD
import Derived.ProofKit
import Derived.LaidMore
import Derived.LaidLaws
import Derived.MakeChecks
import Derived.Stop.LaidErr
import Derived.OpenShut
import Derived.ShutString
import Derived.ChangeOld
import Derived.Below
import Derived.Stop.Joined
namespace Go.Proofs.YtkhicabfmkldpaaDoor
open Go.ChangeShapes Go.WideShapes Go.ChangeAt Go.RowKit

theorem pOwn : ownKnob Tryd.prog.godebug = none := by kernel_rfl
theorem pEof : Tryd.prog.globalNamed "io.EOF" = some 0 := by kernel_rfl
theorem pUeof : Tryd.prog.globalNamed "io.ErrUnexpectedEOF" = some 1 := by kernel_rfl
theorem pEofT : (Tryd.prog.globals[0]?).map (·.type) = some 64 := by kernel_rfl
theorem pUeofT : (Tryd.prog.globals[1]?).map (·.type) = some 64 := by kernel_rfl
theorem pCells166 : Tryd.prog.cellsOf 166 = 1 := by kernel_rfl
theorem pCells9 : Tryd.prog.cellsOf 9 = 1 := by kernel_rfl
theorem pStar : "*" ++ "errors.errorString" = "*errors.errorString" := by decide
theorem pRow147 (u : TypeId) (h : Tryd.prog.typeName? 3 u = some "*errors.errorString") : u = 147 :=
  typeName_ptr_named (nm := "errors.errorString") (by rw [pStar]; kernel_rfl) (by kernel_rfl) (by decide) u (by rw [pStar]; exact h)

theorem pShort : Tryd.prog.globalNamed "io.ErrShortBuffer" = some 4 := by kernel_rfl
theorem pShortT : (Tryd.prog.globals[4]?).map (·.type) = some 64 := by kernel_rfl

set_option maxRecDepth 100000 in
/-- What the condition gives the walk. -/
theorem env_of_laid {W : World} (h : laidMetH Tryd.prog Rows.fnVMLoopsRow.laid W) : ∃ e0 e1, Env W.heap.size e0 e1 W := by
  rw [MakeChecks.laidMetH_plain _ _ _ (by kernel_rfl)] at h
  obtain ⟨ps, ⟨g2, t2, cs2, f2, p2, q2, hg2, ht2, hv2, hd2, ⟨g0, t0, cs0, f0, p0, q0, hg0, ht0, hv0, hd0, ⟨g1, t1, cs1, f1, p1, q1, hg1, ht1, hv1, hd1, hq1, e1⟩, e0⟩, e2⟩, hnd, hrows⟩ := h
  obtain rfl := Option.some.inj (pShort.symm.trans hg2)
  obtain rfl := Option.some.inj (pEof.symm.trans hg0)
  obtain rfl := Option.some.inj (pUeof.symm.trans hg1)
  obtain rfl := Option.some.inj (pShortT.symm.trans ht2)
  obtain rfl := Option.some.inj (pEofT.symm.trans ht0)
  obtain rfl := Option.some.inj (pUeofT.symm.trans ht1)
  have hq1' : q1 = [] := hq1
  subst hq1'
  subst e1
  subst e0
  subst e2
  obtain ⟨l0⟩ := cs0
  obtain ⟨l1⟩ := cs1
  have ok0 : ∀ u v, l0 = [.iface u v] → Value.okWide Tryd.prog W .any 0 u v := fun u v e => by
    subst e
    exact (hrows 0 0 (by simp [MemPlace.row])).2 u v (by simpa using World.var?_cell hg0 hv0 0)
  have ok1 : ∀ u v, l1 = [.iface u v] → Value.okWide Tryd.prog W .any 0 u v := fun u v e => by
    subst e
    exact (hrows 1 0 (by simp [MemPlace.row])).2 u v (by simpa using World.var?_cell hg1 hv1 0)
  obtain ⟨a0, s0, rfl, hc0, hs0, hz0, rfl⟩ := errorString_of_trod Tryd.underlying64 pRow147 Tryd.underlying147 Tryd.underlying166 rfl rfl Tryd.underlying9 pCells166 pCells9 hd0 ok0
  obtain ⟨a1, s1, rfl, hc1, hs1, hz1, rfl⟩ := errorString_of_trod Tryd.underlying64 pRow147 Tryd.underlying147 Tryd.underlying166 rfl rfl Tryd.underlying9 pCells166 pCells9 hd1 ok1
  obtain ⟨c0, u0, hb0⟩ := (hrows a0.block a0.off (by simp [MemPlace.row])).1
  obtain ⟨c1, u1, hb1⟩ := (hrows a1.block a1.off (by simp [MemPlace.row])).1
  have h0 : W.cell? ⟨0, 0, none⟩ = some (.iface 147 (.pointer (some a0))) := by simpa using World.var?_cell hg0 hv0 0
  have h1 : W.cell? ⟨1, 0, none⟩ = some (.iface 147 (.pointer (some a1))) := by simpa using World.var?_cell hg1 hv1 0
  have hz : 1 < W.heap.size := by
    cases hh : W.heap[1]? with
    | none => simp [World.cell?, hh] at h1
    | some o => exact lt_of_block hh
  exact ⟨a0, a1, hz, Nat.le_refl _, h0, h1, ⟨c0, u0, hb0⟩, ⟨c1, u1, hb1⟩, lt_of_block hb0, lt_of_block hb1⟩

/-- The door's own heap meets the condition. -/
theorem pDoor_met (os : Os) (args : Array Value) : laidMetH Tryd.prog Rows.fnVMLoopsRow.laid ((World.doorLaid Tryd.prog 66 os).forCall (fun _ _ => 0) ⟨#[], args, []⟩).memory :=
  laidMetH_of_parts3 (fuel := 8) (laidMet_of_run' 8 (by kernel_rfl) (by kernel_rfl)) (by kernel_rfl) (by kernel_rfl)

end Go.Proofs.YtkhicabfmkldpaaDoor

namespace Go.Proofs.YtkhicabfmkldpaaDoor
open Go.ChangeShapes Go.WideShapes Go.ChangeAt Go.WideMaps Go.WideElems Go.RowKit

theorem pLaidOut : laidOutB Tryd.prog = true := by kernel_rfl

/-- What is known of a slice of bytes that came in. -/
def PRow (w : World) (a : Option Addr) (len cap : Nat) (zs : List Int) : Prop :=
  (a = none ∧ len = 0 ∧ cap = 0 ∧ zs = []) ∨
  ∃ x, a = some x ∧ len ≤ cap ∧ cap ≤ maxLen ∧ zs.length = cap ∧ (∀ i, i < zs.length → w.cell? (x.add i) = some (.int .u8 (zs.getD i 0))) ∧ ∀ n ∈ zs, (Lit.int .u8 n).wf = true

theorem PRow.arg {w : World} {a : Option Addr} {len cap : Nat} {zs : List Int} (h : PRow w a len cap zs) : ArgAt w a cap (zs.take len) ∧ (zs.take len).length = len := by
  rcases h with ⟨rfl, rfl, rfl, rfl⟩ | ⟨x, rfl, h1, h2, h3, h4, h5⟩
  · exact ⟨⟨fun k c hk => by simp at hk, by simp, by simp⟩, rfl⟩
  · have hl : (zs.take len).length = len := by simp; omega
    refine ⟨⟨fun k c hk => ?_, by omega, by omega⟩, hl⟩
    have hk1 : k < len := by rw [← hl]; exact (List.getElem?_eq_some_iff.1 hk).1
    obtain ⟨b, off, rfl, hc⟩ := ints_at h4 (by omega)
    have hkz : zs[k]? = some c := by
      rw [List.getElem?_take, if_pos hk1] at hk; exact hk
    have e : zs.getD k 0 = c := by simp [List.getD, hkz]
    have hcell := hc k (by omega)
    rw [e] at hcell
    have hb : b < w.heap.size := by
      cases hh : w.heap[b]? with
      | none => simp [World.cell?, hh] at hcell
      | some o => exact lt_of_block hh
    have hw := bounds_u8 (h5 c (List.mem_of_getElem? hkz))
    exact ⟨b, off, rfl, hb, hcell, hw.1, by omega⟩

set_option maxRecDepth 100000 in
set_option maxHeartbeats 1600000 in
theorem loops_big {w : World} (ca da : Option Addr) (lc cc ld dc : Nat) (v : Int) (h : 2147483647 < lc ∨ 2147483647 < ld) : Calls Tryd.prog 3 #[.slice ca lc cc, .slice da ld dc, .int .u8 v] w (TruePost w) := by
  by_cases h1 : 2147483647 < lc
  · clear h
    go_enter Tryd.func3, Tryd.ntmps3
    go_wp2
    go_ret
    exact ⟨rfl, Below.refl _ _⟩
  · have h2 : 2147483647 < ld := h.resolve_left h1
    clear h
    go_enter Tryd.func3, Tryd.ntmps3
    go_wp2
    go_ret
    exact ⟨rfl, Below.refl _ _⟩

theorem loops_row {w : World} {e0 e1 : Addr} (he : Env w.heap.size e0 e1 w) {a0 a1 : Option Addr} {len0 cap0 len1 cap1 : Nat} {z0 z1 : List Int} {a2 : Int} (w0 : PRow w a0 len0 cap0 z0) (w1 : PRow w a1 len1 cap1 z1) (w2 : (Lit.int .u8 a2).wf = true) :
    Calls Tryd.prog 3 #[.slice a0 len0 cap0, .slice a1 len1 cap1, .int .u8 a2] w (TruePost w) := by
  obtain ⟨g0, l0⟩ := w0.arg
  obtain ⟨g1, l1⟩ := w1.arg
  have hb := bounds_u8 w2
  by_cases h : 2147483647 < len0 ∨ 2147483647 < len1
  · exact loops_big a0 a1 len0 cap0 len1 cap1 a2 h
  · have := loops_any he g0 g1 hb.1 (by omega : a2 < 256) (by omega) (by omega)
    rw [l0, l1] at this
    exact this

end Go.Proofs.YtkhicabfmkldpaaDoor
