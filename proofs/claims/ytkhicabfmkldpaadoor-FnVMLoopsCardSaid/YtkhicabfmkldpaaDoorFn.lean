/- The law's other callees, and its words. -/
import Derived.Test.YtkhicabfmkldpaaDoorGnN
import Derived.Test.YtkhicabfmkldpaaDoorLwC
import Derived.Test.YtkhicabfmkldpaaDoorSpK
import Derived.Deep.DeepCutAuto
namespace Go.Proofs.YtkhicabfmkldpaaDoor
open Go.RowKit

theorem notesCells_get (l : List Note) : ∀ (k : Nat) (x : Note), l[k]? = some x →
    (notesCells l)[k * 4]? = some (.string x.name) ∧ (notesCells l)[k * 4 + 1]? = some (.int .i64 x.n) ∧ (notesCells l)[k * 4 + 2]? = some (.string x.s) ∧ (notesCells l)[k * 4 + 3]? = some (.int .i64 x.tg) := by
  induction l with
  | nil => intro k x h; cases h
  | cons p l ih =>
    intro k x h
    cases k with
    | zero => simp at h; subst h; exact ⟨rfl, rfl, rfl, rfl⟩
    | succ k =>
      have := ih k x (by simpa using h)
      rw [show (k + 1) * 4 = k * 4 + 1 + 1 + 1 + 1 by omega]
      simpa [notesCells, Note.cells] using this

/-- A slice of notes. -/
def NotesV (w : World) (v : Value) (l : List Note) : Prop := ∃ da cap, v = .slice da l.length cap ∧ ∀ (k : Nat) (x : Note), l[k]? = some x → ∃ b o, da = some ⟨b, o, none⟩ ∧
  w.cell? ⟨b, o + k * 4, none⟩ = some (.string x.name) ∧ w.cell? ⟨b, o + k * 4 + 1, none⟩ = some (.int .i64 x.n) ∧ w.cell? ⟨b, o + k * 4 + 2, none⟩ = some (.string x.s) ∧ w.cell? ⟨b, o + k * 4 + 3, none⟩ = some (.int .i64 x.tg)

theorem NotesV.own {w : World} {B : Nat} {v : Value} {l : List Note} (h : w.ownsRow B 52 4 v l.length (notesCells l)) : NotesV w v l := by
  rcases h.2 with ⟨rfl, h0⟩ | ⟨g, cap, cur, rfl, hg, hh, hc, _⟩
  · refine ⟨none, 0, by rw [h0], fun k x hx => ?_⟩
    have := (List.getElem?_eq_some_iff.1 hx).1
    omega
  · refine ⟨_, _, rfl, fun k x hx => ⟨g, 0, rfl, ?_⟩⟩
    have hk := (List.getElem?_eq_some_iff.1 hx).1
    obtain ⟨c0, c1, c2, c3⟩ := notesCells_get l k x hx
    rw [Nat.zero_add]
    refine ⟨?_, ?_, ?_, ?_⟩
    · rw [h.cellAt _ (by omega)]; exact c0
    · rw [h.cellAt _ (by omega)]; exact c1
    · rw [h.cellAt _ (by omega)]; exact c2
    · rw [h.cellAt _ (by omega)]; exact c3

def TrueDrawn (w : World) (e : Ending) (w' : World) : Prop := e = .returned (.bool true) ∧ ∃ n, w.drewN n = w'

set_option maxRecDepth 100000 in
set_option maxHeartbeats 1600000 in
theorem vmsame_any {w : World} {v1 v2 : Value} {l : List Note} (h1 : NotesV w v1 l) (h2 : NotesV w v2 l) (hl : l.length ≤ 5000000) : Calls Tryd.prog 12 #[v1, v2] w (TrueDrawn w) := by
  obtain ⟨d1, k1, rfl, h1⟩ := h1
  obtain ⟨d2, k2, rfl, h2⟩ := h2
  have H1 := Go.Lib.hid h1
  have H2 := Go.Lib.hid h2
  clear h1 h2
  go_enter Tryd.func12, Tryd.ntmps12
  go_wp2
  go_loopg [5] (l.length + 1) (fun g ci wr => ∃ (k n : Nat), g + k = l.length + 1 ∧ ci = .int .i64 (k : Int) ∧ w.drewN n = wr)
  case atStart => exact ⟨0, 0, rfl, rfl, rfl⟩
  case round =>
    obtain ⟨k, n, hg, rfl, rfl⟩ := hrel
    have Hg := Go.Lib.hid hg
    have hk0 : (0 : Int) ≤ (k : Int) := by omega
    have hkl : k ≤ l.length + 1 := by omega
    clear hg
    by_cases hlt : k < l.length
    · obtain ⟨b1, o1, rfl, p0, p1, p2, p3⟩ := H1.out k _ (List.getElem?_eq_getElem hlt)
      obtain ⟨b2, o2, rfl, q0, q1, q2, q3⟩ := H2.out k _ (List.getElem?_eq_getElem hlt)
      generalize l[k] = x at *
      go_wp2
      go_quiet (fail)
      go_wp2
      go_roundg (gk - 1)
      case rel => exact ⟨k + 1, n + nq, by have := Hg.out; omega, by go_num, rfl⟩
      case measure => have := Hg.out; omega
    · go_wp2
      go_ret
      exact ⟨rfl, n, rfl⟩

set_option maxRecDepth 100000 in
set_option maxHeartbeats 1600000 in
theorem vmdata_any {w : World} (da : Option Addr) (n cap : Nat) (hn : n ≤ maxLen) (hc : n ≤ cap) : Calls Tryd.prog 8 #[.slice da n cap] w fun e w' => e = .returned (.slice da (min n 200) cap) ∧ w = w' := by
  unfold maxLen at hn
  by_cases h : n ≤ 200
  · rw [Nat.min_eq_left h]
    go_enter Tryd.func8, Tryd.ntmps8
    go_wp2
    go_ret
    exact ⟨rfl, rfl⟩
  · rw [Nat.min_eq_right (by omega)]
    have h2 : 200 ≤ cap := by omega
    go_enter Tryd.func8, Tryd.ntmps8
    go_wp2
    go_ret
    exact ⟨rfl, rfl⟩

theorem GenAt.setBase {D B mb : Nat} {code : List Int} {ins : List (Int × Int)} {base : Int} {w : World} (h : GenAt D B mb code ins base w) (x : Int) :
    GenAt D B mb code ins x (w.setCell ⟨mb, 4, none⟩ (.int .i64 x)) ∧ GKeep B mb w (w.setCell ⟨mb, 4, none⟩ (.int .i64 x)) := by
  obtain ⟨cv, v, hv, ⟨da, cap, e, hd⟩, ho⟩ := h.box
  have k : GKeep B mb w (w.setCell ⟨mb, 4, none⟩ (.int .i64 x)) := (GKeep.refl _ _ _).set (p := ⟨mb, 4, none⟩) (.inl rfl) _
  exact ⟨⟨⟨cv, v, blk_set _ hv, ⟨da, cap, e, hd.keepG k h.db h.bm⟩, ownsRow_setCell_other ho (owns_block_ne ho hv (by decide)) _⟩, h.bm, h.db, Nat.le_trans h.bs k.size⟩, k⟩

theorem GenAt.fz {D B mb : Nat} {code : List Int} {ins : List (Int × Int)} {base : Int} {w : World} (h : GenAt D B mb code ins base w) (i : Nat) : w.frozen? ⟨mb, i, none⟩ = false := by
  obtain ⟨cv, v, hv, _⟩ := h.box
  exact frozen_of_row _ _ _ _ _ hv

/-- A body, behind whatever stands there. -/
theorem body1_at {D B mb : Nat} {code : List Int} {ins : List (Int × Int)} {w : World} (h : GenAt D B mb code ins (ins.length : Int) w) (hl : ins.length ≤ 100) :
    Calls Tryd.prog 7 #[.pointer (some ⟨mb, 0, none⟩), .int .i64 1] w (GPost D B mb (body1 (code, [])).1 (abs ins (body1 (code, [])).2) (ins.length : Int) (.tuple #[]) w) :=
  body1_calls D B mb ins (code, []) w (by simpa [abs] using h) hl (by simp)

set_option maxRecDepth 100000 in
set_option maxHeartbeats 3200000 in
theorem clo6 {D B mb pb : Nat} {code : List Int} {ins : List (Int × Int)} {base : Int} {w : World} (h : GenAt D B mb code ins base w) (hl : ins.length ≤ 100) (hp : w.heap[pb]? = some (.cells #[.pointer (some ⟨mb, 0, none⟩)] 23 (0, 0))) :
    Calls Tryd.prog 6 #[.pointer (some ⟨pb, 0, none⟩)] w (GPost D B mb (body1 (code, [])).1 (abs ins (body1 (code, [])).2) (ins.length : Int) (.tuple #[]) w) := by
  have p0 : w.cell? ⟨pb, 0, none⟩ = some (.pointer (some ⟨mb, 0, none⟩)) := by rw [cell_of_row _ _ _ _ _ _ hp]; rfl
  obtain ⟨a1, q1, c1⟩ := h.cell1
  have c4 := h.cell4
  have f4 := h.fz 4
  have S := h.setBase (ins.length : Int)
  have H := Go.Lib.hid S
  have HB := fun (n : Nat) => body1_at (S.1.drewN n) hl
  have HB' := Go.Lib.hid HB
  clear h hp S HB
  go_enter Tryd.func6, Tryd.ntmps6
  go_wp2
  go_region
  dsimp only [Exit.then]
  rename_i K hK
  refine hK _ _ ?_
  have p1 : (w.setCell ⟨mb, 4, none⟩ (.int .i64 (ins.length : Int))).drew.cell? ⟨pb, 0, none⟩ = some (.pointer (some ⟨mb, 0, none⟩)) := by
    show (w.setCell ⟨mb, 4, none⟩ (.int .i64 (ins.length : Int))).cell? _ = _
    rw [World.cell?_setCell_other _ _ _ _ (by simp)]; exact p0
  go_wp2_with (go_at_call 7; refine (HB'.out 1).mono ?_; rintro e w2 ⟨rfl, g2, k2⟩)
  go_end0
  exact ⟨rfl, g2, (H.out.2.drewN 1).trans k2⟩

end Go.Proofs.YtkhicabfmkldpaaDoor

namespace Go.Proofs.YtkhicabfmkldpaaDoor
open Go.RowKit

def awIns : List (Int × Int) := [(2, 2), (0, 3), (1, 3), (3, 0), (10, 0)]
def awNotes : List Note := [⟨nameGet, 2, noText, 0⟩, ⟨nameSetInt, -3, noText, 1⟩, ⟨nameFinalize, 0, noText, 1⟩]

theorem aw_eval : evalL [5, 9] awIns 20 0 Regs.zero false ⟨0, 0, [], 0, 0, 1⟩ = some (.ok false ⟨4, 1, awNotes, 1, 5, 1⟩) := by kernel_rfl

def awCells : Array Value := #[.int .i64 2, .int .i64 2, .int .i64 0, .int .i64 3, .int .i64 1, .int .i64 3, .int .i64 3, .int .i64 0, .int .i64 10, .int .i64 0]

/-- The world in which the run is begun. -/
def awW (w : World) : World := (w.alloc (.cells awCells 41)).alloc (.cells #[.int .u8 5, .int .u8 9] 5)

theorem aw_run {w : World} {e0 e1 : Addr} (he : Env w.heap.size e0 e1 w) :
    Calls Tryd.prog 11 #[.slice (some ⟨w.heap.size, 0, none⟩) 5 5, .slice none 0 0, .slice (some ⟨w.heap.size + 1, 0, none⟩) 2 2, .bool false] (awW w) (RunPost (w.heap.size + 2) [5, 9] (.ok false ⟨4, 1, awNotes, 1, 5, 1⟩) (awW w)) := by
  have hz : (awW w).heap.size = w.heap.size + 2 := by simp [awW]
  have hb : Below w.heap.size w (awW w) := ((Below.refl _ _).alloc (Nat.le_refl _) _).alloc (by simp) _
  have h0 : (awW w).heap[w.heap.size]? = some (.cells awCells 41 (0, 0)) := heap_alloc2_old w _ _
  have h1 : (awW w).heap[w.heap.size + 1]? = some (.cells #[.int .u8 5, .int .u8 9] 5 (0, 0)) := heap_alloc2_new w _ _
  have := vmrun_any w.heap.size 5 5 awIns (some ⟨w.heap.size + 1, 0, none⟩) 2 [5, 9] e0 e1 (awW w) 20 (.ok false ⟨4, 1, awNotes, 1, 5, 1⟩) ((he.below hb).mono (by omega) (Nat.le_refl _))
    ⟨fun k c hk => by
      refine ⟨_, _, rfl, by omega, ?_⟩
      rw [cell_of_row _ _ _ _ _ _ h1, Nat.zero_add]
      match k, hk with
      | 0, hk => cases hk; exact ⟨rfl, by omega, by omega⟩
      | 1, hk => cases hk; exact ⟨rfl, by omega, by omega⟩
      | k + 2, hk => simp at hk, by simp, by simp⟩ rfl (by omega) (by omega) (by omega)
    (fun k op x hk => by
      rw [cell_of_row _ _ _ _ _ _ h0, cell_of_row _ _ _ _ _ _ h0]
      match k, hk with
      | 0, hk => cases hk; exact ⟨rfl, rfl⟩
      | 1, hk => cases hk; exact ⟨rfl, rfl⟩
      | 2, hk => cases hk; exact ⟨rfl, rfl⟩
      | 3, hk => cases hk; exact ⟨rfl, rfl⟩
      | 4, hk => cases hk; exact ⟨rfl, rfl⟩
      | k + 5, hk => simp [awIns] at hk) (by omega) (by omega) aw_eval
  rw [hz] at this
  exact this

theorem aw_lit (w : World) : NotesV (w.alloc (.cells #[.string nameGet, .int .i64 2, .string noText, .int .i64 0, .string nameSetInt, .int .i64 (-3), .string noText, .int .i64 1, .string nameFinalize, .int .i64 0, .string noText, .int .i64 1] 52)) (.slice (some ⟨w.heap.size, 0, none⟩) 3 3) awNotes := by
  refine ⟨_, _, rfl, fun k x hk => ⟨_, _, rfl, ?_⟩⟩
  have h := heap_alloc_new w (.cells #[.string nameGet, .int .i64 2, .string noText, .int .i64 0, .string nameSetInt, .int .i64 (-3), .string noText, .int .i64 1, .string nameFinalize, .int .i64 0, .string noText, .int .i64 1] 52)
  rw [cell_of_row _ _ _ _ _ _ h, cell_of_row _ _ _ _ _ _ h, cell_of_row _ _ _ _ _ _ h, cell_of_row _ _ _ _ _ _ h]
  match k, hk with
  | 0, hk => cases hk; exact ⟨rfl, rfl, rfl, rfl⟩
  | 1, hk => cases hk; exact ⟨rfl, rfl, rfl, rfl⟩
  | 2, hk => cases hk; exact ⟨rfl, rfl, rfl, rfl⟩
  | k + 3, hk => simp [awNotes] at hk

def TruePost (w : World) (e : Ending) (w' : World) : Prop := e = .returned (.bool true) ∧ Below w.heap.size w w'

set_option maxRecDepth 100000 in
set_option maxHeartbeats 3200000 in
theorem awake_any {w : World} {e0 e1 : Addr} (he : Env w.heap.size e0 e1 w) : Calls Tryd.prog 10 #[] w (TruePost w) := by
  have HR := Go.Lib.hid (aw_run he)
  have hb : Below w.heap.size w (awW w) := ((Below.refl _ _).alloc (Nat.le_refl _) _).alloc (by simp) _
  have HB := Go.Lib.hid hb
  clear he hb
  go_enter Tryd.func10, Tryd.ntmps10
  go_wp2_with (first
    | (go_at_call 11; (refine (HR.out).mono ?_; rintro e w1 ⟨v, left, t, ok, s2, rfl, b1, z1, o1, n1, rfl, rfl, hl, rfl⟩; obtain rfl : left = 1 := hl; have B1 := Go.Lib.hid (And.intro b1 (And.intro z1 o1)); clear b1 z1 o1 n1 HR))
    | (go_at_call 12; (refine (vmsame_any (NotesV.own (B1.out.2.2.alloc _)) (aw_lit w1) (by decide)).mono ?_; rintro e w2 ⟨rfl, n, rfl⟩)))
  go_ret
  refine ⟨rfl, ?_⟩
  have hz := B1.out.2.1
  exact Below.drewN_r ((HB.out.trans (B1.out.1.mono (show w.heap.size ≤ w.heap.size + 2 by omega))).alloc (by omega) _) n

end Go.Proofs.YtkhicabfmkldpaaDoor

namespace Go.Proofs.YtkhicabfmkldpaaDoor
open Go.RowKit

/-- Bytes that came in. -/
structure ArgAt (w : World) (da : Option Addr) (cap : Nat) (l : List Int) : Prop where
  at' : ∀ k c, l[k]? = some c → ∃ b o, da = some ⟨b, o, none⟩ ∧ b < w.heap.size ∧ w.cell? ⟨b, o + k, none⟩ = some (.int .u8 c) ∧ 0 ≤ c ∧ c < 256
  cap : l.length ≤ cap
  few : l.length ≤ maxLen

theorem ArgAt.data {w w' : World} {da : Option Addr} {cap : Nat} {l : List Int} (h : ArgAt w da cap l) (hb : Below w.heap.size w w') (m : Nat) (hm : m ≤ 1000) : DataAt w.heap.size da cap (l.take m) w' :=
  ⟨(fun k c hk => by
    rw [List.getElem?_take] at hk
    split at hk
    · obtain ⟨b, o, h1, h2, h3, h4⟩ := h.at' k c hk
      exact ⟨b, o, h1, h2, by rw [hb.cell (p := ⟨b, o + k, none⟩) h2]; exact h3, h4⟩
    · cases hk), by simp; omega, by have := h.cap; simp; omega⟩

/-- A maker as it is laid. -/
def mkCells (ca : Option Addr) (l cap : Nat) : Array Value := #[.slice ca l cap, .slice none 0 0, .slice none 0 0, .int .i64 2, .int .i64 0]

/-- Behind the makers' laying. -/
structure Laid (w : World) (ca : Option Addr) (l cap : Nat) (pb ma mb : Nat) (w1 : World) : Prop where
  below : Below w.heap.size w w1
  box : w1.heap[pb]? = some (.cells #[.pointer (some ⟨ma, 0, none⟩)] 23 (0, 0))
  a : w1.heap[ma]? = some (.cells (mkCells ca l cap) 27 (0, 0))
  b : w1.heap[mb]? = some (.cells (mkCells ca l cap) 27 (0, 0))
  na : w.heap.size ≤ ma
  nb : w.heap.size ≤ mb
  np : w.heap.size ≤ pb
  pa : pb ≠ ma
  pb' : pb ≠ mb
  ab : ma ≠ mb

theorem Laid.genA {w w1 : World} {ca : Option Addr} {cc : Nat} {cl : List Int} {pb ma mb : Nat} (h : Laid w ca (cl.take 60).length cc pb ma mb w1) (hc : ArgAt w ca cc cl) : GenAt w.heap.size w.heap.size ma (cl.take 60) [] 0 w1 :=
  ⟨⟨_, _, h.a, ⟨ca, cc, rfl, hc.data h.below 60 (by omega)⟩, World.ownsRow_nil _ _ _ _⟩, h.na, Nat.le_refl _, h.below.size⟩

/-- The instructions of a maker. -/
structure InsAt (ma : Nat) (ins : List (Int × Int)) (w : World) : Prop where
  at' : ∃ g cap bc cs, w.heap[ma]? = some (.cells bc 27 (0, 0)) ∧ bc[1]? = some (.slice (some ⟨g, 0, none⟩) ins.length cap) ∧ ins.length ≤ cap ∧ w.heap[g]? = some (.cells cs 41 (0, 0)) ∧
    ∀ (k : Nat) (op x : Int), ins[k]? = some (op, x) → cs[k * 2]? = some (.int .i64 op) ∧ cs[k * 2 + 1]? = some (.int .i64 x)

theorem GenAt.insAt {D B mb : Nat} {code : List Int} {ins : List (Int × Int)} {base : Int} {w : World} (h : GenAt D B mb code ins base w) (hn : 0 < ins.length) : InsAt mb ins w := by
  obtain ⟨cv, v, hv, _, ho⟩ := h.box
  rcases ho.2 with ⟨rfl, h0⟩ | ⟨g, cap, cur, rfl, hg, hh, hc, h2, h3, h4⟩
  · omega
  · refine ⟨g, cap, _, cur, hv, rfl, hc, hh, fun k op x hk => ?_⟩
    have hk1 : k < ins.length := (List.getElem?_eq_some_iff.1 hk).1
    obtain ⟨c0, c1⟩ := insCells_get ins k op x hk
    rw [← h4] at c0 c1
    simp only [List.getElem?_take, Array.getElem?_toList] at c0 c1
    exact ⟨by simpa [show k * 2 < ins.length * 2 by omega] using c0, by simpa [show k * 2 + 1 < ins.length * 2 by omega] using c1⟩

/-- All blocks but one of another type stay. -/
theorem InsAt.keep {ma o : Nat} {ins : List (Int × Int)} {w w' : World} {oc : Array Value} {of : Nat × Nat} (h : InsAt ma ins w) (ho : w.heap[o]? = some (.cells oc 27 of)) (hne : ma ≠ o) (hk : ∀ i x, w.heap[i]? = some x → i ≠ o → w'.heap[i]? = some x) : InsAt ma ins w' := by
  obtain ⟨g, cap, bc, cs, h1, h2, h3, h4, h5⟩ := h.at'
  exact ⟨g, cap, bc, cs, hk _ _ h1 hne, h2, h3, hk _ _ h4 (by rintro rfl; rw [h4] at ho; cases ho), h5⟩
theorem InsAt.below {ma : Nat} {ins : List (Int × Int)} {w w' : World} (h : InsAt ma ins w) (hb : Below w.heap.size w w') : InsAt ma ins w' := by
  obtain ⟨g, cap, bc, cs, h1, h2, h3, h4, h5⟩ := h.at'
  exact ⟨g, cap, bc, cs, by rw [hb.block _ (lt_of_block h1)]; exact h1, h2, h3, by rw [hb.block _ (lt_of_block h4)]; exact h4, h5⟩

theorem InsAt.cells {ma : Nat} {ins : List (Int × Int)} {w : World} (h : InsAt ma ins w) : ∃ g cap, w.cell? ⟨ma, 1, none⟩ = some (.slice (some ⟨g, 0, none⟩) ins.length cap) ∧ ins.length ≤ cap ∧ g < w.heap.size ∧
    ∀ (k : Nat) (op x : Int), ins[k]? = some (op, x) → w.cell? ⟨g, k * 2, none⟩ = some (.int .i64 op) ∧ w.cell? ⟨g, k * 2 + 1, none⟩ = some (.int .i64 x) := by
  obtain ⟨g, cap, bc, cs, h1, h2, h3, h4, h5⟩ := h.at'
  refine ⟨g, cap, ?_, h3, lt_of_block h4, fun k op x hk => ?_⟩
  · rw [cell_of_row _ _ _ _ _ _ h1]; exact h2
  · rw [cell_of_row _ _ _ _ _ _ h4, cell_of_row _ _ _ _ _ _ h4]; exact h5 k op x hk

end Go.Proofs.YtkhicabfmkldpaaDoor
