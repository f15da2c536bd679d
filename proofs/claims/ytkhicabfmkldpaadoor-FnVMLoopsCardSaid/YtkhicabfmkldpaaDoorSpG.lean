/- The reference's level: its frame, its loop's body; how the loop ends. -/
import Derived.Test.YtkhicabfmkldpaaDoorSpF
namespace Go.Proofs.YtkhicabfmkldpaaDoor
open Go.RowKit

def vfirstLoop : Code → Option Code
  | .loop c => some c
  | .seq a b => match vfirstLoop a with
    | some c => some c
    | none => vfirstLoop b
  | .block _ c => vfirstLoop c
  | .scope c => vfirstLoop c
  | .cond _ a b => match vfirstLoop a with
    | some c => some c
    | none => vfirstLoop b
  | _ => none
noncomputable def body15 : Code := ((Tryd.f15.body.bind vfirstLoop).getD .skip)

/-- The slots of level's frame that stay. -/
structure VFrame (V : VRig) (t o f : Int) (rb : Nat) (nul : Bool) (a : Act) : Prop where
  size : a.tmps.size = 202
  dfr : a.defers = []
  s0 : a.tmps.getD 0 undef = .pointer (some ⟨V.mb, 0, none⟩)
  s1 : a.tmps.getD 1 undef = .int .i64 t
  s2 : a.tmps.getD 2 undef = .int .i64 o
  s3 : a.tmps.getD 3 undef = .int .i64 f
  s4 : a.tmps.getD 4 undef = .pointer (some ⟨rb, 0, none⟩)
  s10 : a.tmps.getD 10 undef = .bool nul

theorem vtmps_list (t : Array Value) (n : Nat) (h : t.size = n) : t = ((List.range n).map fun k => t.getD k undef).toArray := by
  apply Array.ext
  · simp [h]
  · intro i h1 h2
    simp [h1]

def lit15 (V : VRig) (t o f : Int) (rb : Nat) (nul : Bool) (u : Nat → Value) : Act := ⟨#[.pointer (some ⟨V.mb, 0, none⟩), .int .i64 t, .int .i64 o, .int .i64 f, .pointer (some ⟨rb, 0, none⟩), u 5, u 6, u 7, u 8, u 9, .bool nul, u 11, u 12, u 13, u 14, u 15, u 16, u 17, u 18, u 19, u 20, u 21, u 22, u 23, u 24, u 25, u 26, u 27, u 28, u 29, u 30, u 31, u 32, u 33, u 34, u 35, u 36, u 37, u 38, u 39, u 40, u 41, u 42, u 43, u 44, u 45, u 46, u 47, u 48, u 49, u 50, u 51, u 52, u 53, u 54, u 55, u 56, u 57, u 58, u 59, u 60, u 61, u 62, u 63, u 64, u 65, u 66, u 67, u 68, u 69, u 70, u 71, u 72, u 73, u 74, u 75, u 76, u 77, u 78, u 79, u 80, u 81, u 82, u 83, u 84, u 85, u 86, u 87, u 88, u 89, u 90, u 91, u 92, u 93, u 94, u 95, u 96, u 97, u 98, u 99, u 100, u 101, u 102, u 103, u 104, u 105, u 106, u 107, u 108, u 109, u 110, u 111, u 112, u 113, u 114, u 115, u 116, u 117, u 118, u 119, u 120, u 121, u 122, u 123, u 124, u 125, u 126, u 127, u 128, u 129, u 130, u 131, u 132, u 133, u 134, u 135, u 136, u 137, u 138, u 139, u 140, u 141, u 142, u 143, u 144, u 145, u 146, u 147, u 148, u 149, u 150, u 151, u 152, u 153, u 154, u 155, u 156, u 157, u 158, u 159, u 160, u 161, u 162, u 163, u 164, u 165, u 166, u 167, u 168, u 169, u 170, u 171, u 172, u 173, u 174, u 175, u 176, u 177, u 178, u 179, u 180, u 181, u 182, u 183, u 184, u 185, u 186, u 187, u 188, u 189, u 190, u 191, u 192, u 193, u 194, u 195, u 196, u 197, u 198, u 199, u 200, u 201], []⟩

set_option maxRecDepth 1000000 in
theorem VFrame.lit {V : VRig} {t o f : Int} {rb : Nat} {nul : Bool} {a : Act} (h : VFrame V t o f rb nul a) : ∃ u, a = lit15 V t o f rb nul u := by
  refine ⟨fun k => a.tmps.getD k undef, ?_⟩
  have e : a.tmps = #[a.tmps.getD 0 undef, a.tmps.getD 1 undef, a.tmps.getD 2 undef, a.tmps.getD 3 undef, a.tmps.getD 4 undef, a.tmps.getD 5 undef, a.tmps.getD 6 undef, a.tmps.getD 7 undef, a.tmps.getD 8 undef, a.tmps.getD 9 undef, a.tmps.getD 10 undef, a.tmps.getD 11 undef, a.tmps.getD 12 undef, a.tmps.getD 13 undef, a.tmps.getD 14 undef, a.tmps.getD 15 undef, a.tmps.getD 16 undef, a.tmps.getD 17 undef, a.tmps.getD 18 undef, a.tmps.getD 19 undef, a.tmps.getD 20 undef, a.tmps.getD 21 undef, a.tmps.getD 22 undef, a.tmps.getD 23 undef, a.tmps.getD 24 undef, a.tmps.getD 25 undef, a.tmps.getD 26 undef, a.tmps.getD 27 undef, a.tmps.getD 28 undef, a.tmps.getD 29 undef, a.tmps.getD 30 undef, a.tmps.getD 31 undef, a.tmps.getD 32 undef, a.tmps.getD 33 undef, a.tmps.getD 34 undef, a.tmps.getD 35 undef, a.tmps.getD 36 undef, a.tmps.getD 37 undef, a.tmps.getD 38 undef, a.tmps.getD 39 undef, a.tmps.getD 40 undef, a.tmps.getD 41 undef, a.tmps.getD 42 undef, a.tmps.getD 43 undef, a.tmps.getD 44 undef, a.tmps.getD 45 undef, a.tmps.getD 46 undef, a.tmps.getD 47 undef, a.tmps.getD 48 undef, a.tmps.getD 49 undef, a.tmps.getD 50 undef, a.tmps.getD 51 undef, a.tmps.getD 52 undef, a.tmps.getD 53 undef, a.tmps.getD 54 undef, a.tmps.getD 55 undef, a.tmps.getD 56 undef, a.tmps.getD 57 undef, a.tmps.getD 58 undef, a.tmps.getD 59 undef, a.tmps.getD 60 undef, a.tmps.getD 61 undef, a.tmps.getD 62 undef, a.tmps.getD 63 undef, a.tmps.getD 64 undef, a.tmps.getD 65 undef, a.tmps.getD 66 undef, a.tmps.getD 67 undef, a.tmps.getD 68 undef, a.tmps.getD 69 undef, a.tmps.getD 70 undef, a.tmps.getD 71 undef, a.tmps.getD 72 undef, a.tmps.getD 73 undef, a.tmps.getD 74 undef, a.tmps.getD 75 undef, a.tmps.getD 76 undef, a.tmps.getD 77 undef, a.tmps.getD 78 undef, a.tmps.getD 79 undef, a.tmps.getD 80 undef, a.tmps.getD 81 undef, a.tmps.getD 82 undef, a.tmps.getD 83 undef, a.tmps.getD 84 undef, a.tmps.getD 85 undef, a.tmps.getD 86 undef, a.tmps.getD 87 undef, a.tmps.getD 88 undef, a.tmps.getD 89 undef, a.tmps.getD 90 undef, a.tmps.getD 91 undef, a.tmps.getD 92 undef, a.tmps.getD 93 undef, a.tmps.getD 94 undef, a.tmps.getD 95 undef, a.tmps.getD 96 undef, a.tmps.getD 97 undef, a.tmps.getD 98 undef, a.tmps.getD 99 undef, a.tmps.getD 100 undef, a.tmps.getD 101 undef, a.tmps.getD 102 undef, a.tmps.getD 103 undef, a.tmps.getD 104 undef, a.tmps.getD 105 undef, a.tmps.getD 106 undef, a.tmps.getD 107 undef, a.tmps.getD 108 undef, a.tmps.getD 109 undef, a.tmps.getD 110 undef, a.tmps.getD 111 undef, a.tmps.getD 112 undef, a.tmps.getD 113 undef, a.tmps.getD 114 undef, a.tmps.getD 115 undef, a.tmps.getD 116 undef, a.tmps.getD 117 undef, a.tmps.getD 118 undef, a.tmps.getD 119 undef, a.tmps.getD 120 undef, a.tmps.getD 121 undef, a.tmps.getD 122 undef, a.tmps.getD 123 undef, a.tmps.getD 124 undef, a.tmps.getD 125 undef, a.tmps.getD 126 undef, a.tmps.getD 127 undef, a.tmps.getD 128 undef, a.tmps.getD 129 undef, a.tmps.getD 130 undef, a.tmps.getD 131 undef, a.tmps.getD 132 undef, a.tmps.getD 133 undef, a.tmps.getD 134 undef, a.tmps.getD 135 undef, a.tmps.getD 136 undef, a.tmps.getD 137 undef, a.tmps.getD 138 undef, a.tmps.getD 139 undef, a.tmps.getD 140 undef, a.tmps.getD 141 undef, a.tmps.getD 142 undef, a.tmps.getD 143 undef, a.tmps.getD 144 undef, a.tmps.getD 145 undef, a.tmps.getD 146 undef, a.tmps.getD 147 undef, a.tmps.getD 148 undef, a.tmps.getD 149 undef, a.tmps.getD 150 undef, a.tmps.getD 151 undef, a.tmps.getD 152 undef, a.tmps.getD 153 undef, a.tmps.getD 154 undef, a.tmps.getD 155 undef, a.tmps.getD 156 undef, a.tmps.getD 157 undef, a.tmps.getD 158 undef, a.tmps.getD 159 undef, a.tmps.getD 160 undef, a.tmps.getD 161 undef, a.tmps.getD 162 undef, a.tmps.getD 163 undef, a.tmps.getD 164 undef, a.tmps.getD 165 undef, a.tmps.getD 166 undef, a.tmps.getD 167 undef, a.tmps.getD 168 undef, a.tmps.getD 169 undef, a.tmps.getD 170 undef, a.tmps.getD 171 undef, a.tmps.getD 172 undef, a.tmps.getD 173 undef, a.tmps.getD 174 undef, a.tmps.getD 175 undef, a.tmps.getD 176 undef, a.tmps.getD 177 undef, a.tmps.getD 178 undef, a.tmps.getD 179 undef, a.tmps.getD 180 undef, a.tmps.getD 181 undef, a.tmps.getD 182 undef, a.tmps.getD 183 undef, a.tmps.getD 184 undef, a.tmps.getD 185 undef, a.tmps.getD 186 undef, a.tmps.getD 187 undef, a.tmps.getD 188 undef, a.tmps.getD 189 undef, a.tmps.getD 190 undef, a.tmps.getD 191 undef, a.tmps.getD 192 undef, a.tmps.getD 193 undef, a.tmps.getD 194 undef, a.tmps.getD 195 undef, a.tmps.getD 196 undef, a.tmps.getD 197 undef, a.tmps.getD 198 undef, a.tmps.getD 199 undef, a.tmps.getD 200 undef, a.tmps.getD 201 undef] := vtmps_list a.tmps 202 h.size
  unfold lit15
  rw [h.s0, h.s1, h.s2, h.s3, h.s4, h.s10] at e
  rw [← e, ← h.dfr]

/-- What a level may leave. -/
structure VBack (L : Nat) (s s' : VSt) : Prop where
  pc : s'.odd = true ∨ 0 ≤ s'.pc
  le : s'.left ≤ s.left
  lo : -(L : Int) ≤ s'.left
  n : (s'.n : Int) + 2 * s'.left ≤ (s.n : Int) + 2 * s.left

/-- What level ends in. -/
def VLev (V : VRig) (rb L : Nat) (s : VSt) (w : World) (e : Ending) (w' : World) : Prop := ∃ s', e = .returned (.tuple #[]) ∧ VAt V s' w' ∧ VKeep V rb w w' ∧ VBack L s s'

/-- A level, where so many steps may still be done. -/
def VLevel (L : Nat) : Prop := ∀ (V : VRig) (s : VSt) (w : World) (rb : Nat) (t o f : Int), VAt V s w → VLoc V rb w → (s.odd = true ∨ 0 ≤ s.pc) → 1 ≤ s.left → s.left ≤ L → (s.n : Int) + 2 * s.left ≤ 10000 →
  Calls Tryd.prog 15 #[.pointer (some ⟨V.mb, 0, none⟩), .int .i64 t, .int .i64 o, .int .i64 f, .pointer (some ⟨rb, 0, none⟩)] w (VLev V rb L s w)

/-- What is asked behind a round: where the loop ends; where the function returns. -/
structure VQ (V : VRig) (t o f : Int) (rb L : Nat) (s0 : VSt) (w0 : World) (Q : Exit → Act → World → Prop) : Prop where
  exit : ∀ (s : VSt) (nul : Bool) (a : Act) (w : World), VFrame V t o f rb nul a → VAt V s w → VKeep V rb w0 w → VBack L s0 s → Q (.exit 0) a w
  ret : ∀ (s : VSt) (a : Act) (w : World), a.defers = [] → VAt V s w → VKeep V rb w0 w → VBack L s0 s → Q .ret a w

/-- A state at the loop's head. -/
structure VHead (V : VRig) (t o f : Int) (rb L : Nat) (s0 : VSt) (w0 : World) (nul : Bool) (s : VSt) (a : Act) (w : World) : Prop where
  frame : VFrame V t o f rb nul a
  gen : VAt V s w
  loc : VLoc V rb w
  keep : VKeep V rb w0 w
  pc : s.odd = true ∨ 0 ≤ s.pc
  le : s.left ≤ s0.left
  lo : 1 ≤ s.left + L
  n : (s.n : Int) + 2 * s.left ≤ (s0.n : Int) + 2 * s0.left
  few : (s0.n : Int) + 2 * s0.left ≤ 10000
  big : L ≤ 3000
  hi : s0.left ≤ L

theorem VHead.back {V : VRig} {t o f : Int} {rb L : Nat} {s0 s : VSt} {w0 w : World} {nul : Bool} {a : Act} (h : VHead V t o f rb L s0 w0 nul s a w) : VBack L s0 s :=
  ⟨h.pc, h.le, by have := h.lo; omega, h.n⟩

set_option maxRecDepth 1000000 in
set_option maxHeartbeats 8000000 in
theorem vround_exit {V : VRig} {t o f : Int} {rb L : Nat} {s0 s : VSt} {w0 w : World} {nul : Bool} {a : Act} {K : Act → World → Prop} {Q : Exit → Act → World → Prop} (h : VHead V t o f rb L s0 w0 nul s a w) (hQ : VQ V t o f rb L s0 w0 Q)
    (hx : s.bad = true ∨ s.odd = true ∨ (V.ins.length : Int) ≤ s.pc) : Code.wp Tryd.prog body15 (Exit.then K Q) a w := by
  obtain ⟨u, rfl⟩ := h.frame.lit
  obtain ⟨c0, ⟨da, cap, c1, hb⟩, c3, c4, c5, c6, c7⟩ := h.gen.cells
  have hif := h.gen.ins.few
  have H := Go.Lib.hid h
  have HQ := Go.Lib.hid hQ
  have fin : ∀ (nul2 : Bool) (a2 : Act) (n2 : Nat), VFrame V t o f rb nul2 a2 → Q (.exit 0) a2 (w.drewN n2) := fun nul2 a2 n2 hf => HQ.out.exit s nul2 a2 _ hf (H.out.gen.drewN n2) (H.out.keep.drewN n2) H.out.back
  have F := Go.Lib.hid fin
  clear h hQ hb c1 fin
  unfold lit15
  by_cases hlt : s.pc < (V.ins.length : Int)
  · have hl1 : decide (s.pc < (V.ins.length : Int)) = true := by simpa using hlt
    by_cases hbad : s.bad = true
    · rw [hbad] at c3
      clear hx hbad
      conv => arg 2; whnf
      go_wp2
      go_quiet (fail)
      go_wp2
      exact F.out nul _ _ ⟨rfl, rfl, rfl, rfl, rfl, rfl, rfl, rfl⟩
    · have hb0 : s.bad = false := by simpa using hbad
      have ho : s.odd = true := by
        rcases hx with e | e | e
        · exact absurd e hbad
        · exact e
        · omega
      rw [hb0] at c3
      rw [ho] at c4
      clear hx hbad hb0 ho
      conv => arg 2; whnf
      go_wp2
      go_quiet (fail)
      go_wp2
      exact F.out nul _ _ ⟨rfl, rfl, rfl, rfl, rfl, rfl, rfl, rfl⟩
  · have hl0 : decide (s.pc < (V.ins.length : Int)) = false := by simpa using hlt
    clear hx
    conv => arg 2; whnf
    go_wp2
    go_quiet (fail)
    go_wp2
    exact F.out nul _ _ ⟨rfl, rfl, rfl, rfl, rfl, rfl, rfl, rfl⟩

set_option maxRecDepth 1000000 in
set_option maxHeartbeats 8000000 in
theorem vround_stop {V : VRig} {t o f : Int} {rb L : Nat} {s0 s : VSt} {w0 w : World} {nul : Bool} {a : Act} {K : Act → World → Prop} {Q : Exit → Act → World → Prop} (h : VHead V t o f rb L s0 w0 nul s a w) (hQ : VQ V t o f rb L s0 w0 Q)
    (hbad : s.bad = false) (hodd : s.odd = false) (hlt : s.pc < (V.ins.length : Int)) (hl : s.left ≤ 1) : Code.wp Tryd.prog body15 (Exit.then K Q) a w := by
  obtain ⟨u, rfl⟩ := h.frame.lit
  obtain ⟨c0, ⟨da, cap, c1, hb⟩, c3, c4, c5, c6, c7⟩ := h.gen.cells
  have hif := h.gen.ins.few
  have f5 := h.gen.fz 5
  have hlo := h.lo
  have hbig := h.big
  rw [hbad] at c3
  rw [hodd] at c4
  have H := Go.Lib.hid h
  have HQ := Go.Lib.hid hQ
  have hl1 : decide (s.pc < (V.ins.length : Int)) = true := by simpa using hlt
  have fin : ∀ (a2 : Act) (n2 : Nat), a2.defers = [] → Q .ret a2 ((w.drewN n2).setCell ⟨V.mb, 5, none⟩ (.int .i64 (s.left - 1))) := fun a2 n2 hd =>
    HQ.out.ret { s with left := s.left - 1 } a2 _ hd ((H.out.gen.drewN n2).setLeft rb _).1 ((H.out.keep.drewN n2).trans ((H.out.gen.drewN n2).setLeft rb _).2)
      ⟨H.out.pc, by have := H.out.le; show s.left - 1 ≤ _; omega, by show _ ≤ s.left - 1; omega, by have := H.out.n; show (s.n : Int) + 2 * (s.left - 1) ≤ _; omega⟩
  have F := Go.Lib.hid fin
  clear h hQ hb c1 fin hbad hodd
  unfold lit15
  conv => arg 2; whnf
  go_wp2
  go_quiet (fail)
  go_wp2
  exact F.out _ _ rfl

end Go.Proofs.YtkhicabfmkldpaaDoor
