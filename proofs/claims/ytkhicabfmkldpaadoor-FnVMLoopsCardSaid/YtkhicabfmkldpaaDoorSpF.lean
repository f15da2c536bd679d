/- The reference's machine: set, plain. -/
import Derived.Test.YtkhicabfmkldpaaDoorSpE
namespace Go.Proofs.YtkhicabfmkldpaaDoor
open Go.RowKit

set_option maxRecDepth 100000 in
set_option maxHeartbeats 6400000 in
theorem vset_2 {V : VRig} {s : VSt} {w : World} {rb : Nat} (h : VAt V s w) (r : VLoc V rb w) (hp : s.odd = true ∨ 0 ≤ s.pc) (hl : s.n < 100000) (t : Int) :
    Calls Tryd.prog 23 #[.pointer (some ⟨V.mb, 0, none⟩), .int .i64 2, .int .i64 t, .pointer (some ⟨rb, 0, none⟩)] w (VOp V rb s w) := by
  obtain ⟨c0, ⟨da, cap, c1, hb⟩, c3, c4, c5, c6, c7⟩ := h.cells
  obtain ⟨a, b, c, d, e, f, y, z, r0, r1, r2, r3, r4, r5, r6, r7, rf⟩ := r.cells
  have f3 := h.fz 3
  have f4 := h.fz 4
  have f6 := h.fz 6
  have H := Go.Lib.hid h
  have R := Go.Lib.hid r
  have P := Go.Lib.hid hp
  have hne := r.ne
  clear h r hp hb
  go_enter Tryd.func23, Tryd.ntmps23
  go_wp2_with (go_at_call 24; refine (vnote_any H.out hl V.mb _ _ _ _).mono ?_; rintro e2 w1 ⟨s1, rfl, rfl, g, k⟩; have G1 := Go.Lib.hid g; have K1 := Go.Lib.hid k; have R1 := Go.Lib.hid (R.out.keep k R.out.ne); clear g k; obtain ⟨c0, ⟨da, cap, c1, hb⟩, c3, c4, c5, c6, c7⟩ := G1.out.cells; clear hb; have f4 := G1.out.fz 4; obtain ⟨a, b, c, d, e, f, y, z, r0, r1, r2, r3, r4, r5, r6, r7, rf⟩ := R1.out.cells)
  all_goals go_end0
  all_goals exact ⟨{ s with n := s.n + 1 }, rfl, ⟨Nat.le_refl _, rfl, P.out⟩, G1.out, K1.out.mono, R1.out⟩
set_option maxRecDepth 100000 in
set_option maxHeartbeats 6400000 in
theorem vset_3 {V : VRig} {s : VSt} {w : World} {rb : Nat} (h : VAt V s w) (r : VLoc V rb w) (hp : s.odd = true ∨ 0 ≤ s.pc) (hl : s.n < 100000) (t : Int) :
    Calls Tryd.prog 23 #[.pointer (some ⟨V.mb, 0, none⟩), .int .i64 3, .int .i64 t, .pointer (some ⟨rb, 0, none⟩)] w (VOp V rb s w) := by
  obtain ⟨c0, ⟨da, cap, c1, hb⟩, c3, c4, c5, c6, c7⟩ := h.cells
  obtain ⟨a, b, c, d, e, f, y, z, r0, r1, r2, r3, r4, r5, r6, r7, rf⟩ := r.cells
  have f3 := h.fz 3
  have f4 := h.fz 4
  have f6 := h.fz 6
  have H := Go.Lib.hid h
  have R := Go.Lib.hid r
  have P := Go.Lib.hid hp
  have hne := r.ne
  clear h r hp hb
  go_enter Tryd.func23, Tryd.ntmps23
  go_wp2_with (go_at_call 24; refine (vnote_any H.out hl V.mb _ _ _ _).mono ?_; rintro e2 w1 ⟨s1, rfl, rfl, g, k⟩; have G1 := Go.Lib.hid g; have K1 := Go.Lib.hid k; have R1 := Go.Lib.hid (R.out.keep k R.out.ne); clear g k; obtain ⟨c0, ⟨da, cap, c1, hb⟩, c3, c4, c5, c6, c7⟩ := G1.out.cells; clear hb; have f4 := G1.out.fz 4; obtain ⟨a, b, c, d, e, f, y, z, r0, r1, r2, r3, r4, r5, r6, r7, rf⟩ := R1.out.cells)
  all_goals go_end0
  all_goals exact ⟨{ s with n := s.n + 1 }, rfl, ⟨Nat.le_refl _, rfl, P.out⟩, G1.out, K1.out.mono, R1.out⟩
set_option maxRecDepth 100000 in
set_option maxHeartbeats 6400000 in
theorem vset_4 {V : VRig} {s : VSt} {w : World} {rb : Nat} (h : VAt V s w) (r : VLoc V rb w) (hp : s.odd = true ∨ 0 ≤ s.pc) (hl : s.n < 100000) (t : Int) :
    Calls Tryd.prog 23 #[.pointer (some ⟨V.mb, 0, none⟩), .int .i64 4, .int .i64 t, .pointer (some ⟨rb, 0, none⟩)] w (VOp V rb s w) := by
  obtain ⟨c0, ⟨da, cap, c1, hb⟩, c3, c4, c5, c6, c7⟩ := h.cells
  obtain ⟨a, b, c, d, e, f, y, z, r0, r1, r2, r3, r4, r5, r6, r7, rf⟩ := r.cells
  have f3 := h.fz 3
  have f4 := h.fz 4
  have f6 := h.fz 6
  have H := Go.Lib.hid h
  have R := Go.Lib.hid r
  have P := Go.Lib.hid hp
  have hne := r.ne
  clear h r hp hb
  go_enter Tryd.func23, Tryd.ntmps23
  go_wp2_with (go_at_call 24; refine (vnote_any H.out hl V.mb _ _ _ _).mono ?_; rintro e2 w1 ⟨s1, rfl, rfl, g, k⟩; have G1 := Go.Lib.hid g; have K1 := Go.Lib.hid k; have R1 := Go.Lib.hid (R.out.keep k R.out.ne); clear g k; obtain ⟨c0, ⟨da, cap, c1, hb⟩, c3, c4, c5, c6, c7⟩ := G1.out.cells; clear hb; have f4 := G1.out.fz 4; obtain ⟨a, b, c, d, e, f, y, z, r0, r1, r2, r3, r4, r5, r6, r7, rf⟩ := R1.out.cells)
  all_goals go_end0
  all_goals exact ⟨{ s with n := s.n + 1 }, rfl, ⟨Nat.le_refl _, rfl, P.out⟩, G1.out, K1.out.mono, R1.out⟩
set_option maxRecDepth 100000 in
set_option maxHeartbeats 6400000 in
theorem vset_5 {V : VRig} {s : VSt} {w : World} {rb : Nat} (h : VAt V s w) (r : VLoc V rb w) (hp : s.odd = true ∨ 0 ≤ s.pc) (hl : s.n < 100000) (t : Int) :
    Calls Tryd.prog 23 #[.pointer (some ⟨V.mb, 0, none⟩), .int .i64 5, .int .i64 t, .pointer (some ⟨rb, 0, none⟩)] w (VOp V rb s w) := by
  obtain ⟨c0, ⟨da, cap, c1, hb⟩, c3, c4, c5, c6, c7⟩ := h.cells
  obtain ⟨a, b, c, d, e, f, y, z, r0, r1, r2, r3, r4, r5, r6, r7, rf⟩ := r.cells
  have f3 := h.fz 3
  have f4 := h.fz 4
  have f6 := h.fz 6
  have H := Go.Lib.hid h
  have R := Go.Lib.hid r
  have P := Go.Lib.hid hp
  have hne := r.ne
  clear h r hp hb
  go_enter Tryd.func23, Tryd.ntmps23
  go_wp2_with (go_at_call 24; refine (vnote_any H.out hl V.mb _ _ _ _).mono ?_; rintro e2 w1 ⟨s1, rfl, rfl, g, k⟩; have G1 := Go.Lib.hid g; have K1 := Go.Lib.hid k; have R1 := Go.Lib.hid (R.out.keep k R.out.ne); clear g k; obtain ⟨c0, ⟨da, cap, c1, hb⟩, c3, c4, c5, c6, c7⟩ := G1.out.cells; clear hb; have f4 := G1.out.fz 4; obtain ⟨a, b, c, d, e, f, y, z, r0, r1, r2, r3, r4, r5, r6, r7, rf⟩ := R1.out.cells)
  all_goals go_end0
  all_goals exact ⟨{ s with n := s.n + 1 }, rfl, ⟨Nat.le_refl _, rfl, P.out⟩, G1.out, K1.out.mono, R1.out⟩
set_option maxRecDepth 100000 in
set_option maxHeartbeats 6400000 in
theorem vset_6 {V : VRig} {s : VSt} {w : World} {rb : Nat} (h : VAt V s w) (r : VLoc V rb w) (hp : s.odd = true ∨ 0 ≤ s.pc) (hl : s.n < 100000) (t : Int) :
    Calls Tryd.prog 23 #[.pointer (some ⟨V.mb, 0, none⟩), .int .i64 6, .int .i64 t, .pointer (some ⟨rb, 0, none⟩)] w (VOp V rb s w) := by
  obtain ⟨c0, ⟨da, cap, c1, hb⟩, c3, c4, c5, c6, c7⟩ := h.cells
  obtain ⟨a, b, c, d, e, f, y, z, r0, r1, r2, r3, r4, r5, r6, r7, rf⟩ := r.cells
  have f3 := h.fz 3
  have f4 := h.fz 4
  have f6 := h.fz 6
  have H := Go.Lib.hid h
  have R := Go.Lib.hid r
  have P := Go.Lib.hid hp
  have hne := r.ne
  clear h r hp hb
  go_enter Tryd.func23, Tryd.ntmps23
  go_wp2_with (go_at_call 24; refine (vnote_any H.out hl V.mb _ _ _ _).mono ?_; rintro e2 w1 ⟨s1, rfl, rfl, g, k⟩; have G1 := Go.Lib.hid g; have K1 := Go.Lib.hid k; have R1 := Go.Lib.hid (R.out.keep k R.out.ne); clear g k; obtain ⟨c0, ⟨da, cap, c1, hb⟩, c3, c4, c5, c6, c7⟩ := G1.out.cells; clear hb; have f4 := G1.out.fz 4; obtain ⟨a, b, c, d, e, f, y, z, r0, r1, r2, r3, r4, r5, r6, r7, rf⟩ := R1.out.cells)
  all_goals go_end0
  all_goals exact ⟨{ s with n := s.n + 1 }, rfl, ⟨Nat.le_refl _, rfl, P.out⟩, G1.out, K1.out.mono, R1.out⟩
set_option maxRecDepth 100000 in
set_option maxHeartbeats 6400000 in
theorem vset_7 {V : VRig} {s : VSt} {w : World} {rb : Nat} (h : VAt V s w) (r : VLoc V rb w) (hp : s.odd = true ∨ 0 ≤ s.pc) (hl : s.n < 100000) (t : Int) :
    Calls Tryd.prog 23 #[.pointer (some ⟨V.mb, 0, none⟩), .int .i64 7, .int .i64 t, .pointer (some ⟨rb, 0, none⟩)] w (VOp V rb s w) := by
  obtain ⟨c0, ⟨da, cap, c1, hb⟩, c3, c4, c5, c6, c7⟩ := h.cells
  obtain ⟨a, b, c, d, e, f, y, z, r0, r1, r2, r3, r4, r5, r6, r7, rf⟩ := r.cells
  have f3 := h.fz 3
  have f4 := h.fz 4
  have f6 := h.fz 6
  have H := Go.Lib.hid h
  have R := Go.Lib.hid r
  have P := Go.Lib.hid hp
  have hne := r.ne
  clear h r hp hb
  go_enter Tryd.func23, Tryd.ntmps23
  go_wp2_with (go_at_call 24; refine (vnote_any H.out hl V.mb _ _ _ _).mono ?_; rintro e2 w1 ⟨s1, rfl, rfl, g, k⟩; have G1 := Go.Lib.hid g; have K1 := Go.Lib.hid k; have R1 := Go.Lib.hid (R.out.keep k R.out.ne); clear g k; obtain ⟨c0, ⟨da, cap, c1, hb⟩, c3, c4, c5, c6, c7⟩ := G1.out.cells; clear hb; have f4 := G1.out.fz 4; obtain ⟨a, b, c, d, e, f, y, z, r0, r1, r2, r3, r4, r5, r6, r7, rf⟩ := R1.out.cells)
  all_goals go_end0
  all_goals exact ⟨{ s with n := s.n + 1 }, rfl, ⟨Nat.le_refl _, rfl, P.out⟩, G1.out, K1.out.mono, R1.out⟩
set_option maxRecDepth 100000 in
set_option maxHeartbeats 6400000 in
theorem vset_8 {V : VRig} {s : VSt} {w : World} {rb : Nat} (h : VAt V s w) (r : VLoc V rb w) (hp : s.odd = true ∨ 0 ≤ s.pc) (hl : s.n < 100000) (t : Int) :
    Calls Tryd.prog 23 #[.pointer (some ⟨V.mb, 0, none⟩), .int .i64 8, .int .i64 t, .pointer (some ⟨rb, 0, none⟩)] w (VOp V rb s w) := by
  obtain ⟨c0, ⟨da, cap, c1, hb⟩, c3, c4, c5, c6, c7⟩ := h.cells
  obtain ⟨a, b, c, d, e, f, y, z, r0, r1, r2, r3, r4, r5, r6, r7, rf⟩ := r.cells
  have f3 := h.fz 3
  have f4 := h.fz 4
  have f6 := h.fz 6
  have H := Go.Lib.hid h
  have R := Go.Lib.hid r
  have P := Go.Lib.hid hp
  have hne := r.ne
  clear h r hp hb
  go_enter Tryd.func23, Tryd.ntmps23
  go_wp2_with (go_at_call 24; refine (vnote_any H.out hl V.mb _ _ _ _).mono ?_; rintro e2 w1 ⟨s1, rfl, rfl, g, k⟩; have G1 := Go.Lib.hid g; have K1 := Go.Lib.hid k; have R1 := Go.Lib.hid (R.out.keep k R.out.ne); clear g k; obtain ⟨c0, ⟨da, cap, c1, hb⟩, c3, c4, c5, c6, c7⟩ := G1.out.cells; clear hb; have f4 := G1.out.fz 4; obtain ⟨a, b, c, d, e, f, y, z, r0, r1, r2, r3, r4, r5, r6, r7, rf⟩ := R1.out.cells)
  all_goals go_end0
  all_goals exact ⟨{ s with n := s.n + 1 }, rfl, ⟨Nat.le_refl _, rfl, P.out⟩, G1.out, K1.out.mono, R1.out⟩
set_option maxRecDepth 100000 in
set_option maxHeartbeats 6400000 in
theorem vset_o {V : VRig} {s : VSt} {w : World} {rb : Nat} (h : VAt V s w) (r : VLoc V rb w) (hp : s.odd = true ∨ 0 ≤ s.pc) (_ : s.n < 100000) (t : Int) {x : Int} (k2 : (x == 2) = false) (k3 : (x == 3) = false) (k4 : (x == 4) = false) (k5 : (x == 5) = false) (k6 : (x == 6) = false) (k7 : (x == 7) = false) (k8 : (x == 8) = false) :
    Calls Tryd.prog 23 #[.pointer (some ⟨V.mb, 0, none⟩), .int .i64 x, .int .i64 t, .pointer (some ⟨rb, 0, none⟩)] w (VOp V rb s w) := by
  obtain ⟨c0, ⟨da, cap, c1, hb⟩, c3, c4, c5, c6, c7⟩ := h.cells
  obtain ⟨a, b, c, d, e, f, y, z, r0, r1, r2, r3, r4, r5, r6, r7, rf⟩ := r.cells
  have f3 := h.fz 3
  have f4 := h.fz 4
  have f6 := h.fz 6
  have H := Go.Lib.hid h
  have R := Go.Lib.hid r
  have P := Go.Lib.hid hp
  have hne := r.ne
  clear h r hp hb
  go_enter Tryd.func23, Tryd.ntmps23
  go_wp2
  go_end0
  exact ⟨s, rfl, ⟨by omega, rfl, P.out⟩, H.out, VKeep.refl _ _ _, R.out⟩
theorem vset_any {V : VRig} {s : VSt} {w : World} {rb : Nat} (h : VAt V s w) (r : VLoc V rb w) (hp : s.odd = true ∨ 0 ≤ s.pc) (hl : s.n < 100000) (x t : Int) :
    Calls Tryd.prog 23 #[.pointer (some ⟨V.mb, 0, none⟩), .int .i64 x, .int .i64 t, .pointer (some ⟨rb, 0, none⟩)] w (VOp V rb s w) := by
  by_cases c2 : x = 2
  · subst c2; exact vset_2 h r hp hl t
  by_cases c3 : x = 3
  · subst c3; exact vset_3 h r hp hl t
  by_cases c4 : x = 4
  · subst c4; exact vset_4 h r hp hl t
  by_cases c5 : x = 5
  · subst c5; exact vset_5 h r hp hl t
  by_cases c6 : x = 6
  · subst c6; exact vset_6 h r hp hl t
  by_cases c7 : x = 7
  · subst c7; exact vset_7 h r hp hl t
  by_cases c8 : x = 8
  · subst c8; exact vset_8 h r hp hl t
  exact vset_o h r hp hl t (vbeq c2) (vbeq c3) (vbeq c4) (vbeq c5) (vbeq c6) (vbeq c7) (vbeq c8)

/-- The end of plain: the odd flag is written. -/
theorem VOp.close {V : VRig} {rb : Nat} {s s1 : VSt} {w w1 : World} {v : Bool} (g : VAt V s1 w1) (k : VKeep V rb w w1) (r : VLoc V rb w1) (hn : s1.n ≤ s.n + 1) (hl : s1.left = s.left) (hv : v = true ∨ 0 ≤ s1.pc) :
    VOp V rb s w (.returned (.tuple #[])) (w1.setCell ⟨V.mb, 4, none⟩ (.bool v)) :=
  ⟨{ s1 with odd := v }, rfl, ⟨hn, hl, hv⟩, (g.setOdd rb v).1, k.trans (g.setOdd rb v).2, r.keep (g.setOdd V.mb v).2 r.ne⟩

set_option maxRecDepth 100000 in
set_option maxHeartbeats 6400000 in
theorem vplain_7 {V : VRig} {s : VSt} {w : World} {rb : Nat} (h : VAt V s w) (r : VLoc V rb w) (hp : s.odd = true ∨ 0 ≤ s.pc) (hl : s.n < 100000) (t : Int) (x : Int) :
    Calls Tryd.prog 26 #[.pointer (some ⟨V.mb, 0, none⟩), .int .i64 7, .int .i64 x, .int .i64 t, .pointer (some ⟨rb, 0, none⟩)] w (VOp V rb s w) := by
  obtain ⟨c0, ⟨da, cap, c1, hb⟩, c3, c4, c5, c6, c7⟩ := h.cells
  obtain ⟨a, b, c, d, e, f, y, z, r0, r1, r2, r3, r4, r5, r6, r7, rf⟩ := r.cells
  have f3 := h.fz 3
  have f4 := h.fz 4
  have f6 := h.fz 6
  have H := Go.Lib.hid h
  have R := Go.Lib.hid r
  have P := Go.Lib.hid hp
  have hne := r.ne
  clear h r hp hb
  go_enter Tryd.func26, Tryd.ntmps26
  go_wp2_with (go_at_call 24; refine (vnote_any H.out hl V.mb _ _ _ _).mono ?_; rintro e2 w1 ⟨s1, rfl, rfl, g, k⟩; have G1 := Go.Lib.hid g; have K1 := Go.Lib.hid k; have R1 := Go.Lib.hid (R.out.keep k R.out.ne); clear g k; obtain ⟨c0, ⟨da, cap, c1, hb⟩, c3, c4, c5, c6, c7⟩ := G1.out.cells; clear hb; have f4 := G1.out.fz 4; obtain ⟨a, b, c, d, e, f, y, z, r0, r1, r2, r3, r4, r5, r6, r7, rf⟩ := R1.out.cells)
  all_goals go_end0
  all_goals exact VOp.close G1.out K1.out.mono R1.out (Nat.le_refl _) rfl (by have hP := P.out; first | exact .inl rfl | (simp_all; done) | (simp only [decide_eq_true_eq]; omega) | omega)
set_option maxRecDepth 100000 in
set_option maxHeartbeats 6400000 in
theorem vplain_21 {V : VRig} {s : VSt} {w : World} {rb : Nat} (h : VAt V s w) (r : VLoc V rb w) (hp : s.odd = true ∨ 0 ≤ s.pc) (hl : s.n < 100000) (t : Int) (x : Int) :
    Calls Tryd.prog 26 #[.pointer (some ⟨V.mb, 0, none⟩), .int .i64 21, .int .i64 x, .int .i64 t, .pointer (some ⟨rb, 0, none⟩)] w (VOp V rb s w) := by
  obtain ⟨c0, ⟨da, cap, c1, hb⟩, c3, c4, c5, c6, c7⟩ := h.cells
  obtain ⟨a, b, c, d, e, f, y, z, r0, r1, r2, r3, r4, r5, r6, r7, rf⟩ := r.cells
  have f3 := h.fz 3
  have f4 := h.fz 4
  have f6 := h.fz 6
  have H := Go.Lib.hid h
  have R := Go.Lib.hid r
  have P := Go.Lib.hid hp
  have hne := r.ne
  clear h r hp hb
  go_enter Tryd.func26, Tryd.ntmps26
  go_wp2_with (go_at_call 24; refine (vnote_any H.out hl V.mb _ _ _ _).mono ?_; rintro e2 w1 ⟨s1, rfl, rfl, g, k⟩; have G1 := Go.Lib.hid g; have K1 := Go.Lib.hid k; have R1 := Go.Lib.hid (R.out.keep k R.out.ne); clear g k; obtain ⟨c0, ⟨da, cap, c1, hb⟩, c3, c4, c5, c6, c7⟩ := G1.out.cells; clear hb; have f4 := G1.out.fz 4; obtain ⟨a, b, c, d, e, f, y, z, r0, r1, r2, r3, r4, r5, r6, r7, rf⟩ := R1.out.cells)
  all_goals go_end0
  all_goals exact VOp.close G1.out K1.out.mono R1.out (Nat.le_refl _) rfl (by have hP := P.out; first | exact .inl rfl | (simp_all; done) | (simp only [decide_eq_true_eq]; omega) | omega)
set_option maxRecDepth 100000 in
set_option maxHeartbeats 6400000 in
theorem vplain_22 {V : VRig} {s : VSt} {w : World} {rb : Nat} (h : VAt V s w) (r : VLoc V rb w) (hp : s.odd = true ∨ 0 ≤ s.pc) (hl : s.n < 100000) (t : Int) (x : Int) :
    Calls Tryd.prog 26 #[.pointer (some ⟨V.mb, 0, none⟩), .int .i64 22, .int .i64 x, .int .i64 t, .pointer (some ⟨rb, 0, none⟩)] w (VOp V rb s w) := by
  obtain ⟨c0, ⟨da, cap, c1, hb⟩, c3, c4, c5, c6, c7⟩ := h.cells
  obtain ⟨a, b, c, d, e, f, y, z, r0, r1, r2, r3, r4, r5, r6, r7, rf⟩ := r.cells
  have f3 := h.fz 3
  have f4 := h.fz 4
  have f6 := h.fz 6
  have H := Go.Lib.hid h
  have R := Go.Lib.hid r
  have P := Go.Lib.hid hp
  have hne := r.ne
  clear h r hp hb
  go_enter Tryd.func26, Tryd.ntmps26
  go_wp2_with (go_at_call 24; refine (vnote_any H.out hl V.mb _ _ _ _).mono ?_; rintro e2 w1 ⟨s1, rfl, rfl, g, k⟩; have G1 := Go.Lib.hid g; have K1 := Go.Lib.hid k; have R1 := Go.Lib.hid (R.out.keep k R.out.ne); clear g k; obtain ⟨c0, ⟨da, cap, c1, hb⟩, c3, c4, c5, c6, c7⟩ := G1.out.cells; clear hb; have f4 := G1.out.fz 4; obtain ⟨a, b, c, d, e, f, y, z, r0, r1, r2, r3, r4, r5, r6, r7, rf⟩ := R1.out.cells)
  all_goals go_end0
  all_goals exact VOp.close G1.out K1.out.mono R1.out (Nat.le_refl _) rfl (by have hP := P.out; first | exact .inl rfl | (simp_all; done) | (simp only [decide_eq_true_eq]; omega) | omega)
set_option maxRecDepth 100000 in
set_option maxHeartbeats 6400000 in
theorem vplain_15 {V : VRig} {s : VSt} {w : World} {rb : Nat} (h : VAt V s w) (r : VLoc V rb w) (hp : s.odd = true ∨ 0 ≤ s.pc) (_hl : s.n < 100000) (t : Int) (x : Int) :
    Calls Tryd.prog 26 #[.pointer (some ⟨V.mb, 0, none⟩), .int .i64 15, .int .i64 x, .int .i64 t, .pointer (some ⟨rb, 0, none⟩)] w (VOp V rb s w) := by
  obtain ⟨c0, ⟨da, cap, c1, hb⟩, c3, c4, c5, c6, c7⟩ := h.cells
  obtain ⟨a, b, c, d, e, f, y, z, r0, r1, r2, r3, r4, r5, r6, r7, rf⟩ := r.cells
  have f3 := h.fz 3
  have f4 := h.fz 4
  have f6 := h.fz 6
  have H := Go.Lib.hid h
  have R := Go.Lib.hid r
  have P := Go.Lib.hid hp
  have hne := r.ne
  clear h r hp hb
  go_enter Tryd.func26, Tryd.ntmps26
  go_wp2
  all_goals go_end0
  all_goals
    have S := R.out.set H.out 3 (.int .i64 x) (by first | exact .inl ⟨by omega, _, rfl⟩ | exact .inr (.inl ⟨by omega, _, rfl⟩))
    exact VOp.close S.1 S.2.1 S.2.2 (Nat.le_succ _) rfl (by have hP := P.out; first | exact .inl rfl | (simp_all; done) | (simp only [decide_eq_true_eq]; omega) | omega)
set_option maxRecDepth 100000 in
set_option maxHeartbeats 6400000 in
theorem vplain_18 {V : VRig} {s : VSt} {w : World} {rb : Nat} (h : VAt V s w) (r : VLoc V rb w) (hp : s.odd = true ∨ 0 ≤ s.pc) (_hl : s.n < 100000) (t : Int) (x : Int) :
    Calls Tryd.prog 26 #[.pointer (some ⟨V.mb, 0, none⟩), .int .i64 18, .int .i64 x, .int .i64 t, .pointer (some ⟨rb, 0, none⟩)] w (VOp V rb s w) := by
  obtain ⟨c0, ⟨da, cap, c1, hb⟩, c3, c4, c5, c6, c7⟩ := h.cells
  obtain ⟨a, b, c, d, e, f, y, z, r0, r1, r2, r3, r4, r5, r6, r7, rf⟩ := r.cells
  have f3 := h.fz 3
  have f4 := h.fz 4
  have f6 := h.fz 6
  have H := Go.Lib.hid h
  have R := Go.Lib.hid r
  have P := Go.Lib.hid hp
  have hne := r.ne
  clear h r hp hb
  go_enter Tryd.func26, Tryd.ntmps26
  go_wp2
  all_goals go_end0
  all_goals
    have S := R.out.set H.out 2 (.int .i64 x) (by first | exact .inl ⟨by omega, _, rfl⟩ | exact .inr (.inl ⟨by omega, _, rfl⟩))
    exact VOp.close S.1 S.2.1 S.2.2 (Nat.le_succ _) rfl (by have hP := P.out; first | exact .inl rfl | (simp_all; done) | (simp only [decide_eq_true_eq]; omega) | omega)
set_option maxRecDepth 100000 in
set_option maxHeartbeats 6400000 in
theorem vplain_16 {V : VRig} {s : VSt} {w : World} {rb : Nat} (h : VAt V s w) (r : VLoc V rb w) (hp : s.odd = true ∨ 0 ≤ s.pc) (_hl : s.n < 100000) (t : Int) (x : Int) :
    Calls Tryd.prog 26 #[.pointer (some ⟨V.mb, 0, none⟩), .int .i64 16, .int .i64 x, .int .i64 t, .pointer (some ⟨rb, 0, none⟩)] w (VOp V rb s w) := by
  obtain ⟨c0, ⟨da, cap, c1, hb⟩, c3, c4, c5, c6, c7⟩ := h.cells
  obtain ⟨a, b, c, d, e, f, y, z, r0, r1, r2, r3, r4, r5, r6, r7, rf⟩ := r.cells
  have f3 := h.fz 3
  have f4 := h.fz 4
  have f6 := h.fz 6
  have H := Go.Lib.hid h
  have R := Go.Lib.hid r
  have P := Go.Lib.hid hp
  have hne := r.ne
  clear h r hp hb
  go_enter Tryd.func26, Tryd.ntmps26
  go_wp2
  all_goals go_end0
  all_goals
    have S := R.out.set H.out 3 (.int .i64 (wrap64 (d + x))) (by first | exact .inl ⟨by omega, _, rfl⟩ | exact .inr (.inl ⟨by omega, _, rfl⟩))
    exact VOp.close S.1 S.2.1 S.2.2 (Nat.le_succ _) rfl (by have hP := P.out; first | exact .inl rfl | (simp_all; done) | (simp only [decide_eq_true_eq]; omega) | omega)
set_option maxRecDepth 100000 in
set_option maxHeartbeats 6400000 in
theorem vplain_17 {V : VRig} {s : VSt} {w : World} {rb : Nat} (h : VAt V s w) (r : VLoc V rb w) (hp : s.odd = true ∨ 0 ≤ s.pc) (_hl : s.n < 100000) (t : Int) (x : Int) :
    Calls Tryd.prog 26 #[.pointer (some ⟨V.mb, 0, none⟩), .int .i64 17, .int .i64 x, .int .i64 t, .pointer (some ⟨rb, 0, none⟩)] w (VOp V rb s w) := by
  obtain ⟨c0, ⟨da, cap, c1, hb⟩, c3, c4, c5, c6, c7⟩ := h.cells
  obtain ⟨a, b, c, d, e, f, y, z, r0, r1, r2, r3, r4, r5, r6, r7, rf⟩ := r.cells
  have f3 := h.fz 3
  have f4 := h.fz 4
  have f6 := h.fz 6
  have H := Go.Lib.hid h
  have R := Go.Lib.hid r
  have P := Go.Lib.hid hp
  have hne := r.ne
  clear h r hp hb
  go_enter Tryd.func26, Tryd.ntmps26
  go_wp2
  all_goals go_end0
  all_goals
    have S := R.out.set H.out 3 (.int .i64 (wrap64 (d * x))) (by first | exact .inl ⟨by omega, _, rfl⟩ | exact .inr (.inl ⟨by omega, _, rfl⟩))
    exact VOp.close S.1 S.2.1 S.2.2 (Nat.le_succ _) rfl (by have hP := P.out; first | exact .inl rfl | (simp_all; done) | (simp only [decide_eq_true_eq]; omega) | omega)
set_option maxRecDepth 100000 in
set_option maxHeartbeats 6400000 in
theorem vplain_12 {V : VRig} {s : VSt} {w : World} {rb : Nat} (h : VAt V s w) (r : VLoc V rb w) (hp : s.odd = true ∨ 0 ≤ s.pc) (_hl : s.n < 100000) (t : Int) (x : Int) :
    Calls Tryd.prog 26 #[.pointer (some ⟨V.mb, 0, none⟩), .int .i64 12, .int .i64 x, .int .i64 t, .pointer (some ⟨rb, 0, none⟩)] w (VOp V rb s w) := by
  obtain ⟨c0, ⟨da, cap, c1, hb⟩, c3, c4, c5, c6, c7⟩ := h.cells
  obtain ⟨a, b, c, d, e, f, y, z, r0, r1, r2, r3, r4, r5, r6, r7, rf⟩ := r.cells
  have f3 := h.fz 3
  have f4 := h.fz 4
  have f6 := h.fz 6
  have H := Go.Lib.hid h
  have R := Go.Lib.hid r
  have P := Go.Lib.hid hp
  have hne := r.ne
  clear h r hp hb
  go_enter Tryd.func26, Tryd.ntmps26
  go_wp2
  all_goals go_end0
  all_goals
    have S := R.out.set H.out 1 (.bool (d == x)) (by first | exact .inl ⟨by omega, _, rfl⟩ | exact .inr (.inl ⟨by omega, _, rfl⟩))
    exact VOp.close S.1 S.2.1 S.2.2 (Nat.le_succ _) rfl (by have hP := P.out; first | exact .inl rfl | (simp_all; done) | (simp only [decide_eq_true_eq]; omega) | omega)
set_option maxRecDepth 100000 in
set_option maxHeartbeats 6400000 in
theorem vplain_13 {V : VRig} {s : VSt} {w : World} {rb : Nat} (h : VAt V s w) (r : VLoc V rb w) (hp : s.odd = true ∨ 0 ≤ s.pc) (_hl : s.n < 100000) (t : Int) (x : Int) :
    Calls Tryd.prog 26 #[.pointer (some ⟨V.mb, 0, none⟩), .int .i64 13, .int .i64 x, .int .i64 t, .pointer (some ⟨rb, 0, none⟩)] w (VOp V rb s w) := by
  obtain ⟨c0, ⟨da, cap, c1, hb⟩, c3, c4, c5, c6, c7⟩ := h.cells
  obtain ⟨a, b, c, d, e, f, y, z, r0, r1, r2, r3, r4, r5, r6, r7, rf⟩ := r.cells
  have f3 := h.fz 3
  have f4 := h.fz 4
  have f6 := h.fz 6
  have H := Go.Lib.hid h
  have R := Go.Lib.hid r
  have P := Go.Lib.hid hp
  have hne := r.ne
  clear h r hp hb
  go_enter Tryd.func26, Tryd.ntmps26
  go_wp2
  all_goals go_end0
  all_goals
    have S := R.out.set H.out 1 (.bool (decide (x < d))) (by first | exact .inl ⟨by omega, _, rfl⟩ | exact .inr (.inl ⟨by omega, _, rfl⟩))
    exact VOp.close S.1 S.2.1 S.2.2 (Nat.le_succ _) rfl (by have hP := P.out; first | exact .inl rfl | (simp_all; done) | (simp only [decide_eq_true_eq]; omega) | omega)
set_option maxRecDepth 100000 in
set_option maxHeartbeats 6400000 in
theorem vplain_11 {V : VRig} {s : VSt} {w : World} {rb : Nat} (h : VAt V s w) (r : VLoc V rb w) (hp : s.odd = true ∨ 0 ≤ s.pc) (_hl : s.n < 100000) (t : Int) (x : Int) :
    Calls Tryd.prog 26 #[.pointer (some ⟨V.mb, 0, none⟩), .int .i64 11, .int .i64 x, .int .i64 t, .pointer (some ⟨rb, 0, none⟩)] w (VOp V rb s w) := by
  obtain ⟨c0, ⟨da, cap, c1, hb⟩, c3, c4, c5, c6, c7⟩ := h.cells
  obtain ⟨a, b, c, d, e, f, y, z, r0, r1, r2, r3, r4, r5, r6, r7, rf⟩ := r.cells
  have f3 := h.fz 3
  have f4 := h.fz 4
  have f6 := h.fz 6
  have H := Go.Lib.hid h
  have R := Go.Lib.hid r
  have P := Go.Lib.hid hp
  have hne := r.ne
  clear h r hp hb
  go_enter Tryd.func26, Tryd.ntmps26
  go_wp2
  all_goals go_end0
  all_goals exact VOp.close (H.out.setPc rb _).1 (H.out.setPc rb _).2 (R.out.keep (H.out.setPc V.mb _).2 R.out.ne) (Nat.le_succ _) rfl (by have hP := P.out; first | exact .inl rfl | (simp_all; done) | (simp only [decide_eq_true_eq]; omega) | omega)
set_option maxRecDepth 100000 in
set_option maxHeartbeats 6400000 in
theorem vplain_14 {V : VRig} {s : VSt} {w : World} {rb : Nat} (h : VAt V s w) (r : VLoc V rb w) (hp : s.odd = true ∨ 0 ≤ s.pc) (_hl : s.n < 100000) (t : Int) (x : Int) :
    Calls Tryd.prog 26 #[.pointer (some ⟨V.mb, 0, none⟩), .int .i64 14, .int .i64 x, .int .i64 t, .pointer (some ⟨rb, 0, none⟩)] w (VOp V rb s w) := by
  obtain ⟨c0, ⟨da, cap, c1, hb⟩, c3, c4, c5, c6, c7⟩ := h.cells
  obtain ⟨a, b, c, d, e, f, y, z, r0, r1, r2, r3, r4, r5, r6, r7, rf⟩ := r.cells
  have f3 := h.fz 3
  have f4 := h.fz 4
  have f6 := h.fz 6
  have H := Go.Lib.hid h
  have R := Go.Lib.hid r
  have P := Go.Lib.hid hp
  have hne := r.ne
  clear h r hp hb
  go_enter Tryd.func26, Tryd.ntmps26
  go_wp2
  all_goals go_end0
  all_goals first
    | exact VOp.close (H.out.setPc rb _).1 (H.out.setPc rb _).2 (R.out.keep (H.out.setPc V.mb _).2 R.out.ne) (Nat.le_succ _) rfl (by have hP := P.out; first | exact .inl rfl | (simp_all; done) | (simp only [decide_eq_true_eq]; omega) | omega)
    | exact VOp.close H.out (VKeep.refl _ _ _) R.out (Nat.le_succ _) rfl (by have hP := P.out; first | exact .inl rfl | (simp_all; done) | (simp only [decide_eq_true_eq]; omega) | omega)
set_option maxRecDepth 100000 in
set_option maxHeartbeats 6400000 in
theorem vplain_o {V : VRig} {s : VSt} {w : World} {rb : Nat} (h : VAt V s w) (r : VLoc V rb w) (hp : s.odd = true ∨ 0 ≤ s.pc) (_hl : s.n < 100000) (t : Int) {op : Int} (x : Int) (k7 : (op == 7) = false) (k21 : (op == 21) = false) (k22 : (op == 22) = false) (k11 : (op == 11) = false) (k12 : (op == 12) = false) (k13 : (op == 13) = false) (k14 : (op == 14) = false) (k15 : (op == 15) = false) (k16 : (op == 16) = false) (k17 : (op == 17) = false) (k18 : (op == 18) = false) :
    Calls Tryd.prog 26 #[.pointer (some ⟨V.mb, 0, none⟩), .int .i64 op, .int .i64 x, .int .i64 t, .pointer (some ⟨rb, 0, none⟩)] w (VOp V rb s w) := by
  obtain ⟨c0, ⟨da, cap, c1, hb⟩, c3, c4, c5, c6, c7⟩ := h.cells
  obtain ⟨a, b, c, d, e, f, y, z, r0, r1, r2, r3, r4, r5, r6, r7, rf⟩ := r.cells
  have f3 := h.fz 3
  have f4 := h.fz 4
  have f6 := h.fz 6
  have H := Go.Lib.hid h
  have R := Go.Lib.hid r
  have P := Go.Lib.hid hp
  have hne := r.ne
  clear h r hp hb
  go_enter Tryd.func26, Tryd.ntmps26
  go_wp2
  all_goals go_end0
  all_goals exact VOp.close (H.out.setBad rb _).1 (H.out.setBad rb _).2 (R.out.keep (H.out.setBad V.mb _).2 R.out.ne) (Nat.le_succ _) rfl (by have hP := P.out; first | exact .inl rfl | (simp_all; done) | (simp only [decide_eq_true_eq]; omega) | omega)
theorem vplain_any {V : VRig} {s : VSt} {w : World} {rb : Nat} (h : VAt V s w) (r : VLoc V rb w) (hp : s.odd = true ∨ 0 ≤ s.pc) (hl : s.n < 100000) (op x t : Int) :
    Calls Tryd.prog 26 #[.pointer (some ⟨V.mb, 0, none⟩), .int .i64 op, .int .i64 x, .int .i64 t, .pointer (some ⟨rb, 0, none⟩)] w (VOp V rb s w) := by
  by_cases c7 : op = 7
  · subst c7; exact vplain_7 h r hp hl t x
  by_cases c21 : op = 21
  · subst c21; exact vplain_21 h r hp hl t x
  by_cases c22 : op = 22
  · subst c22; exact vplain_22 h r hp hl t x
  by_cases c11 : op = 11
  · subst c11; exact vplain_11 h r hp hl t x
  by_cases c12 : op = 12
  · subst c12; exact vplain_12 h r hp hl t x
  by_cases c13 : op = 13
  · subst c13; exact vplain_13 h r hp hl t x
  by_cases c14 : op = 14
  · subst c14; exact vplain_14 h r hp hl t x
  by_cases c15 : op = 15
  · subst c15; exact vplain_15 h r hp hl t x
  by_cases c16 : op = 16
  · subst c16; exact vplain_16 h r hp hl t x
  by_cases c17 : op = 17
  · subst c17; exact vplain_17 h r hp hl t x
  by_cases c18 : op = 18
  · subst c18; exact vplain_18 h r hp hl t x
  exact vplain_o h r hp hl t x (vbeq c7) (vbeq c21) (vbeq c22) (vbeq c11) (vbeq c12) (vbeq c13) (vbeq c14) (vbeq c15) (vbeq c16) (vbeq c17) (vbeq c18)

end Go.Proofs.YtkhicabfmkldpaaDoor
