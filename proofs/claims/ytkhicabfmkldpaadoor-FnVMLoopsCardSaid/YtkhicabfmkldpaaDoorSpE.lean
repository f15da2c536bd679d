/- The reference's machine: read. -/
import Derived.Test.YtkhicabfmkldpaaDoorSp
namespace Go.Proofs.YtkhicabfmkldpaaDoor
open Go.RowKit

theorem VSame.setOdd {s : VSt} {v : Bool} (hv : s.odd = true → v = true) : VSame s { s with odd := v } := ⟨rfl, rfl, rfl, hv⟩

set_option maxRecDepth 100000 in
set_option maxHeartbeats 6400000 in
theorem vread_1 {V : VRig} {s : VSt} {w : World} {rb : Nat} (h : VAt V s w) (r : VLoc V rb w) (hp : s.odd = true ∨ 0 ≤ s.pc) :
    Calls Tryd.prog 22 #[.pointer (some ⟨V.mb, 0, none⟩), .int .i64 1, .pointer (some ⟨rb, 0, none⟩)] w (VOp V rb s w) := by
  obtain ⟨c0, ⟨da, cap, c1, hb⟩, c3, c4, c5, c6, c7⟩ := h.cells
  obtain ⟨a, b, c, d, e, f, y, z, r0, r1, r2, r3, r4, r5, r6, r7, rf⟩ := r.cells
  have f4 := h.fz 4
  have H := Go.Lib.hid h
  have R := Go.Lib.hid r
  have P := Go.Lib.hid hp
  have hne := r.ne
  have hfew := hb.few
  clear h r hp hb
  go_enter Tryd.func22, Tryd.ntmps22
  go_wp2
  go_end0
  exact ⟨s, rfl, (VSame.refl s).step P.out, H.out, VKeep.refl _ _ _, R.out⟩
set_option maxRecDepth 100000 in
set_option maxHeartbeats 6400000 in
theorem vread_10 {V : VRig} {s : VSt} {w : World} {rb : Nat} (h : VAt V s w) (r : VLoc V rb w) (hp : s.odd = true ∨ 0 ≤ s.pc) :
    Calls Tryd.prog 22 #[.pointer (some ⟨V.mb, 0, none⟩), .int .i64 10, .pointer (some ⟨rb, 0, none⟩)] w (VOp V rb s w) := by
  obtain ⟨c0, ⟨da, cap, c1, hb⟩, c3, c4, c5, c6, c7⟩ := h.cells
  obtain ⟨a, b, c, d, e, f, y, z, r0, r1, r2, r3, r4, r5, r6, r7, rf⟩ := r.cells
  have f4 := h.fz 4
  have H := Go.Lib.hid h
  have R := Go.Lib.hid r
  have P := Go.Lib.hid hp
  have hne := r.ne
  have hfew := hb.few
  clear h r hp hb
  go_enter Tryd.func22, Tryd.ntmps22
  go_wp2_with (go_at_call 33; refine (vlong_any H.out V.mb).mono ?_; rintro e2 w1 ⟨x1, s1, rfl, g, k, m⟩; have G1 := Go.Lib.hid g; have K1 := Go.Lib.hid k; have M1 := Go.Lib.hid m; have R1 := Go.Lib.hid (R.out.keep k R.out.ne); clear g k m; obtain ⟨a, b, c, d, e, f, y, z, r0, r1, r2, r3, r4, r5, r6, r7, rf⟩ := R1.out.cells; obtain ⟨c0, ⟨da, cap, c1, hb⟩, c3, c4, c5, c6, c7⟩ := G1.out.cells; have hfew := hb.few; clear hb; have f4 := G1.out.fz 4)
  go_end0
  exact ⟨s1, rfl, M1.out.step P.out, G1.out, K1.out.mono, R1.out⟩
set_option maxRecDepth 100000 in
set_option maxHeartbeats 6400000 in
theorem vread_4 {V : VRig} {s : VSt} {w : World} {rb : Nat} (h : VAt V s w) (r : VLoc V rb w) (hp : s.odd = true ∨ 0 ≤ s.pc) :
    Calls Tryd.prog 22 #[.pointer (some ⟨V.mb, 0, none⟩), .int .i64 4, .pointer (some ⟨rb, 0, none⟩)] w (VOp V rb s w) := by
  obtain ⟨c0, ⟨da, cap, c1, hb⟩, c3, c4, c5, c6, c7⟩ := h.cells
  obtain ⟨a, b, c, d, e, f, y, z, r0, r1, r2, r3, r4, r5, r6, r7, rf⟩ := r.cells
  have f4 := h.fz 4
  have H := Go.Lib.hid h
  have R := Go.Lib.hid r
  have P := Go.Lib.hid hp
  have hne := r.ne
  have hfew := hb.few
  clear h r hp hb
  go_enter Tryd.func22, Tryd.ntmps22
  go_wp2_with (go_at_call 33; refine (vlong_any H.out V.mb).mono ?_; rintro e2 w1 ⟨x1, s1, rfl, g, k, m⟩; have G1 := Go.Lib.hid g; have K1 := Go.Lib.hid k; have M1 := Go.Lib.hid m; have R1 := Go.Lib.hid (R.out.keep k R.out.ne); clear g k m; obtain ⟨a, b, c, d, e, f, y, z, r0, r1, r2, r3, r4, r5, r6, r7, rf⟩ := R1.out.cells; obtain ⟨c0, ⟨da, cap, c1, hb⟩, c3, c4, c5, c6, c7⟩ := G1.out.cells; have hfew := hb.few; clear hb; have f4 := G1.out.fz 4)
  go_end0
  have S := R1.out.set G1.out 3 (.int .i64 x1) (by first | exact .inl ⟨by omega, _, rfl⟩ | exact .inr (.inl ⟨by omega, _, rfl⟩) | exact .inr (.inr (.inl ⟨by omega, _, rfl⟩)) | exact .inr (.inr (.inr ⟨by omega, _, rfl⟩)))
  exact ⟨s1, rfl, M1.out.step P.out, S.1, K1.out.mono.trans S.2.1, S.2.2⟩
set_option maxRecDepth 100000 in
set_option maxHeartbeats 6400000 in
theorem vread_5 {V : VRig} {s : VSt} {w : World} {rb : Nat} (h : VAt V s w) (r : VLoc V rb w) (hp : s.odd = true ∨ 0 ≤ s.pc) :
    Calls Tryd.prog 22 #[.pointer (some ⟨V.mb, 0, none⟩), .int .i64 5, .pointer (some ⟨rb, 0, none⟩)] w (VOp V rb s w) := by
  obtain ⟨c0, ⟨da, cap, c1, hb⟩, c3, c4, c5, c6, c7⟩ := h.cells
  obtain ⟨a, b, c, d, e, f, y, z, r0, r1, r2, r3, r4, r5, r6, r7, rf⟩ := r.cells
  have f4 := h.fz 4
  have H := Go.Lib.hid h
  have R := Go.Lib.hid r
  have P := Go.Lib.hid hp
  have hne := r.ne
  have hfew := hb.few
  clear h r hp hb
  go_enter Tryd.func22, Tryd.ntmps22
  go_wp2_with (go_at_call 34; refine (vbits_any H.out V.mb 4 (by omega) (by omega)).mono ?_; rintro e2 w1 ⟨x1, s1, rfl, g, k, m⟩; have G1 := Go.Lib.hid g; have K1 := Go.Lib.hid k; have M1 := Go.Lib.hid m; have R1 := Go.Lib.hid (R.out.keep k R.out.ne); clear g k m; obtain ⟨a, b, c, d, e, f, y, z, r0, r1, r2, r3, r4, r5, r6, r7, rf⟩ := R1.out.cells; obtain ⟨c0, ⟨da, cap, c1, hb⟩, c3, c4, c5, c6, c7⟩ := G1.out.cells; have hfew := hb.few; clear hb; have f4 := G1.out.fz 4)
  go_end0
  have S := R1.out.set G1.out 4 (.int .u64 x1) (by first | exact .inl ⟨by omega, _, rfl⟩ | exact .inr (.inl ⟨by omega, _, rfl⟩) | exact .inr (.inr (.inl ⟨by omega, _, rfl⟩)) | exact .inr (.inr (.inr ⟨by omega, _, rfl⟩)))
  exact ⟨s1, rfl, M1.out.step P.out, S.1, K1.out.mono.trans S.2.1, S.2.2⟩
set_option maxRecDepth 100000 in
set_option maxHeartbeats 6400000 in
theorem vread_6 {V : VRig} {s : VSt} {w : World} {rb : Nat} (h : VAt V s w) (r : VLoc V rb w) (hp : s.odd = true ∨ 0 ≤ s.pc) :
    Calls Tryd.prog 22 #[.pointer (some ⟨V.mb, 0, none⟩), .int .i64 6, .pointer (some ⟨rb, 0, none⟩)] w (VOp V rb s w) := by
  obtain ⟨c0, ⟨da, cap, c1, hb⟩, c3, c4, c5, c6, c7⟩ := h.cells
  obtain ⟨a, b, c, d, e, f, y, z, r0, r1, r2, r3, r4, r5, r6, r7, rf⟩ := r.cells
  have f4 := h.fz 4
  have H := Go.Lib.hid h
  have R := Go.Lib.hid r
  have P := Go.Lib.hid hp
  have hne := r.ne
  have hfew := hb.few
  clear h r hp hb
  go_enter Tryd.func22, Tryd.ntmps22
  go_wp2_with (go_at_call 34; refine (vbits_any H.out V.mb 8 (by omega) (by omega)).mono ?_; rintro e2 w1 ⟨x1, s1, rfl, g, k, m⟩; have G1 := Go.Lib.hid g; have K1 := Go.Lib.hid k; have M1 := Go.Lib.hid m; have R1 := Go.Lib.hid (R.out.keep k R.out.ne); clear g k m; obtain ⟨a, b, c, d, e, f, y, z, r0, r1, r2, r3, r4, r5, r6, r7, rf⟩ := R1.out.cells; obtain ⟨c0, ⟨da, cap, c1, hb⟩, c3, c4, c5, c6, c7⟩ := G1.out.cells; have hfew := hb.few; clear hb; have f4 := G1.out.fz 4)
  go_end0
  have S := R1.out.set G1.out 5 (.int .u64 x1) (by first | exact .inl ⟨by omega, _, rfl⟩ | exact .inr (.inl ⟨by omega, _, rfl⟩) | exact .inr (.inr (.inl ⟨by omega, _, rfl⟩)) | exact .inr (.inr (.inr ⟨by omega, _, rfl⟩)))
  exact ⟨s1, rfl, M1.out.step P.out, S.1, K1.out.mono.trans S.2.1, S.2.2⟩
set_option maxRecDepth 100000 in
set_option maxHeartbeats 6400000 in
theorem vread_2 {V : VRig} {s : VSt} {w : World} {rb : Nat} (h : VAt V s w) (r : VLoc V rb w) (hp : s.odd = true ∨ 0 ≤ s.pc) :
    Calls Tryd.prog 22 #[.pointer (some ⟨V.mb, 0, none⟩), .int .i64 2, .pointer (some ⟨rb, 0, none⟩)] w (VOp V rb s w) := by
  obtain ⟨c0, ⟨da, cap, c1, hb⟩, c3, c4, c5, c6, c7⟩ := h.cells
  obtain ⟨a, b, c, d, e, f, y, z, r0, r1, r2, r3, r4, r5, r6, r7, rf⟩ := r.cells
  have f4 := h.fz 4
  have H := Go.Lib.hid h
  have R := Go.Lib.hid r
  have P := Go.Lib.hid hp
  have hne := r.ne
  have hfew := hb.few
  clear h r hp hb
  go_enter Tryd.func22, Tryd.ntmps22
  all_goals go_wp2_with (go_at_call 32; refine (vtake_any (H.out.setOdd V.mb _).1 V.mb 1).mono ?_; rintro e2 w1 ⟨s1, da1, cap1, l1, rfl, g, k0, b1, m0, o1, z1⟩; have k : VKeep V V.mb w w1 := VKeep.trans ((H.out.setOdd V.mb _).2) k0; have m : VSame s s1 := VSame.trans ((VSame.setOdd (by first | (intro _; rfl) | (intro e; simp_all)))) m0; obtain ⟨t1, ht1⟩ := vconv b1; clear k0 m0 b1 o1 z1; have G1 := Go.Lib.hid g; have K1 := Go.Lib.hid k; have M1 := Go.Lib.hid m; have R1 := Go.Lib.hid (R.out.keep k R.out.ne); clear g k m; obtain ⟨a, b, c, d, e, f, y, z, r0, r1, r2, r3, r4, r5, r6, r7, rf⟩ := R1.out.cells; obtain ⟨c0, ⟨da, cap, c1, hb⟩, c3, c4, c5, c6, c7⟩ := G1.out.cells; have hfew := hb.few; clear hb; have f4 := G1.out.fz 4)
  all_goals go_end0
  all_goals
    have S := R1.out.set G1.out 0 (.bool (t1.toList == [1])) (by first | exact .inl ⟨by omega, _, rfl⟩ | exact .inr (.inl ⟨by omega, _, rfl⟩) | exact .inr (.inr (.inl ⟨by omega, _, rfl⟩)) | exact .inr (.inr (.inr ⟨by omega, _, rfl⟩)))
    exact ⟨s1, rfl, M1.out.step P.out, S.1, K1.out.mono.trans S.2.1, S.2.2⟩
set_option maxRecDepth 100000 in
set_option maxHeartbeats 6400000 in
theorem vread_3 {V : VRig} {s : VSt} {w : World} {rb : Nat} (h : VAt V s w) (r : VLoc V rb w) (hp : s.odd = true ∨ 0 ≤ s.pc) :
    Calls Tryd.prog 22 #[.pointer (some ⟨V.mb, 0, none⟩), .int .i64 3, .pointer (some ⟨rb, 0, none⟩)] w (VOp V rb s w) := by
  obtain ⟨c0, ⟨da, cap, c1, hb⟩, c3, c4, c5, c6, c7⟩ := h.cells
  obtain ⟨a, b, c, d, e, f, y, z, r0, r1, r2, r3, r4, r5, r6, r7, rf⟩ := r.cells
  have f4 := h.fz 4
  have H := Go.Lib.hid h
  have R := Go.Lib.hid r
  have P := Go.Lib.hid hp
  have hne := r.ne
  have hfew := hb.few
  clear h r hp hb
  go_enter Tryd.func22, Tryd.ntmps22
  go_wp2_with (go_at_call 33; refine (vlong_any H.out V.mb).mono ?_; rintro e2 w1 ⟨x1, s1, rfl, g, k, m⟩; have G1 := Go.Lib.hid g; have K1 := Go.Lib.hid k; have M1 := Go.Lib.hid m; have R1 := Go.Lib.hid (R.out.keep k R.out.ne); clear g k m; obtain ⟨a, b, c, d, e, f, y, z, r0, r1, r2, r3, r4, r5, r6, r7, rf⟩ := R1.out.cells; obtain ⟨c0, ⟨da, cap, c1, hb⟩, c3, c4, c5, c6, c7⟩ := G1.out.cells; have hfew := hb.few; clear hb; have f4 := G1.out.fz 4)
  all_goals go_end0
  all_goals
    have S := R1.out.set G1.out 2 (.int .i64 x1) (.inr (.inl ⟨by omega, _, rfl⟩))
    exact ⟨_, rfl, (M1.out.trans (VSame.setOdd (by first | (intro _; rfl) | (intro e; simp_all)))).step P.out, (S.1.setOdd rb _).1, (K1.out.mono.trans S.2.1).trans (S.1.setOdd rb _).2, S.2.2.keep (S.1.setOdd V.mb _).2 R1.out.ne⟩
set_option maxRecDepth 100000 in
set_option maxHeartbeats 6400000 in
theorem vread_7 {V : VRig} {s : VSt} {w : World} {rb : Nat} (h : VAt V s w) (r : VLoc V rb w) (hp : s.odd = true ∨ 0 ≤ s.pc) :
    Calls Tryd.prog 22 #[.pointer (some ⟨V.mb, 0, none⟩), .int .i64 7, .pointer (some ⟨rb, 0, none⟩)] w (VOp V rb s w) := by
  obtain ⟨c0, ⟨da, cap, c1, hb⟩, c3, c4, c5, c6, c7⟩ := h.cells
  obtain ⟨a, b, c, d, e, f, y, z, r0, r1, r2, r3, r4, r5, r6, r7, rf⟩ := r.cells
  have f4 := h.fz 4
  have H := Go.Lib.hid h
  have R := Go.Lib.hid r
  have P := Go.Lib.hid hp
  have hne := r.ne
  have hfew := hb.few
  clear h r hp hb
  go_enter Tryd.func22, Tryd.ntmps22
  go_wp2_with (first | (go_at_call 33; refine (vlong_any H.out V.mb).mono ?_; rintro e2 w1 ⟨x1, s1, rfl, g, k, m⟩; have G1 := Go.Lib.hid g; have K1 := Go.Lib.hid k; have M1 := Go.Lib.hid m; have R1 := Go.Lib.hid (R.out.keep k R.out.ne); clear g k m; obtain ⟨a, b, c, d, e, f, y, z, r0, r1, r2, r3, r4, r5, r6, r7, rf⟩ := R1.out.cells; obtain ⟨c0, ⟨da, cap, c1, hb⟩, c3, c4, c5, c6, c7⟩ := G1.out.cells; have hfew := hb.few; clear hb; have f4 := G1.out.fz 4) | (go_at_call 32; refine (vtake_any G1.out V.mb x1).mono ?_; rintro e2 w1 ⟨s1, da1, cap1, l1, rfl, g, k0, b1, m0, o1, z1⟩; have k : VKeep V V.mb w w1 := VKeep.trans (K1.out) k0; have m : VSame s s1 := VSame.trans (M1.out) m0; obtain ⟨t1, ht1⟩ := vconv b1; clear k0 m0 b1 o1 z1; have G1 := Go.Lib.hid g; have K1 := Go.Lib.hid k; have M1 := Go.Lib.hid m; have R1 := Go.Lib.hid (R.out.keep k R.out.ne); clear g k m; obtain ⟨a, b, c, d, e, f, y, z, r0, r1, r2, r3, r4, r5, r6, r7, rf⟩ := R1.out.cells; obtain ⟨c0, ⟨da, cap, c1, hb⟩, c3, c4, c5, c6, c7⟩ := G1.out.cells; have hfew := hb.few; clear hb; have f4 := G1.out.fz 4))
  all_goals go_end0
  all_goals first
    | exact ⟨_, rfl, (M1.out.trans (VSame.setOdd (by first | (intro _; rfl) | (intro e; simp_all)))).step P.out, (G1.out.setOdd rb _).1, K1.out.mono.trans (G1.out.setOdd rb _).2, R1.out.keep (G1.out.setOdd V.mb _).2 R1.out.ne⟩
    | (have S := R1.out.set G1.out 6 (.string t1) (.inr (.inr (.inr ⟨by omega, _, rfl⟩)))
       exact ⟨s1, rfl, M1.out.step P.out, S.1, K1.out.mono.trans S.2.1, S.2.2⟩)
set_option maxRecDepth 100000 in
set_option maxHeartbeats 6400000 in
theorem vread_8 {V : VRig} {s : VSt} {w : World} {rb : Nat} (h : VAt V s w) (r : VLoc V rb w) (hp : s.odd = true ∨ 0 ≤ s.pc) :
    Calls Tryd.prog 22 #[.pointer (some ⟨V.mb, 0, none⟩), .int .i64 8, .pointer (some ⟨rb, 0, none⟩)] w (VOp V rb s w) := by
  obtain ⟨c0, ⟨da, cap, c1, hb⟩, c3, c4, c5, c6, c7⟩ := h.cells
  obtain ⟨a, b, c, d, e, f, y, z, r0, r1, r2, r3, r4, r5, r6, r7, rf⟩ := r.cells
  have f4 := h.fz 4
  have H := Go.Lib.hid h
  have R := Go.Lib.hid r
  have P := Go.Lib.hid hp
  have hne := r.ne
  have hfew := hb.few
  clear h r hp hb
  go_enter Tryd.func22, Tryd.ntmps22
  go_wp2_with (first | (go_at_call 33; refine (vlong_any H.out V.mb).mono ?_; rintro e2 w1 ⟨x1, s1, rfl, g, k, m⟩; have G1 := Go.Lib.hid g; have K1 := Go.Lib.hid k; have M1 := Go.Lib.hid m; have R1 := Go.Lib.hid (R.out.keep k R.out.ne); clear g k m; obtain ⟨a, b, c, d, e, f, y, z, r0, r1, r2, r3, r4, r5, r6, r7, rf⟩ := R1.out.cells; obtain ⟨c0, ⟨da, cap, c1, hb⟩, c3, c4, c5, c6, c7⟩ := G1.out.cells; have hfew := hb.few; clear hb; have f4 := G1.out.fz 4) | (go_at_call 32; refine (vtake_any G1.out V.mb x1).mono ?_; rintro e2 w1 ⟨s1, da1, cap1, l1, rfl, g, k0, b1, m0, o1, z1⟩; have k : VKeep V V.mb w w1 := VKeep.trans (K1.out) k0; have m : VSame s s1 := VSame.trans (M1.out) m0; obtain ⟨t1, ht1⟩ := vconv b1; clear k0 m0 b1 o1 z1; have G1 := Go.Lib.hid g; have K1 := Go.Lib.hid k; have M1 := Go.Lib.hid m; have R1 := Go.Lib.hid (R.out.keep k R.out.ne); clear g k m; obtain ⟨a, b, c, d, e, f, y, z, r0, r1, r2, r3, r4, r5, r6, r7, rf⟩ := R1.out.cells; obtain ⟨c0, ⟨da, cap, c1, hb⟩, c3, c4, c5, c6, c7⟩ := G1.out.cells; have hfew := hb.few; clear hb; have f4 := G1.out.fz 4))
  all_goals go_end0
  all_goals first
    | exact ⟨_, rfl, (M1.out.trans (VSame.setOdd (by first | (intro _; rfl) | (intro e; simp_all)))).step P.out, (G1.out.setOdd rb _).1, K1.out.mono.trans (G1.out.setOdd rb _).2, R1.out.keep (G1.out.setOdd V.mb _).2 R1.out.ne⟩
    | (have S := R1.out.set G1.out 7 (.string t1) (.inr (.inr (.inr ⟨by omega, _, rfl⟩)))
       exact ⟨s1, rfl, M1.out.step P.out, S.1, K1.out.mono.trans S.2.1, S.2.2⟩)
set_option maxRecDepth 100000 in
set_option maxHeartbeats 6400000 in
theorem vread_f {V : VRig} {s : VSt} {w : World} {rb : Nat} (h : VAt V s w) (r : VLoc V rb w) (hp : s.odd = true ∨ 0 ≤ s.pc) {x : Int} (k1 : (x == 1) = false) (k2 : (x == 2) = false) (k3 : (x == 3) = false) (k10 : (x == 10) = false) (k4 : (x == 4) = false) (k5 : (x == 5) = false) (k6 : (x == 6) = false) (k7 : (x == 7) = false) (k8 : (x == 8) = false) (hx0 : 11 ≤ x) (hx1 : x < 1011) :
    Calls Tryd.prog 22 #[.pointer (some ⟨V.mb, 0, none⟩), .int .i64 x, .pointer (some ⟨rb, 0, none⟩)] w (VOp V rb s w) := by
  obtain ⟨c0, ⟨da, cap, c1, hb⟩, c3, c4, c5, c6, c7⟩ := h.cells
  obtain ⟨a, b, c, d, e, f, y, z, r0, r1, r2, r3, r4, r5, r6, r7, rf⟩ := r.cells
  have f4 := h.fz 4
  have H := Go.Lib.hid h
  have R := Go.Lib.hid r
  have P := Go.Lib.hid hp
  have hne := r.ne
  have hfew := hb.few
  clear h r hp hb
  go_enter Tryd.func22, Tryd.ntmps22
  go_wp2_with (go_at_call 32; refine (vtake_any H.out V.mb (x - 11)).mono ?_; rintro e2 w1 ⟨s1, da1, cap1, l1, rfl, g, k0, b1, m0, o1, z1⟩; have k : VKeep V V.mb w w1 := VKeep.trans (VKeep.refl V V.mb w) k0; have m : VSame s s1 := VSame.trans (VSame.refl s) m0; obtain ⟨t1, ht1⟩ := vconv b1; clear k0 m0 b1 o1 z1; have G1 := Go.Lib.hid g; have K1 := Go.Lib.hid k; have M1 := Go.Lib.hid m; have R1 := Go.Lib.hid (R.out.keep k R.out.ne); clear g k m; obtain ⟨a, b, c, d, e, f, y, z, r0, r1, r2, r3, r4, r5, r6, r7, rf⟩ := R1.out.cells; obtain ⟨c0, ⟨da, cap, c1, hb⟩, c3, c4, c5, c6, c7⟩ := G1.out.cells; have hfew := hb.few; clear hb; have f4 := G1.out.fz 4)
  all_goals go_end0
  have S := R1.out.set G1.out 6 (.string t1) (.inr (.inr (.inr ⟨by omega, _, rfl⟩)))
  exact ⟨s1, rfl, M1.out.step P.out, S.1, K1.out.mono.trans S.2.1, S.2.2⟩
set_option maxRecDepth 100000 in
set_option maxHeartbeats 6400000 in
theorem vread_lo {V : VRig} {s : VSt} {w : World} {rb : Nat} (h : VAt V s w) (r : VLoc V rb w) (hp : s.odd = true ∨ 0 ≤ s.pc) {x : Int} (k1 : (x == 1) = false) (k2 : (x == 2) = false) (k3 : (x == 3) = false) (k10 : (x == 10) = false) (k4 : (x == 4) = false) (k5 : (x == 5) = false) (k6 : (x == 6) = false) (k7 : (x == 7) = false) (k8 : (x == 8) = false) (hx0 : ¬ 11 ≤ x) :
    Calls Tryd.prog 22 #[.pointer (some ⟨V.mb, 0, none⟩), .int .i64 x, .pointer (some ⟨rb, 0, none⟩)] w (VOp V rb s w) := by
  obtain ⟨c0, ⟨da, cap, c1, hb⟩, c3, c4, c5, c6, c7⟩ := h.cells
  obtain ⟨a, b, c, d, e, f, y, z, r0, r1, r2, r3, r4, r5, r6, r7, rf⟩ := r.cells
  have f4 := h.fz 4
  have H := Go.Lib.hid h
  have R := Go.Lib.hid r
  have P := Go.Lib.hid hp
  have hne := r.ne
  have hfew := hb.few
  clear h r hp hb
  go_enter Tryd.func22, Tryd.ntmps22
  go_wp2
  all_goals go_end0
  all_goals exact ⟨_, rfl, ((VSame.refl s).trans (VSame.setOdd (by first | (intro _; rfl) | (intro e; simp_all)))).step P.out, (H.out.setOdd rb _).1, (H.out.setOdd rb _).2, R.out.keep (H.out.setOdd V.mb _).2 R.out.ne⟩
set_option maxRecDepth 100000 in
set_option maxHeartbeats 6400000 in
theorem vread_hi {V : VRig} {s : VSt} {w : World} {rb : Nat} (h : VAt V s w) (r : VLoc V rb w) (hp : s.odd = true ∨ 0 ≤ s.pc) {x : Int} (k1 : (x == 1) = false) (k2 : (x == 2) = false) (k3 : (x == 3) = false) (k10 : (x == 10) = false) (k4 : (x == 4) = false) (k5 : (x == 5) = false) (k6 : (x == 6) = false) (k7 : (x == 7) = false) (k8 : (x == 8) = false) (hx0 : 11 ≤ x) (hx1 : ¬ x < 1011) :
    Calls Tryd.prog 22 #[.pointer (some ⟨V.mb, 0, none⟩), .int .i64 x, .pointer (some ⟨rb, 0, none⟩)] w (VOp V rb s w) := by
  obtain ⟨c0, ⟨da, cap, c1, hb⟩, c3, c4, c5, c6, c7⟩ := h.cells
  obtain ⟨a, b, c, d, e, f, y, z, r0, r1, r2, r3, r4, r5, r6, r7, rf⟩ := r.cells
  have f4 := h.fz 4
  have H := Go.Lib.hid h
  have R := Go.Lib.hid r
  have P := Go.Lib.hid hp
  have hne := r.ne
  have hfew := hb.few
  clear h r hp hb
  go_enter Tryd.func22, Tryd.ntmps22
  go_wp2
  all_goals go_end0
  all_goals exact ⟨_, rfl, ((VSame.refl s).trans (VSame.setOdd (by first | (intro _; rfl) | (intro e; simp_all)))).step P.out, (H.out.setOdd rb _).1, (H.out.setOdd rb _).2, R.out.keep (H.out.setOdd V.mb _).2 R.out.ne⟩
theorem vbeq {x k : Int} (h : ¬ x = k) : (x == k) = false := by simpa using h

theorem vread_any {V : VRig} {s : VSt} {w : World} {rb : Nat} (h : VAt V s w) (r : VLoc V rb w) (hp : s.odd = true ∨ 0 ≤ s.pc) (x : Int) :
    Calls Tryd.prog 22 #[.pointer (some ⟨V.mb, 0, none⟩), .int .i64 x, .pointer (some ⟨rb, 0, none⟩)] w (VOp V rb s w) := by
  by_cases c1 : x = 1
  · subst c1; exact vread_1 h r hp
  by_cases c2 : x = 2
  · subst c2; exact vread_2 h r hp
  by_cases c3 : x = 3
  · subst c3; exact vread_3 h r hp
  by_cases c10 : x = 10
  · subst c10; exact vread_10 h r hp
  by_cases c4 : x = 4
  · subst c4; exact vread_4 h r hp
  by_cases c5 : x = 5
  · subst c5; exact vread_5 h r hp
  by_cases c6 : x = 6
  · subst c6; exact vread_6 h r hp
  by_cases c7 : x = 7
  · subst c7; exact vread_7 h r hp
  by_cases c8 : x = 8
  · subst c8; exact vread_8 h r hp
  by_cases h0 : 11 ≤ x
  · by_cases h1 : x < 1011
    · exact vread_f h r hp (vbeq c1) (vbeq c2) (vbeq c3) (vbeq c10) (vbeq c4) (vbeq c5) (vbeq c6) (vbeq c7) (vbeq c8) h0 h1
    · exact vread_hi h r hp (vbeq c1) (vbeq c2) (vbeq c3) (vbeq c10) (vbeq c4) (vbeq c5) (vbeq c6) (vbeq c7) (vbeq c8) h0 h1
  · exact vread_lo h r hp (vbeq c1) (vbeq c2) (vbeq c3) (vbeq c10) (vbeq c4) (vbeq c5) (vbeq c6) (vbeq c7) (vbeq c8) h0
end Go.Proofs.YtkhicabfmkldpaaDoor
