/- The generator: every statement; the bodies. -/
import Derived.Test.YtkhicabfmkldpaaDoorGnM
import Derived.Test.YtkhicabfmkldpaaDoorLwC
namespace Go.Proofs.YtkhicabfmkldpaaDoor
open Go.RowKit

theorem stm_leaf : StmCalls 3 (gStm id true) := by
  intro D B mb pre s w h hp hl
  have hc : 0 ≤ gByte s.1 % 16 ∧ gByte s.1 % 16 < 16 := by omega
  obtain hc | hc | hc | hc | hc | hc | hc | hc | hc | hc | hc | hc | hc | hc | hc | hc : gByte s.1 % 16 = 0 ∨ gByte s.1 % 16 = 1 ∨ gByte s.1 % 16 = 2 ∨ gByte s.1 % 16 = 3 ∨ gByte s.1 % 16 = 4 ∨ gByte s.1 % 16 = 5 ∨ gByte s.1 % 16 = 6 ∨ gByte s.1 % 16 = 7 ∨ gByte s.1 % 16 = 8 ∨ gByte s.1 % 16 = 9 ∨ gByte s.1 % 16 = 10 ∨ gByte s.1 % 16 = 11 ∨ gByte s.1 % 16 = 12 ∨ gByte s.1 % 16 = 13 ∨ gByte s.1 % 16 = 14 ∨ gByte s.1 % 16 = 15 := by omega
  · have e : gStm id true s = gCase id 0 (s.1.tail, s.2) := by unfold gStm; rw [hc]; rfl
    rw [e]
    exact stm0_l0 h hp hl rfl (by omega) (by omega) hc
  · have e : gStm id true s = gCase id 1 (s.1.tail, s.2) := by unfold gStm; rw [hc]; rfl
    rw [e]
    exact stm1_l1 h hp hl rfl (by omega) (by omega) hc
  · have e : gStm id true s = gCase id 2 (s.1.tail, s.2) := by unfold gStm; rw [hc]; rfl
    rw [e]
    exact stm2_l2 h hp hl rfl (by omega) (by omega) hc
  · have e : gStm id true s = gCase id 3 (s.1.tail, s.2) := by unfold gStm; rw [hc]; rfl
    rw [e]
    exact stm3_l3 h hp hl rfl (by omega) (by omega) hc
  · have e : gStm id true s = gCase id 4 (s.1.tail, s.2) := by unfold gStm; rw [hc]; rfl
    rw [e]
    exact stm4_l4 h hp hl rfl (by omega) (by omega) hc
  · have e : gStm id true s = gCase id 5 (s.1.tail, s.2) := by unfold gStm; rw [hc]; rfl
    rw [e]
    exact stm5_l5 h hp hl rfl (by omega) (by omega) hc
  · have e : gStm id true s = gCase id 0 (s.1.tail, s.2) := by unfold gStm; rw [hc]; rfl
    rw [e]
    exact stm0_l6 h hp hl rfl (by omega) (by omega) hc
  · have e : gStm id true s = gCase id 1 (s.1.tail, s.2) := by unfold gStm; rw [hc]; rfl
    rw [e]
    exact stm1_l7 h hp hl rfl (by omega) (by omega) hc
  · have e : gStm id true s = gCase id 2 (s.1.tail, s.2) := by unfold gStm; rw [hc]; rfl
    rw [e]
    exact stm2_l8 h hp hl rfl (by omega) (by omega) hc
  · have e : gStm id true s = gCase id 3 (s.1.tail, s.2) := by unfold gStm; rw [hc]; rfl
    rw [e]
    exact stm3_l9 h hp hl rfl (by omega) (by omega) hc
  · have e : gStm id true s = gCase id 10 (s.1.tail, s.2) := by unfold gStm; rw [hc]; rfl
    rw [e]
    exact stm10_l10 h hp hl rfl (by omega) (by omega) hc
  · have e : gStm id true s = gCase id 11 (s.1.tail, s.2) := by unfold gStm; rw [hc]; rfl
    rw [e]
    exact stm11_l11 h hp hl rfl (by omega) (by omega) hc
  · have e : gStm id true s = gCase id 0 (s.1.tail, s.2) := by unfold gStm; rw [hc]; rfl
    rw [e]
    exact stm0_l12 h hp hl rfl (by omega) (by omega) hc
  · have e : gStm id true s = gCase id 1 (s.1.tail, s.2) := by unfold gStm; rw [hc]; rfl
    rw [e]
    exact stm1_l13 h hp hl rfl (by omega) (by omega) hc
  · have e : gStm id true s = gCase id 2 (s.1.tail, s.2) := by unfold gStm; rw [hc]; rfl
    rw [e]
    exact stm2_l14 h hp hl rfl (by omega) (by omega) hc
  · have e : gStm id true s = gCase id 3 (s.1.tail, s.2) := by unfold gStm; rw [hc]; rfl
    rw [e]
    exact stm3_l15 h hp hl rfl (by omega) (by omega) hc

theorem stm_node {d : Int} (hd0 : 0 ≤ d) (hd2 : d ≤ 2) {body : GS → GS} {M : Nat} (hx : Ext M body) (hM : M ≤ 500) (hb : BodyCalls (d + 1) body) : StmCalls d (gStm body false) := by
  intro D B mb pre s w h hp hl
  have hd : decide (3 ≤ d) = false := by simpa using (by omega : d < 3)
  have hd3 : d ≤ 3 := by omega
  have hc : 0 ≤ gByte s.1 % 16 ∧ gByte s.1 % 16 < 16 := by omega
  obtain hc | hc | hc | hc | hc | hc | hc | hc | hc | hc | hc | hc | hc | hc | hc | hc : gByte s.1 % 16 = 0 ∨ gByte s.1 % 16 = 1 ∨ gByte s.1 % 16 = 2 ∨ gByte s.1 % 16 = 3 ∨ gByte s.1 % 16 = 4 ∨ gByte s.1 % 16 = 5 ∨ gByte s.1 % 16 = 6 ∨ gByte s.1 % 16 = 7 ∨ gByte s.1 % 16 = 8 ∨ gByte s.1 % 16 = 9 ∨ gByte s.1 % 16 = 10 ∨ gByte s.1 % 16 = 11 ∨ gByte s.1 % 16 = 12 ∨ gByte s.1 % 16 = 13 ∨ gByte s.1 % 16 = 14 ∨ gByte s.1 % 16 = 15 := by omega
  · have e : gStm body false s = gCase body 0 (s.1.tail, s.2) := by unfold gStm; rw [hc]; rfl
    rw [e]
    exact stm0_n0 h hp hl hd hd0 hd3 hc
  · have e : gStm body false s = gCase body 1 (s.1.tail, s.2) := by unfold gStm; rw [hc]; rfl
    rw [e]
    exact stm1_n1 h hp hl hd hd0 hd3 hc
  · have e : gStm body false s = gCase body 2 (s.1.tail, s.2) := by unfold gStm; rw [hc]; rfl
    rw [e]
    exact stm2_n2 h hp hl hd hd0 hd3 hc
  · have e : gStm body false s = gCase body 3 (s.1.tail, s.2) := by unfold gStm; rw [hc]; rfl
    rw [e]
    exact stm3_n3 h hp hl hd hd0 hd3 hc
  · have e : gStm body false s = gCase body 4 (s.1.tail, s.2) := by unfold gStm; rw [hc]; rfl
    rw [e]
    exact stm4_n4 h hp hl hd hd0 hd3 hc
  · have e : gStm body false s = gCase body 5 (s.1.tail, s.2) := by unfold gStm; rw [hc]; rfl
    rw [e]
    exact stm5_n5 h hp hl hd hd0 hd3 hc
  · have e : gStm body false s = gCase body 6 (s.1.tail, s.2) := by unfold gStm; rw [hc]; rfl
    rw [e]
    exact stm6_n6 h hp hl hd hd0 hd3 hc hx hM hb
  · have e : gStm body false s = gCase body 7 (s.1.tail, s.2) := by unfold gStm; rw [hc]; rfl
    rw [e]
    exact stm7_n7 h hp hl hd hd0 hd3 hc hx hM hb
  · have e : gStm body false s = gCase body 8 (s.1.tail, s.2) := by unfold gStm; rw [hc]; rfl
    rw [e]
    exact stm8_n8 h hp hl hd hd0 hd3 hc hx hM hb
  · have e : gStm body false s = gCase body 9 (s.1.tail, s.2) := by unfold gStm; rw [hc]; rfl
    rw [e]
    exact stm9_n9 h hp hl hd hd0 hd3 hc hx hM hb
  · have e : gStm body false s = gCase body 10 (s.1.tail, s.2) := by unfold gStm; rw [hc]; rfl
    rw [e]
    exact stm10_n10 h hp hl hd hd0 hd3 hc
  · have e : gStm body false s = gCase body 11 (s.1.tail, s.2) := by unfold gStm; rw [hc]; rfl
    rw [e]
    exact stm11_n11 h hp hl hd hd0 hd3 hc
  · have e : gStm body false s = gCase body 12 (s.1.tail, s.2) := by unfold gStm; rw [hc]; rfl
    rw [e]
    exact stm12_n12 h hp hl hd hd0 hd3 hc hx hM hb
  · have e : gStm body false s = gCase body 13 (s.1.tail, s.2) := by unfold gStm; rw [hc]; rfl
    rw [e]
    exact stm13_n13 h hp hl hd hd0 hd3 hc hx hM hb
  · have e : gStm body false s = gCase body 14 (s.1.tail, s.2) := by unfold gStm; rw [hc]; rfl
    rw [e]
    exact stm14_n14 h hp hl hd hd0 hd3 hc hx hM hb
  · have e : gStm body false s = gCase body 15 (s.1.tail, s.2) := by unfold gStm; rw [hc]; rfl
    rw [e]
    exact stm15_n15 h hp hl hd hd0 hd3 hc

theorem Ok.ext {M h L : Nat} {f : GS → GS} (o : Ok [] M h L f) : Ext L f := fun s => by
  obtain ⟨ys, h1, h2, _, _⟩ := o s
  exact ⟨ys, h1, h2⟩

theorem body3_calls : BodyCalls 3 body3 := body_any stm_leaf
theorem body2_calls : BodyCalls 2 body2 := body_any (stm_node (by omega) (by omega) ok_body3.ext (by omega) body3_calls)
theorem body1_calls : BodyCalls 1 body1 := body_any (stm_node (by omega) (by omega) ok_body2.ext (by omega) body2_calls)

end Go.Proofs.YtkhicabfmkldpaaDoor
