/- The generator: the loops, and the statement that adds nothing. -/
import Derived.Test.YtkhicabfmkldpaaDoorGnI
namespace Go.Proofs.YtkhicabfmkldpaaDoor
open Go.RowKit

section
variable {D B mb N : Nat} {d : Int} {pre : List (Int × Int)} {w0 : World} {X : List (Nat × Obj)} {s : GS} {w : World}

set_option maxRecDepth 100000 in
set_option maxHeartbeats 6400000 in
theorem clo21 (h : StAt D B mb N d pre w0 X s w) (hd0 : 0 ≤ d) (hd3 : d ≤ 3) (hp : pre.length ≤ 100) (hl : s.2.length ≤ 1000) {body : GS → GS} (hb : BodyCalls (d + 1) body) :
    Calls Tryd.prog 21 #[.pointer (some ⟨N, 0, none⟩), .pointer (some ⟨N + 1, 0, none⟩)] w (StEnd D B mb N d pre w0 X (body s) (.tuple #[])) := by
  have b0 := h.c0
  have b1 := h.c1
  have H := Go.Lib.hid h
  clear h
  go_enter Tryd.func21, Tryd.ntmps21
  go_wp2_with (go_at_call 7; refine (H.out.body hp hl hb).mono ?_; rintro e w1 ⟨rfl, g⟩)
  go_end0
  exact ⟨rfl, g⟩

theorem call21 (a b : Value) : ∀ w : World, (callFunc 21 #[a, b]).run Tryd.prog w = .ok (.enter 21 #[a, b]) w := fun _ => by kernel_rfl

/-- What a loop is in the generator's words. -/
def gLoop (body : GS → GS) (s : GS) : GS :=
  let t := body (s.1, s.2 ++ [⟨12, 0, false⟩] ++ [⟨14, 0, false⟩] ++ [⟨19, 0, false⟩])
  (t.1, t.2.set (s.2.length + 1) ⟨14, (t.2.length : Int) + 3, true⟩ ++ [⟨20, 0, false⟩] ++ [⟨16, -1, false⟩] ++ [⟨11, (s.2.length : Int), true⟩])

theorem loop_abs (pre : List (Int × Int)) (l ys : List RI) :
    abs pre (((l ++ [(⟨12, 0, false⟩ : RI)] ++ [(⟨14, 0, false⟩ : RI)] ++ [(⟨19, 0, false⟩ : RI)] ++ ys).set (l.length + 1) (⟨14, ((l ++ [(⟨12, 0, false⟩ : RI)] ++ [(⟨14, 0, false⟩ : RI)] ++ [(⟨19, 0, false⟩ : RI)] ++ ys).length : Int) + 3, true⟩ : RI)) ++ [⟨20, 0, false⟩] ++ [⟨16, -1, false⟩] ++ [⟨11, (l.length : Int), true⟩]) =
      loopIns (abs pre l) (ys.map (reloc pre.length)) := by
  simp [abs, loopIns, reloc, List.append_assoc]
  constructor <;> omega

theorem StAt.loop (h : StAt D B mb N d pre w0 X s w) (hd0 : 0 ≤ d) (hd3 : d ≤ 3) (hp : pre.length ≤ 100) (hl : s.2.length ≤ 500) {body : GS → GS} {M : Nat} (hx : Ext M body) (hM : M ≤ 500) (hb : BodyCalls (d + 1) body) :
    Calls Tryd.prog 5 #[.pointer (some ⟨mb, 0, none⟩), .func (.func 21) #[] #[.pointer (some ⟨N, 0, none⟩), .pointer (some ⟨N + 1, 0, none⟩)]] w (StEnd D B mb N d pre w0 X (gLoop body s) (.tuple #[])) := by
  obtain ⟨ys, hy, hyl⟩ := hx (s.1, s.2 ++ [⟨12, 0, false⟩] ++ [⟨14, 0, false⟩] ++ [⟨19, 0, false⟩])
  have e3 : abs pre (s.2 ++ [⟨12, 0, false⟩] ++ [⟨14, 0, false⟩] ++ [⟨19, 0, false⟩]) = abs pre s.2 ++ [(12, 0)] ++ [(14, 0)] ++ [(19, 0)] := by rw [abs_snoc, abs_snoc, abs_snoc]; rfl
  have L := loop_any (ys := ys.map (reloc pre.length)) (code' := (gLoop body s).1) (base' := (pre.length : Int)) h.gen (by rw [abs_length]; omega) (by rw [List.length_map]; omega) 21
    #[.pointer (some ⟨N, 0, none⟩), .pointer (some ⟨N + 1, 0, none⟩)] (call21 _ _) (fun w1 g1 k1 => by
      have S1 : StAt D B mb N d pre w0 X (s.1, s.2 ++ [⟨12, 0, false⟩] ++ [⟨14, 0, false⟩] ++ [⟨19, 0, false⟩]) w1 := h.step (by rw [e3]; exact g1) k1
      have S2 : StAt D B mb N d pre w1 X (s.1, s.2 ++ [⟨12, 0, false⟩] ++ [⟨14, 0, false⟩] ++ [⟨19, 0, false⟩]) w1 := ⟨S1.gen, GKeep.refl _ _ _, S1.box0, S1.box1, S1.ne0, S1.ne1, S1.all⟩
      refine (clo21 S2 hd0 hd3 hp (by simp only [List.length_append, List.length_cons, List.length_nil]; omega) hb).mono ?_
      rintro e w2 ⟨rfl, g2⟩
      refine ⟨rfl, ?_, g2.keep⟩
      have := g2.gen
      rw [hy] at this
      rw [show abs pre (s.2 ++ [⟨12, 0, false⟩] ++ [⟨14, 0, false⟩] ++ [⟨19, 0, false⟩] ++ ys) = abs pre s.2 ++ [(12, 0)] ++ [(14, 0)] ++ [(19, 0)] ++ ys.map (reloc pre.length) by rw [← e3]; simp [abs]] at this
      exact this)
  refine L.mono ?_
  rintro e w2 ⟨rfl, g, k⟩
  refine ⟨rfl, h.step ?_ k⟩
  have e4 : abs pre (gLoop body s).2 = loopIns (abs pre s.2) (ys.map (reloc pre.length)) := by
    rw [← loop_abs]
    simp only [gLoop, hy]
  rw [e4]
  exact g
end
end Go.Proofs.YtkhicabfmkldpaaDoor

namespace Go.Proofs.YtkhicabfmkldpaaDoor
open Go.RowKit

set_option maxRecDepth 100000 in
set_option maxHeartbeats 16000000 in
theorem stm13_n13 {D B mb : Nat} {d : Int} {pre : List (Int × Int)} {s : GS} {w : World} (h : GenAt D B mb s.1 (abs pre s.2) (pre.length : Int) w) (hp : pre.length ≤ 100) (hl : s.2.length < 120)
    (hd : decide (3 ≤ d) = false) (hd0 : 0 ≤ d) (hd3 : d ≤ 3) (hc : gByte s.1 % 16 = 13) {body : GS → GS} {M : Nat} (hx : Ext M body) (hM : M ≤ 500) (hb : BodyCalls (d + 1) body) :
    Calls Tryd.prog 14 #[.pointer (some ⟨mb, 0, none⟩), .int .i64 d] w (GPost D B mb (gCase body 13 (s.1.tail, s.2)).1 (abs pre (gCase body 13 (s.1.tail, s.2)).2) (pre.length : Int) (.tuple #[]) w) := by
  have hr := h.range
  have H := Go.Lib.hid (StAt.begin (d := d) h)
  have b0 := H.out.c0
  have b1 := H.out.c1
  obtain ⟨hr20, hr21⟩ := h.tailRange
  have wv : (gByte s.1.tail).tmod 4 = gByte s.1.tail % 4 := Int.tmod_eq_emod_of_nonneg hr20
  have hmf : ∀ (fn : Fn) (first cap : Array Value) (w : World), (Instr.makeFunc fn first cap).run Tryd.prog w = .ok (.func fn first cap) w := fun _ _ _ _ => rfl
  clear h
  go_enter Tryd.func14, Tryd.ntmps14
  go_wp2_with (first
    | (go_at_call 13; first | refine (H.out.byte).mono ?_ | refine (H.out.drew.byte).mono ?_
       rintro e w1 ⟨rfl, g⟩; have b0 := g.c0; have b1 := g.c1; have z0 := lt_of_block g.box0; have z1 := lt_of_block g.box1; have H2 := Go.Lib.hid g; clear H g; have H := H2; clear H2)
    | (go_at_call 20; first | refine (H.out.kind).mono ?_ | refine (H.out.drew.kind).mono ?_
       rintro e w1 ⟨rfl, g⟩; have b0 := g.c0; have b1 := g.c1; have z0 := lt_of_block g.box0; have z1 := lt_of_block g.box1; have H2 := Go.Lib.hid g; clear H g; have H := H2; clear H2)
    | (go_at_call 4; first | refine (H.out.put hp (by (try simp only [List.length_append, List.length_cons, List.length_nil]); omega) _ _).mono ?_ | refine (H.out.drew.put hp (by (try simp only [List.length_append, List.length_cons, List.length_nil]); omega) _ _).mono ?_
       rintro e w1 ⟨rfl, g⟩; have b0 := g.c0; have b1 := g.c1; have z0 := lt_of_block g.box0; have z1 := lt_of_block g.box1; have H2 := Go.Lib.hid g; clear H g; have H := H2; clear H2)
    | (go_at_call 7; first | refine (H.out.body hp (by (try simp only [List.length_append, List.length_cons, List.length_nil]); omega) hb).mono ?_ | refine (H.out.drew.body hp (by (try simp only [List.length_append, List.length_cons, List.length_nil]); omega) hb).mono ?_
       rintro e w1 ⟨rfl, g⟩; have b0 := g.c0; have b1 := g.c1; have z0 := lt_of_block g.box0; have z1 := lt_of_block g.box1; have H2 := Go.Lib.hid g; clear H g; have H := H2; clear H2))
  go_region_held3 (fun W => W.cell? ⟨w.heap.size, 0, none⟩ = some (.pointer (some ⟨mb, 0, none⟩))) (first | exact H.out.c0 | exact H.out.drew.c0 | exact (H.out.alloc _).c0 | exact (H.out.drew.alloc _).c0 | exact (H.out.alloc _).drew.c0) (first
    | (go_at_call 13; first | refine (H.out.byte).mono ?_ | refine (H.out.drew.byte).mono ?_
       rintro e w1 ⟨rfl, g⟩; have b0 := g.c0; have b1 := g.c1; have z0 := lt_of_block g.box0; have z1 := lt_of_block g.box1; have H2 := Go.Lib.hid g; clear H g; have H := H2; clear H2)
    | (go_at_call 20; first | refine (H.out.kind).mono ?_ | refine (H.out.drew.kind).mono ?_
       rintro e w1 ⟨rfl, g⟩; have b0 := g.c0; have b1 := g.c1; have z0 := lt_of_block g.box0; have z1 := lt_of_block g.box1; have H2 := Go.Lib.hid g; clear H g; have H := H2; clear H2)
    | (go_at_call 4; first | refine (H.out.put hp (by (try simp only [List.length_append, List.length_cons, List.length_nil]); omega) _ _).mono ?_ | refine (H.out.drew.put hp (by (try simp only [List.length_append, List.length_cons, List.length_nil]); omega) _ _).mono ?_
       rintro e w1 ⟨rfl, g⟩; have b0 := g.c0; have b1 := g.c1; have z0 := lt_of_block g.box0; have z1 := lt_of_block g.box1; have H2 := Go.Lib.hid g; clear H g; have H := H2; clear H2)
    | (go_at_call 7; first | refine (H.out.body hp (by (try simp only [List.length_append, List.length_cons, List.length_nil]); omega) hb).mono ?_ | refine (H.out.drew.body hp (by (try simp only [List.length_append, List.length_cons, List.length_nil]); omega) hb).mono ?_
       rintro e w1 ⟨rfl, g⟩; have b0 := g.c0; have b1 := g.c1; have z0 := lt_of_block g.box0; have z1 := lt_of_block g.box1; have H2 := Go.Lib.hid g; clear H g; have H := H2; clear H2))
  go_wp2_with (first
    | (go_at_call 13; first | refine (H.out.byte).mono ?_ | refine (H.out.drew.byte).mono ?_
       rintro e w1 ⟨rfl, g⟩; have b0 := g.c0; have b1 := g.c1; have z0 := lt_of_block g.box0; have z1 := lt_of_block g.box1; have H2 := Go.Lib.hid g; clear H g; have H := H2; clear H2)
    | (go_at_call 20; first | refine (H.out.kind).mono ?_ | refine (H.out.drew.kind).mono ?_
       rintro e w1 ⟨rfl, g⟩; have b0 := g.c0; have b1 := g.c1; have z0 := lt_of_block g.box0; have z1 := lt_of_block g.box1; have H2 := Go.Lib.hid g; clear H g; have H := H2; clear H2)
    | (go_at_call 4; first | refine (H.out.put hp (by (try simp only [List.length_append, List.length_cons, List.length_nil]); first | omega | exact Nat.lt_of_le_of_lt (hx.le _) (by (try simp only [List.length_append, List.length_cons, List.length_nil]); omega) | exact Nat.lt_of_le_of_lt (Nat.add_le_add_right (hx.le _) _) (by (try simp only [List.length_append, List.length_cons, List.length_nil]); omega)) _ _).mono ?_ | refine (H.out.drew.put hp (by (try simp only [List.length_append, List.length_cons, List.length_nil]); first | omega | exact Nat.lt_of_le_of_lt (hx.le _) (by (try simp only [List.length_append, List.length_cons, List.length_nil]); omega) | exact Nat.lt_of_le_of_lt (Nat.add_le_add_right (hx.le _) _) (by (try simp only [List.length_append, List.length_cons, List.length_nil]); omega)) _ _).mono ?_
       rintro e w1 ⟨rfl, g⟩; have b0 := g.c0; have b1 := g.c1; have z0 := lt_of_block g.box0; have z1 := lt_of_block g.box1; have H2 := Go.Lib.hid g; clear H g; have H := H2; clear H2)
    | (go_at_call 7; first | refine (H.out.body hp (by (try simp only [List.length_append, List.length_cons, List.length_nil]); first | omega | exact Nat.lt_of_le_of_lt (hx.le _) (by (try simp only [List.length_append, List.length_cons, List.length_nil]); omega) | exact Nat.lt_of_le_of_lt (Nat.add_le_add_right (hx.le _) _) (by (try simp only [List.length_append, List.length_cons, List.length_nil]); omega)) hb).mono ?_ | refine (H.out.drew.body hp (by (try simp only [List.length_append, List.length_cons, List.length_nil]); first | omega | exact Nat.lt_of_le_of_lt (hx.le _) (by (try simp only [List.length_append, List.length_cons, List.length_nil]); omega) | exact Nat.lt_of_le_of_lt (Nat.add_le_add_right (hx.le _) _) (by (try simp only [List.length_append, List.length_cons, List.length_nil]); omega)) hb).mono ?_
       rintro e w1 ⟨rfl, g⟩; have b0 := g.c0; have b1 := g.c1; have z0 := lt_of_block g.box0; have z1 := lt_of_block g.box1; have H2 := Go.Lib.hid g; clear H g; have H := H2; clear H2)
    | (go_at_call 5; refine (H.out.loop hd0 hd3 hp (by (try simp only [List.length_append, List.length_cons, List.length_nil]); omega) hx hM hb).mono ?_
       rintro e w1 ⟨rfl, g⟩; have H2 := Go.Lib.hid g; clear H g; have H := H2; clear H2))
  go_end0
  have e : gCase body 13 (s.1.tail, s.2) = gLoop body (s.1.tail.tail, s.2 ++ [⟨15, gByte s.1.tail % 4, false⟩]) := rfl
  rw [e]
  have G := H.out.gen
  try simp only [wv] at G
  exact ⟨rfl, G, H.out.keep⟩

set_option maxRecDepth 100000 in
set_option maxHeartbeats 16000000 in
theorem stm14_n14 {D B mb : Nat} {d : Int} {pre : List (Int × Int)} {s : GS} {w : World} (h : GenAt D B mb s.1 (abs pre s.2) (pre.length : Int) w) (hp : pre.length ≤ 100) (hl : s.2.length < 120)
    (hd : decide (3 ≤ d) = false) (hd0 : 0 ≤ d) (hd3 : d ≤ 3) (hc : gByte s.1 % 16 = 14) {body : GS → GS} {M : Nat} (hx : Ext M body) (hM : M ≤ 500) (hb : BodyCalls (d + 1) body) :
    Calls Tryd.prog 14 #[.pointer (some ⟨mb, 0, none⟩), .int .i64 d] w (GPost D B mb (gCase body 14 (s.1.tail, s.2)).1 (abs pre (gCase body 14 (s.1.tail, s.2)).2) (pre.length : Int) (.tuple #[]) w) := by
  have hr := h.range
  have H := Go.Lib.hid (StAt.begin (d := d) h)
  have b0 := H.out.c0
  have b1 := H.out.c1
  obtain ⟨hr20, hr21⟩ := h.tailRange
  have wv : (gByte s.1.tail).tmod 4 = gByte s.1.tail % 4 := Int.tmod_eq_emod_of_nonneg hr20
  have hmf : ∀ (fn : Fn) (first cap : Array Value) (w : World), (Instr.makeFunc fn first cap).run Tryd.prog w = .ok (.func fn first cap) w := fun _ _ _ _ => rfl
  clear h
  go_enter Tryd.func14, Tryd.ntmps14
  go_wp2_with (first
    | (go_at_call 13; first | refine (H.out.byte).mono ?_ | refine (H.out.drew.byte).mono ?_
       rintro e w1 ⟨rfl, g⟩; have b0 := g.c0; have b1 := g.c1; have z0 := lt_of_block g.box0; have z1 := lt_of_block g.box1; have H2 := Go.Lib.hid g; clear H g; have H := H2; clear H2)
    | (go_at_call 20; first | refine (H.out.kind).mono ?_ | refine (H.out.drew.kind).mono ?_
       rintro e w1 ⟨rfl, g⟩; have b0 := g.c0; have b1 := g.c1; have z0 := lt_of_block g.box0; have z1 := lt_of_block g.box1; have H2 := Go.Lib.hid g; clear H g; have H := H2; clear H2)
    | (go_at_call 4; first | refine (H.out.put hp (by (try simp only [List.length_append, List.length_cons, List.length_nil]); omega) _ _).mono ?_ | refine (H.out.drew.put hp (by (try simp only [List.length_append, List.length_cons, List.length_nil]); omega) _ _).mono ?_
       rintro e w1 ⟨rfl, g⟩; have b0 := g.c0; have b1 := g.c1; have z0 := lt_of_block g.box0; have z1 := lt_of_block g.box1; have H2 := Go.Lib.hid g; clear H g; have H := H2; clear H2)
    | (go_at_call 7; first | refine (H.out.body hp (by (try simp only [List.length_append, List.length_cons, List.length_nil]); omega) hb).mono ?_ | refine (H.out.drew.body hp (by (try simp only [List.length_append, List.length_cons, List.length_nil]); omega) hb).mono ?_
       rintro e w1 ⟨rfl, g⟩; have b0 := g.c0; have b1 := g.c1; have z0 := lt_of_block g.box0; have z1 := lt_of_block g.box1; have H2 := Go.Lib.hid g; clear H g; have H := H2; clear H2))
  go_region_held3 (fun W => W.cell? ⟨w.heap.size, 0, none⟩ = some (.pointer (some ⟨mb, 0, none⟩))) (first | exact H.out.c0 | exact H.out.drew.c0 | exact (H.out.alloc _).c0 | exact (H.out.drew.alloc _).c0 | exact (H.out.alloc _).drew.c0) (first
    | (go_at_call 13; first | refine (H.out.byte).mono ?_ | refine (H.out.drew.byte).mono ?_
       rintro e w1 ⟨rfl, g⟩; have b0 := g.c0; have b1 := g.c1; have z0 := lt_of_block g.box0; have z1 := lt_of_block g.box1; have H2 := Go.Lib.hid g; clear H g; have H := H2; clear H2)
    | (go_at_call 20; first | refine (H.out.kind).mono ?_ | refine (H.out.drew.kind).mono ?_
       rintro e w1 ⟨rfl, g⟩; have b0 := g.c0; have b1 := g.c1; have z0 := lt_of_block g.box0; have z1 := lt_of_block g.box1; have H2 := Go.Lib.hid g; clear H g; have H := H2; clear H2)
    | (go_at_call 4; first | refine (H.out.put hp (by (try simp only [List.length_append, List.length_cons, List.length_nil]); omega) _ _).mono ?_ | refine (H.out.drew.put hp (by (try simp only [List.length_append, List.length_cons, List.length_nil]); omega) _ _).mono ?_
       rintro e w1 ⟨rfl, g⟩; have b0 := g.c0; have b1 := g.c1; have z0 := lt_of_block g.box0; have z1 := lt_of_block g.box1; have H2 := Go.Lib.hid g; clear H g; have H := H2; clear H2)
    | (go_at_call 7; first | refine (H.out.body hp (by (try simp only [List.length_append, List.length_cons, List.length_nil]); omega) hb).mono ?_ | refine (H.out.drew.body hp (by (try simp only [List.length_append, List.length_cons, List.length_nil]); omega) hb).mono ?_
       rintro e w1 ⟨rfl, g⟩; have b0 := g.c0; have b1 := g.c1; have z0 := lt_of_block g.box0; have z1 := lt_of_block g.box1; have H2 := Go.Lib.hid g; clear H g; have H := H2; clear H2))
  go_wp2_with (first
    | (go_at_call 13; first | refine (H.out.byte).mono ?_ | refine (H.out.drew.byte).mono ?_
       rintro e w1 ⟨rfl, g⟩; have b0 := g.c0; have b1 := g.c1; have z0 := lt_of_block g.box0; have z1 := lt_of_block g.box1; have H2 := Go.Lib.hid g; clear H g; have H := H2; clear H2)
    | (go_at_call 20; first | refine (H.out.kind).mono ?_ | refine (H.out.drew.kind).mono ?_
       rintro e w1 ⟨rfl, g⟩; have b0 := g.c0; have b1 := g.c1; have z0 := lt_of_block g.box0; have z1 := lt_of_block g.box1; have H2 := Go.Lib.hid g; clear H g; have H := H2; clear H2)
    | (go_at_call 4; first | refine (H.out.put hp (by (try simp only [List.length_append, List.length_cons, List.length_nil]); first | omega | exact Nat.lt_of_le_of_lt (hx.le _) (by (try simp only [List.length_append, List.length_cons, List.length_nil]); omega) | exact Nat.lt_of_le_of_lt (Nat.add_le_add_right (hx.le _) _) (by (try simp only [List.length_append, List.length_cons, List.length_nil]); omega)) _ _).mono ?_ | refine (H.out.drew.put hp (by (try simp only [List.length_append, List.length_cons, List.length_nil]); first | omega | exact Nat.lt_of_le_of_lt (hx.le _) (by (try simp only [List.length_append, List.length_cons, List.length_nil]); omega) | exact Nat.lt_of_le_of_lt (Nat.add_le_add_right (hx.le _) _) (by (try simp only [List.length_append, List.length_cons, List.length_nil]); omega)) _ _).mono ?_
       rintro e w1 ⟨rfl, g⟩; have b0 := g.c0; have b1 := g.c1; have z0 := lt_of_block g.box0; have z1 := lt_of_block g.box1; have H2 := Go.Lib.hid g; clear H g; have H := H2; clear H2)
    | (go_at_call 7; first | refine (H.out.body hp (by (try simp only [List.length_append, List.length_cons, List.length_nil]); first | omega | exact Nat.lt_of_le_of_lt (hx.le _) (by (try simp only [List.length_append, List.length_cons, List.length_nil]); omega) | exact Nat.lt_of_le_of_lt (Nat.add_le_add_right (hx.le _) _) (by (try simp only [List.length_append, List.length_cons, List.length_nil]); omega)) hb).mono ?_ | refine (H.out.drew.body hp (by (try simp only [List.length_append, List.length_cons, List.length_nil]); first | omega | exact Nat.lt_of_le_of_lt (hx.le _) (by (try simp only [List.length_append, List.length_cons, List.length_nil]); omega) | exact Nat.lt_of_le_of_lt (Nat.add_le_add_right (hx.le _) _) (by (try simp only [List.length_append, List.length_cons, List.length_nil]); omega)) hb).mono ?_
       rintro e w1 ⟨rfl, g⟩; have b0 := g.c0; have b1 := g.c1; have z0 := lt_of_block g.box0; have z1 := lt_of_block g.box1; have H2 := Go.Lib.hid g; clear H g; have H := H2; clear H2)
    | (go_at_call 5; refine (H.out.loop hd0 hd3 hp (by (try simp only [List.length_append, List.length_cons, List.length_nil]); omega) hx hM hb).mono ?_
       rintro e w1 ⟨rfl, g⟩; have H2 := Go.Lib.hid g; clear H g; have H := H2; clear H2))
  go_end0
  have e : gCase body 14 (s.1.tail, s.2) = gLoop body (s.1.tail.tail, s.2 ++ [⟨15, gByte s.1.tail % 4, false⟩]) := rfl
  rw [e]
  have G := H.out.gen
  try simp only [wv] at G
  exact ⟨rfl, G, H.out.keep⟩

end Go.Proofs.YtkhicabfmkldpaaDoor

namespace Go.Proofs.YtkhicabfmkldpaaDoor
open Go.RowKit

set_option maxRecDepth 100000 in
set_option maxHeartbeats 16000000 in
theorem stm15_n15 {D B mb : Nat} {d : Int} {pre : List (Int × Int)} {s : GS} {w : World} (h : GenAt D B mb s.1 (abs pre s.2) (pre.length : Int) w) (_hp : pre.length ≤ 100) (_hl : s.2.length < 120)
    (hd : decide (3 ≤ d) = false) (_hd0 : 0 ≤ d) (_hd3 : d ≤ 3) (hc : gByte s.1 % 16 = 15) {body : GS → GS} :
    Calls Tryd.prog 14 #[.pointer (some ⟨mb, 0, none⟩), .int .i64 d] w (GPost D B mb (gCase body 15 (s.1.tail, s.2)).1 (abs pre (gCase body 15 (s.1.tail, s.2)).2) (pre.length : Int) (.tuple #[]) w) := by
  have hr := h.range
  have H := Go.Lib.hid (StAt.begin (d := d) h)
  have b0 := H.out.c0
  have b1 := H.out.c1
  have b3 := H.out.gen.cell3
  clear h
  go_enter Tryd.func14, Tryd.ntmps14
  go_wp2_with (first
    | (go_at_call 13; first | refine (H.out.byte).mono ?_ | refine (H.out.drew.byte).mono ?_
       rintro e w1 ⟨rfl, g⟩; have b0 := g.c0; have b3 := g.gen.cell3; have b1 := g.c1; have z0 := lt_of_block g.box0; have z1 := lt_of_block g.box1; have H2 := Go.Lib.hid g; clear H g; have H := H2; clear H2)
    | (go_at_call 20; first | refine (H.out.kind).mono ?_ | refine (H.out.drew.kind).mono ?_
       rintro e w1 ⟨rfl, g⟩; have b0 := g.c0; have b3 := g.gen.cell3; have b1 := g.c1; have z0 := lt_of_block g.box0; have z1 := lt_of_block g.box1; have H2 := Go.Lib.hid g; clear H g; have H := H2; clear H2)
    | (go_at_call 4; first | refine (H.out.put hp (by (try simp only [List.length_append, List.length_cons, List.length_nil]); omega) _ _).mono ?_ | refine (H.out.drew.put hp (by (try simp only [List.length_append, List.length_cons, List.length_nil]); omega) _ _).mono ?_
       rintro e w1 ⟨rfl, g⟩; have b0 := g.c0; have b3 := g.gen.cell3; have b1 := g.c1; have z0 := lt_of_block g.box0; have z1 := lt_of_block g.box1; have H2 := Go.Lib.hid g; clear H g; have H := H2; clear H2)
    | (go_at_call 7; first | refine (H.out.body hp (by (try simp only [List.length_append, List.length_cons, List.length_nil]); omega) hb).mono ?_ | refine (H.out.drew.body hp (by (try simp only [List.length_append, List.length_cons, List.length_nil]); omega) hb).mono ?_
       rintro e w1 ⟨rfl, g⟩; have b0 := g.c0; have b3 := g.gen.cell3; have b1 := g.c1; have z0 := lt_of_block g.box0; have z1 := lt_of_block g.box1; have H2 := Go.Lib.hid g; clear H g; have H := H2; clear H2))
  go_end0
  exact ⟨rfl, H.out.gen, H.out.keep⟩

end Go.Proofs.YtkhicabfmkldpaaDoor
