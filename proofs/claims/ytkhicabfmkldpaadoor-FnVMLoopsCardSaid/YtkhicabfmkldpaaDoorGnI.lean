/- The generator: the statements that enter. -/
import Derived.Test.YtkhicabfmkldpaaDoorGnG
namespace Go.Proofs.YtkhicabfmkldpaaDoor
open Go.RowKit

theorem tmod4 (g : Int) : g.tmod 4 = 0 ↔ g % 4 = 0 := by rw [← Int.dvd_iff_tmod_eq_zero, Int.dvd_iff_emod_eq_zero]

theorem gCase_enter {body : GS → GS} {c : Int} (hc : c = 6 ∨ c = 7) (s : GS) : gCase body c s =
    ((body (s.1.tail, s.2 ++ [⟨2, gByte s.1 % 6, false⟩])).1.tail, (if gByte (body (s.1.tail, s.2 ++ [⟨2, gByte s.1 % 6, false⟩])).1 % 4 = 0 then (body (s.1.tail, s.2 ++ [⟨2, gByte s.1 % 6, false⟩])).2 ++ [⟨4, 0, false⟩] else (body (s.1.tail, s.2 ++ [⟨2, gByte s.1 % 6, false⟩])).2) ++ [⟨3, 0, false⟩]) := by
  rcases hc with rfl | rfl <;> rfl

set_option maxRecDepth 100000 in
set_option maxHeartbeats 16000000 in
theorem stm6_n6 {D B mb : Nat} {d : Int} {pre : List (Int × Int)} {s : GS} {w : World} (h : GenAt D B mb s.1 (abs pre s.2) (pre.length : Int) w) (hp : pre.length ≤ 100) (hl : s.2.length < 120)
    (hd : decide (3 ≤ d) = false) (hd0 : 0 ≤ d) (hd3 : d ≤ 3) (hc : gByte s.1 % 16 = 6) {body : GS → GS} {M : Nat} (hx : Ext M body) (hM : M ≤ 500) (hb : BodyCalls (d + 1) body) :
    Calls Tryd.prog 14 #[.pointer (some ⟨mb, 0, none⟩), .int .i64 d] w (GPost D B mb (gCase body 6 (s.1.tail, s.2)).1 (abs pre (gCase body 6 (s.1.tail, s.2)).2) (pre.length : Int) (.tuple #[]) w) := by
  have hr := h.range
  have H := Go.Lib.hid (StAt.begin (d := d) h)
  have b0 := H.out.c0
  have b1 := H.out.c1
  obtain ⟨hr20, hr21⟩ := h.tailRange
  have wv : (gByte s.1.tail).tmod 6 = gByte s.1.tail % 6 := Int.tmod_eq_emod_of_nonneg hr20
  clear h
  go_enter Tryd.func14, Tryd.ntmps14
  go_wp2_with (first
    | (go_at_call 13; first | refine (H.out.byte).mono ?_ | refine (H.out.drew.byte).mono ?_
       rintro e w1 ⟨rfl, g⟩; have b0 := g.c0; have b1 := g.c1; have z0 := lt_of_block g.box0; have z1 := lt_of_block g.box1; have H2 := Go.Lib.hid g; clear H g; have H := H2; clear H2)
    | (go_at_call 20; first | refine (H.out.kind).mono ?_ | refine (H.out.drew.kind).mono ?_
       rintro e w1 ⟨rfl, g⟩; have b0 := g.c0; have b1 := g.c1; have z0 := lt_of_block g.box0; have z1 := lt_of_block g.box1; have H2 := Go.Lib.hid g; clear H g; have H := H2; clear H2)
    | (go_at_call 4; first | refine (H.out.put hp (by (try simp only [List.length_append, List.length_cons, List.length_nil]); first | omega | exact Nat.lt_of_le_of_lt (hx.le _) (by (try simp only [List.length_append, List.length_cons, List.length_nil]); omega) | exact Nat.lt_of_le_of_lt (Nat.add_le_add_right (hx.le _) _) (by (try simp only [List.length_append, List.length_cons, List.length_nil]); omega)) _ _).mono ?_ | refine (H.out.drew.put hp (by (try simp only [List.length_append, List.length_cons, List.length_nil]); first | omega | exact Nat.lt_of_le_of_lt (hx.le _) (by (try simp only [List.length_append, List.length_cons, List.length_nil]); omega) | exact Nat.lt_of_le_of_lt (Nat.add_le_add_right (hx.le _) _) (by (try simp only [List.length_append, List.length_cons, List.length_nil]); omega)) _ _).mono ?_
       rintro e w1 ⟨rfl, g⟩; have b0 := g.c0; have b1 := g.c1; have z0 := lt_of_block g.box0; have z1 := lt_of_block g.box1; have H2 := Go.Lib.hid g; clear H g; have H := H2; clear H2)
    | (go_at_call 7; first | refine (H.out.body hp (by (try simp only [List.length_append, List.length_cons, List.length_nil]); first | omega | exact Nat.lt_of_le_of_lt (hx.le _) (by (try simp only [List.length_append, List.length_cons, List.length_nil]); omega) | exact Nat.lt_of_le_of_lt (Nat.add_le_add_right (hx.le _) _) (by (try simp only [List.length_append, List.length_cons, List.length_nil]); omega)) hb).mono ?_ | refine (H.out.drew.body hp (by (try simp only [List.length_append, List.length_cons, List.length_nil]); first | omega | exact Nat.lt_of_le_of_lt (hx.le _) (by (try simp only [List.length_append, List.length_cons, List.length_nil]); omega) | exact Nat.lt_of_le_of_lt (Nat.add_le_add_right (hx.le _) _) (by (try simp only [List.length_append, List.length_cons, List.length_nil]); omega)) hb).mono ?_
       rintro e w1 ⟨rfl, g⟩; have b0 := g.c0; have b1 := g.c1; have z0 := lt_of_block g.box0; have z1 := lt_of_block g.box1; have H2 := Go.Lib.hid g; clear H g; have H := H2; clear H2))
  go_region_held3 (fun W => W.cell? ⟨w.heap.size, 0, none⟩ = some (.pointer (some ⟨mb, 0, none⟩))) (first | exact H.out.c0 | exact H.out.drew.c0 | exact (H.out.alloc _).c0 | exact (H.out.drew.alloc _).c0 | exact (H.out.alloc _).drew.c0) (first
    | (go_at_call 13; first | refine (H.out.byte).mono ?_ | refine (H.out.drew.byte).mono ?_
       rintro e w1 ⟨rfl, g⟩; have b0 := g.c0; have b1 := g.c1; have z0 := lt_of_block g.box0; have z1 := lt_of_block g.box1; have H2 := Go.Lib.hid g; clear H g; have H := H2; clear H2)
    | (go_at_call 20; first | refine (H.out.kind).mono ?_ | refine (H.out.drew.kind).mono ?_
       rintro e w1 ⟨rfl, g⟩; have b0 := g.c0; have b1 := g.c1; have z0 := lt_of_block g.box0; have z1 := lt_of_block g.box1; have H2 := Go.Lib.hid g; clear H g; have H := H2; clear H2)
    | (go_at_call 4; first | refine (H.out.put hp (by (try simp only [List.length_append, List.length_cons, List.length_nil]); omega) _ _).mono ?_ | refine (H.out.drew.put hp (by (try simp only [List.length_append, List.length_cons, List.length_nil]); omega) _ _).mono ?_
       rintro e w1 ⟨rfl, g⟩; have b0 := g.c0; have b1 := g.c1; have z0 := lt_of_block g.box0; have z1 := lt_of_block g.box1; have H2 := Go.Lib.hid g; clear H g; have H := H2; clear H2)
    | (go_at_call 7; first | refine (H.out.body hp (by (try simp only [List.length_append, List.length_cons, List.length_nil]); omega) hb).mono ?_ | refine (H.out.drew.body hp (by (try simp only [List.length_append, List.length_cons, List.length_nil]); omega) hb).mono ?_
       rintro e w1 ⟨rfl, g⟩; have b0 := g.c0; have b1 := g.c1; have z0 := lt_of_block g.box0; have z1 := lt_of_block g.box1; have H2 := Go.Lib.hid g; clear H g; have H := H2; clear H2))
  go_wp2_with (first
    | (go_at_call 13; first | refine (H.out.byte).mono ?_ | refine (H.out.drew.byte).mono ?_
       rintro e w1 ⟨rfl, g⟩; have b0 := g.c0; have b1 := g.c1; have z0 := lt_of_block g.box0; have z1 := lt_of_block g.box1; have H2 := Go.Lib.hid g; clear H g; have H := H2; clear H2)
    | (go_at_call 20; first | refine (H.out.kind).mono ?_ | refine (H.out.drew.kind).mono ?_
       rintro e w1 ⟨rfl, g⟩; have b0 := g.c0; have b1 := g.c1; have z0 := lt_of_block g.box0; have z1 := lt_of_block g.box1; have H2 := Go.Lib.hid g; clear H g; have H := H2; clear H2)
    | (go_at_call 4; first | refine (H.out.put hp (by (try simp only [List.length_append, List.length_cons, List.length_nil]); first | omega | exact Nat.lt_of_le_of_lt (hx.le _) (by (try simp only [List.length_append, List.length_cons, List.length_nil]); omega) | exact Nat.lt_of_le_of_lt (Nat.add_le_add_right (hx.le _) _) (by (try simp only [List.length_append, List.length_cons, List.length_nil]); omega)) _ _).mono ?_ | refine (H.out.drew.put hp (by (try simp only [List.length_append, List.length_cons, List.length_nil]); first | omega | exact Nat.lt_of_le_of_lt (hx.le _) (by (try simp only [List.length_append, List.length_cons, List.length_nil]); omega) | exact Nat.lt_of_le_of_lt (Nat.add_le_add_right (hx.le _) _) (by (try simp only [List.length_append, List.length_cons, List.length_nil]); omega)) _ _).mono ?_
       rintro e w1 ⟨rfl, g⟩; have b0 := g.c0; have b1 := g.c1; have z0 := lt_of_block g.box0; have z1 := lt_of_block g.box1; have H2 := Go.Lib.hid g; clear H g; have H := H2; clear H2)
    | (go_at_call 7; first | refine (H.out.body hp (by (try simp only [List.length_append, List.length_cons, List.length_nil]); first | omega | exact Nat.lt_of_le_of_lt (hx.le _) (by (try simp only [List.length_append, List.length_cons, List.length_nil]); omega) | exact Nat.lt_of_le_of_lt (Nat.add_le_add_right (hx.le _) _) (by (try simp only [List.length_append, List.length_cons, List.length_nil]); omega)) hb).mono ?_ | refine (H.out.drew.body hp (by (try simp only [List.length_append, List.length_cons, List.length_nil]); first | omega | exact Nat.lt_of_le_of_lt (hx.le _) (by (try simp only [List.length_append, List.length_cons, List.length_nil]); omega) | exact Nat.lt_of_le_of_lt (Nat.add_le_add_right (hx.le _) _) (by (try simp only [List.length_append, List.length_cons, List.length_nil]); omega)) hb).mono ?_
       rintro e w1 ⟨rfl, g⟩; have b0 := g.c0; have b1 := g.c1; have z0 := lt_of_block g.box0; have z1 := lt_of_block g.box1; have H2 := Go.Lib.hid g; clear H g; have H := H2; clear H2))
  all_goals go_end0
  · have hh : gByte (body (s.1.tail.tail, s.2 ++ [⟨2, gByte s.1.tail % 6, false⟩])).1 % 4 = 0 := by have := tmod4 (gByte (body (s.1.tail.tail, s.2 ++ [⟨2, gByte s.1.tail % 6, false⟩])).1); simp_all
    rw [gCase_enter (by simp), if_pos hh]
    have G := H.out.gen
    try simp only [wv] at G
    exact ⟨rfl, G, H.out.keep⟩
  · have hh : ¬ gByte (body (s.1.tail.tail, s.2 ++ [⟨2, gByte s.1.tail % 6, false⟩])).1 % 4 = 0 := by have := tmod4 (gByte (body (s.1.tail.tail, s.2 ++ [⟨2, gByte s.1.tail % 6, false⟩])).1); simp_all
    rw [gCase_enter (by simp), if_neg hh]
    have G := H.out.gen
    try simp only [wv] at G
    exact ⟨rfl, G, H.out.keep⟩

set_option maxRecDepth 100000 in
set_option maxHeartbeats 16000000 in
theorem stm7_n7 {D B mb : Nat} {d : Int} {pre : List (Int × Int)} {s : GS} {w : World} (h : GenAt D B mb s.1 (abs pre s.2) (pre.length : Int) w) (hp : pre.length ≤ 100) (hl : s.2.length < 120)
    (hd : decide (3 ≤ d) = false) (hd0 : 0 ≤ d) (hd3 : d ≤ 3) (hc : gByte s.1 % 16 = 7) {body : GS → GS} {M : Nat} (hx : Ext M body) (hM : M ≤ 500) (hb : BodyCalls (d + 1) body) :
    Calls Tryd.prog 14 #[.pointer (some ⟨mb, 0, none⟩), .int .i64 d] w (GPost D B mb (gCase body 7 (s.1.tail, s.2)).1 (abs pre (gCase body 7 (s.1.tail, s.2)).2) (pre.length : Int) (.tuple #[]) w) := by
  have hr := h.range
  have H := Go.Lib.hid (StAt.begin (d := d) h)
  have b0 := H.out.c0
  have b1 := H.out.c1
  obtain ⟨hr20, hr21⟩ := h.tailRange
  have wv : (gByte s.1.tail).tmod 6 = gByte s.1.tail % 6 := Int.tmod_eq_emod_of_nonneg hr20
  clear h
  go_enter Tryd.func14, Tryd.ntmps14
  go_wp2_with (first
    | (go_at_call 13; first | refine (H.out.byte).mono ?_ | refine (H.out.drew.byte).mono ?_
       rintro e w1 ⟨rfl, g⟩; have b0 := g.c0; have b1 := g.c1; have z0 := lt_of_block g.box0; have z1 := lt_of_block g.box1; have H2 := Go.Lib.hid g; clear H g; have H := H2; clear H2)
    | (go_at_call 20; first | refine (H.out.kind).mono ?_ | refine (H.out.drew.kind).mono ?_
       rintro e w1 ⟨rfl, g⟩; have b0 := g.c0; have b1 := g.c1; have z0 := lt_of_block g.box0; have z1 := lt_of_block g.box1; have H2 := Go.Lib.hid g; clear H g; have H := H2; clear H2)
    | (go_at_call 4; first | refine (H.out.put hp (by (try simp only [List.length_append, List.length_cons, List.length_nil]); first | omega | exact Nat.lt_of_le_of_lt (hx.le _) (by (try simp only [List.length_append, List.length_cons, List.length_nil]); omega) | exact Nat.lt_of_le_of_lt (Nat.add_le_add_right (hx.le _) _) (by (try simp only [List.length_append, List.length_cons, List.length_nil]); omega)) _ _).mono ?_ | refine (H.out.drew.put hp (by (try simp only [List.length_append, List.length_cons, List.length_nil]); first | omega | exact Nat.lt_of_le_of_lt (hx.le _) (by (try simp only [List.length_append, List.length_cons, List.length_nil]); omega) | exact Nat.lt_of_le_of_lt (Nat.add_le_add_right (hx.le _) _) (by (try simp only [List.length_append, List.length_cons, List.length_nil]); omega)) _ _).mono ?_
       rintro e w1 ⟨rfl, g⟩; have b0 := g.c0; have b1 := g.c1; have z0 := lt_of_block g.box0; have z1 := lt_of_block g.box1; have H2 := Go.Lib.hid g; clear H g; have H := H2; clear H2)
    | (go_at_call 7; first | refine (H.out.body hp (by (try simp only [List.length_append, List.length_cons, List.length_nil]); first | omega | exact Nat.lt_of_le_of_lt (hx.le _) (by (try simp only [List.length_append, List.length_cons, List.length_nil]); omega) | exact Nat.lt_of_le_of_lt (Nat.add_le_add_right (hx.le _) _) (by (try simp only [List.length_append, List.length_cons, List.length_nil]); omega)) hb).mono ?_ | refine (H.out.drew.body hp (by (try simp only [List.length_append, List.length_cons, List.length_nil]); first | omega | exact Nat.lt_of_le_of_lt (hx.le _) (by (try simp only [List.length_append, List.length_cons, List.length_nil]); omega) | exact Nat.lt_of_le_of_lt (Nat.add_le_add_right (hx.le _) _) (by (try simp only [List.length_append, List.length_cons, List.length_nil]); omega)) hb).mono ?_
       rintro e w1 ⟨rfl, g⟩; have b0 := g.c0; have b1 := g.c1; have z0 := lt_of_block g.box0; have z1 := lt_of_block g.box1; have H2 := Go.Lib.hid g; clear H g; have H := H2; clear H2))
  go_region_held3 (fun W => W.cell? ⟨w.heap.size, 0, none⟩ = some (.pointer (some ⟨mb, 0, none⟩))) (first | exact H.out.c0 | exact H.out.drew.c0 | exact (H.out.alloc _).c0 | exact (H.out.drew.alloc _).c0 | exact (H.out.alloc _).drew.c0) (first
    | (go_at_call 13; first | refine (H.out.byte).mono ?_ | refine (H.out.drew.byte).mono ?_
       rintro e w1 ⟨rfl, g⟩; have b0 := g.c0; have b1 := g.c1; have z0 := lt_of_block g.box0; have z1 := lt_of_block g.box1; have H2 := Go.Lib.hid g; clear H g; have H := H2; clear H2)
    | (go_at_call 20; first | refine (H.out.kind).mono ?_ | refine (H.out.drew.kind).mono ?_
       rintro e w1 ⟨rfl, g⟩; have b0 := g.c0; have b1 := g.c1; have z0 := lt_of_block g.box0; have z1 := lt_of_block g.box1; have H2 := Go.Lib.hid g; clear H g; have H := H2; clear H2)
    | (go_at_call 4; first | refine (H.out.put hp (by (try simp only [List.length_append, List.length_cons, List.length_nil]); omega) _ _).mono ?_ | refine (H.out.drew.put hp (by (try simp only [List.length_append, List.length_cons, List.length_nil]); omega) _ _).mono ?_
       rintro e w1 ⟨rfl, g⟩; have b0 := g.c0; have b1 := g.c1; have z0 := lt_of_block g.box0; have z1 := lt_of_block g.box1; have H2 := Go.Lib.hid g; clear H g; have H := H2; clear H2)
    | (go_at_call 7; first | refine (H.out.body hp (by (try simp only [List.length_append, List.length_cons, List.length_nil]); omega) hb).mono ?_ | refine (H.out.drew.body hp (by (try simp only [List.length_append, List.length_cons, List.length_nil]); omega) hb).mono ?_
       rintro e w1 ⟨rfl, g⟩; have b0 := g.c0; have b1 := g.c1; have z0 := lt_of_block g.box0; have z1 := lt_of_block g.box1; have H2 := Go.Lib.hid g; clear H g; have H := H2; clear H2))
  go_wp2_with (first
    | (go_at_call 13; first | refine (H.out.byte).mono ?_ | refine (H.out.drew.byte).mono ?_
       rintro e w1 ⟨rfl, g⟩; have b0 := g.c0; have b1 := g.c1; have z0 := lt_of_block g.box0; have z1 := lt_of_block g.box1; have H2 := Go.Lib.hid g; clear H g; have H := H2; clear H2)
    | (go_at_call 20; first | refine (H.out.kind).mono ?_ | refine (H.out.drew.kind).mono ?_
       rintro e w1 ⟨rfl, g⟩; have b0 := g.c0; have b1 := g.c1; have z0 := lt_of_block g.box0; have z1 := lt_of_block g.box1; have H2 := Go.Lib.hid g; clear H g; have H := H2; clear H2)
    | (go_at_call 4; first | refine (H.out.put hp (by (try simp only [List.length_append, List.length_cons, List.length_nil]); first | omega | exact Nat.lt_of_le_of_lt (hx.le _) (by (try simp only [List.length_append, List.length_cons, List.length_nil]); omega) | exact Nat.lt_of_le_of_lt (Nat.add_le_add_right (hx.le _) _) (by (try simp only [List.length_append, List.length_cons, List.length_nil]); omega)) _ _).mono ?_ | refine (H.out.drew.put hp (by (try simp only [List.length_append, List.length_cons, List.length_nil]); first | omega | exact Nat.lt_of_le_of_lt (hx.le _) (by (try simp only [List.length_append, List.length_cons, List.length_nil]); omega) | exact Nat.lt_of_le_of_lt (Nat.add_le_add_right (hx.le _) _) (by (try simp only [List.length_append, List.length_cons, List.length_nil]); omega)) _ _).mono ?_
       rintro e w1 ⟨rfl, g⟩; have b0 := g.c0; have b1 := g.c1; have z0 := lt_of_block g.box0; have z1 := lt_of_block g.box1; have H2 := Go.Lib.hid g; clear H g; have H := H2; clear H2)
    | (go_at_call 7; first | refine (H.out.body hp (by (try simp only [List.length_append, List.length_cons, List.length_nil]); first | omega | exact Nat.lt_of_le_of_lt (hx.le _) (by (try simp only [List.length_append, List.length_cons, List.length_nil]); omega) | exact Nat.lt_of_le_of_lt (Nat.add_le_add_right (hx.le _) _) (by (try simp only [List.length_append, List.length_cons, List.length_nil]); omega)) hb).mono ?_ | refine (H.out.drew.body hp (by (try simp only [List.length_append, List.length_cons, List.length_nil]); first | omega | exact Nat.lt_of_le_of_lt (hx.le _) (by (try simp only [List.length_append, List.length_cons, List.length_nil]); omega) | exact Nat.lt_of_le_of_lt (Nat.add_le_add_right (hx.le _) _) (by (try simp only [List.length_append, List.length_cons, List.length_nil]); omega)) hb).mono ?_
       rintro e w1 ⟨rfl, g⟩; have b0 := g.c0; have b1 := g.c1; have z0 := lt_of_block g.box0; have z1 := lt_of_block g.box1; have H2 := Go.Lib.hid g; clear H g; have H := H2; clear H2))
  all_goals go_end0
  · have hh : gByte (body (s.1.tail.tail, s.2 ++ [⟨2, gByte s.1.tail % 6, false⟩])).1 % 4 = 0 := by have := tmod4 (gByte (body (s.1.tail.tail, s.2 ++ [⟨2, gByte s.1.tail % 6, false⟩])).1); simp_all
    rw [gCase_enter (by simp), if_pos hh]
    have G := H.out.gen
    try simp only [wv] at G
    exact ⟨rfl, G, H.out.keep⟩
  · have hh : ¬ gByte (body (s.1.tail.tail, s.2 ++ [⟨2, gByte s.1.tail % 6, false⟩])).1 % 4 = 0 := by have := tmod4 (gByte (body (s.1.tail.tail, s.2 ++ [⟨2, gByte s.1.tail % 6, false⟩])).1); simp_all
    rw [gCase_enter (by simp), if_neg hh]
    have G := H.out.gen
    try simp only [wv] at G
    exact ⟨rfl, G, H.out.keep⟩

set_option maxRecDepth 100000 in
set_option maxHeartbeats 16000000 in
theorem stm8_n8 {D B mb : Nat} {d : Int} {pre : List (Int × Int)} {s : GS} {w : World} (h : GenAt D B mb s.1 (abs pre s.2) (pre.length : Int) w) (hp : pre.length ≤ 100) (hl : s.2.length < 120)
    (hd : decide (3 ≤ d) = false) (hd0 : 0 ≤ d) (hd3 : d ≤ 3) (hc : gByte s.1 % 16 = 8) {body : GS → GS} {M : Nat} (hx : Ext M body) (hM : M ≤ 500) (hb : BodyCalls (d + 1) body) :
    Calls Tryd.prog 14 #[.pointer (some ⟨mb, 0, none⟩), .int .i64 d] w (GPost D B mb (gCase body 8 (s.1.tail, s.2)).1 (abs pre (gCase body 8 (s.1.tail, s.2)).2) (pre.length : Int) (.tuple #[]) w) := by
  have hr := h.range
  have H := Go.Lib.hid (StAt.begin (d := d) h)
  have b0 := H.out.c0
  have b1 := H.out.c1
  clear h
  go_enter Tryd.func14, Tryd.ntmps14
  go_wp2_with (first
    | (go_at_call 13; first | refine (H.out.byte).mono ?_ | refine (H.out.drew.byte).mono ?_
       rintro e w1 ⟨rfl, g⟩; have b0 := g.c0; have b1 := g.c1; have z0 := lt_of_block g.box0; have z1 := lt_of_block g.box1; have H2 := Go.Lib.hid g; clear H g; have H := H2; clear H2)
    | (go_at_call 20; first | refine (H.out.kind).mono ?_ | refine (H.out.drew.kind).mono ?_
       rintro e w1 ⟨rfl, g⟩; have b0 := g.c0; have b1 := g.c1; have z0 := lt_of_block g.box0; have z1 := lt_of_block g.box1; have H2 := Go.Lib.hid g; clear H g; have H := H2; clear H2)
    | (go_at_call 4; first | refine (H.out.put hp (by (try simp only [List.length_append, List.length_cons, List.length_nil]); first | omega | exact Nat.lt_of_le_of_lt (hx.le _) (by (try simp only [List.length_append, List.length_cons, List.length_nil]); omega) | exact Nat.lt_of_le_of_lt (Nat.add_le_add_right (hx.le _) _) (by (try simp only [List.length_append, List.length_cons, List.length_nil]); omega)) _ _).mono ?_ | refine (H.out.drew.put hp (by (try simp only [List.length_append, List.length_cons, List.length_nil]); first | omega | exact Nat.lt_of_le_of_lt (hx.le _) (by (try simp only [List.length_append, List.length_cons, List.length_nil]); omega) | exact Nat.lt_of_le_of_lt (Nat.add_le_add_right (hx.le _) _) (by (try simp only [List.length_append, List.length_cons, List.length_nil]); omega)) _ _).mono ?_
       rintro e w1 ⟨rfl, g⟩; have b0 := g.c0; have b1 := g.c1; have z0 := lt_of_block g.box0; have z1 := lt_of_block g.box1; have H2 := Go.Lib.hid g; clear H g; have H := H2; clear H2)
    | (go_at_call 7; first | refine (H.out.body hp (by (try simp only [List.length_append, List.length_cons, List.length_nil]); first | omega | exact Nat.lt_of_le_of_lt (hx.le _) (by (try simp only [List.length_append, List.length_cons, List.length_nil]); omega) | exact Nat.lt_of_le_of_lt (Nat.add_le_add_right (hx.le _) _) (by (try simp only [List.length_append, List.length_cons, List.length_nil]); omega)) hb).mono ?_ | refine (H.out.drew.body hp (by (try simp only [List.length_append, List.length_cons, List.length_nil]); first | omega | exact Nat.lt_of_le_of_lt (hx.le _) (by (try simp only [List.length_append, List.length_cons, List.length_nil]); omega) | exact Nat.lt_of_le_of_lt (Nat.add_le_add_right (hx.le _) _) (by (try simp only [List.length_append, List.length_cons, List.length_nil]); omega)) hb).mono ?_
       rintro e w1 ⟨rfl, g⟩; have b0 := g.c0; have b1 := g.c1; have z0 := lt_of_block g.box0; have z1 := lt_of_block g.box1; have H2 := Go.Lib.hid g; clear H g; have H := H2; clear H2))
  go_end0
  exact ⟨rfl, H.out.gen, H.out.keep⟩

set_option maxRecDepth 100000 in
set_option maxHeartbeats 16000000 in
theorem stm9_n9 {D B mb : Nat} {d : Int} {pre : List (Int × Int)} {s : GS} {w : World} (h : GenAt D B mb s.1 (abs pre s.2) (pre.length : Int) w) (hp : pre.length ≤ 100) (hl : s.2.length < 120)
    (hd : decide (3 ≤ d) = false) (hd0 : 0 ≤ d) (hd3 : d ≤ 3) (hc : gByte s.1 % 16 = 9) {body : GS → GS} {M : Nat} (hx : Ext M body) (hM : M ≤ 500) (hb : BodyCalls (d + 1) body) :
    Calls Tryd.prog 14 #[.pointer (some ⟨mb, 0, none⟩), .int .i64 d] w (GPost D B mb (gCase body 9 (s.1.tail, s.2)).1 (abs pre (gCase body 9 (s.1.tail, s.2)).2) (pre.length : Int) (.tuple #[]) w) := by
  have hr := h.range
  have H := Go.Lib.hid (StAt.begin (d := d) h)
  have b0 := H.out.c0
  have b1 := H.out.c1
  clear h
  go_enter Tryd.func14, Tryd.ntmps14
  go_wp2_with (first
    | (go_at_call 13; first | refine (H.out.byte).mono ?_ | refine (H.out.drew.byte).mono ?_
       rintro e w1 ⟨rfl, g⟩; have b0 := g.c0; have b1 := g.c1; have z0 := lt_of_block g.box0; have z1 := lt_of_block g.box1; have H2 := Go.Lib.hid g; clear H g; have H := H2; clear H2)
    | (go_at_call 20; first | refine (H.out.kind).mono ?_ | refine (H.out.drew.kind).mono ?_
       rintro e w1 ⟨rfl, g⟩; have b0 := g.c0; have b1 := g.c1; have z0 := lt_of_block g.box0; have z1 := lt_of_block g.box1; have H2 := Go.Lib.hid g; clear H g; have H := H2; clear H2)
    | (go_at_call 4; first | refine (H.out.put hp (by (try simp only [List.length_append, List.length_cons, List.length_nil]); first | omega | exact Nat.lt_of_le_of_lt (hx.le _) (by (try simp only [List.length_append, List.length_cons, List.length_nil]); omega) | exact Nat.lt_of_le_of_lt (Nat.add_le_add_right (hx.le _) _) (by (try simp only [List.length_append, List.length_cons, List.length_nil]); omega)) _ _).mono ?_ | refine (H.out.drew.put hp (by (try simp only [List.length_append, List.length_cons, List.length_nil]); first | omega | exact Nat.lt_of_le_of_lt (hx.le _) (by (try simp only [List.length_append, List.length_cons, List.length_nil]); omega) | exact Nat.lt_of_le_of_lt (Nat.add_le_add_right (hx.le _) _) (by (try simp only [List.length_append, List.length_cons, List.length_nil]); omega)) _ _).mono ?_
       rintro e w1 ⟨rfl, g⟩; have b0 := g.c0; have b1 := g.c1; have z0 := lt_of_block g.box0; have z1 := lt_of_block g.box1; have H2 := Go.Lib.hid g; clear H g; have H := H2; clear H2)
    | (go_at_call 7; first | refine (H.out.body hp (by (try simp only [List.length_append, List.length_cons, List.length_nil]); first | omega | exact Nat.lt_of_le_of_lt (hx.le _) (by (try simp only [List.length_append, List.length_cons, List.length_nil]); omega) | exact Nat.lt_of_le_of_lt (Nat.add_le_add_right (hx.le _) _) (by (try simp only [List.length_append, List.length_cons, List.length_nil]); omega)) hb).mono ?_ | refine (H.out.drew.body hp (by (try simp only [List.length_append, List.length_cons, List.length_nil]); first | omega | exact Nat.lt_of_le_of_lt (hx.le _) (by (try simp only [List.length_append, List.length_cons, List.length_nil]); omega) | exact Nat.lt_of_le_of_lt (Nat.add_le_add_right (hx.le _) _) (by (try simp only [List.length_append, List.length_cons, List.length_nil]); omega)) hb).mono ?_
       rintro e w1 ⟨rfl, g⟩; have b0 := g.c0; have b1 := g.c1; have z0 := lt_of_block g.box0; have z1 := lt_of_block g.box1; have H2 := Go.Lib.hid g; clear H g; have H := H2; clear H2))
  go_end0
  exact ⟨rfl, H.out.gen, H.out.keep⟩

end Go.Proofs.YtkhicabfmkldpaaDoor
