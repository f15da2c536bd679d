/- The generator: the statements that choose an operation from a row. -/
import Derived.Test.YtkhicabfmkldpaaDoorGnG
namespace Go.Proofs.YtkhicabfmkldpaaDoor
open Go.RowKit

set_option maxRecDepth 100000 in
set_option maxHeartbeats 16000000 in
theorem stm10_n10 {D B mb : Nat} {d : Int} {pre : List (Int × Int)} {s : GS} {w : World} (h : GenAt D B mb s.1 (abs pre s.2) (pre.length : Int) w) (hp : pre.length ≤ 100) (hl : s.2.length < 120)
    (hd : decide (3 ≤ d) = false) (_hd0 : 0 ≤ d) (_hd3 : d ≤ 3) (hc : gByte s.1 % 16 = 10) {body : GS → GS} :
    Calls Tryd.prog 14 #[.pointer (some ⟨mb, 0, none⟩), .int .i64 d] w (GPost D B mb (gCase body 10 (s.1.tail, s.2)).1 (abs pre (gCase body 10 (s.1.tail, s.2)).2) (pre.length : Int) (.tuple #[]) w) := by
  have hr := h.range
  have H := Go.Lib.hid (StAt.begin (d := d) h)
  have b0 := H.out.c0
  have b1 := H.out.c1
  obtain ⟨hr20, hr21⟩ := h.tailRange
  obtain ⟨hr30, hr31⟩ := h.tailRange2
  obtain ⟨y, hy⟩ : ∃ y, opsList10[(gByte s.1.tail % 4).toNat]? = some y := ⟨_, List.getElem?_eq_getElem (show (gByte s.1.tail % 4).toNat < 4 by omega)⟩
  have hy1 : ((opsList10.map (Value.int .i64)).toArray)[(gByte s.1.tail % 4).toNat]? = some (.int .i64 y) := by simp [hy]
  have Hy := Go.Lib.hid (show (#[.int .i64 15, .int .i64 16, .int .i64 17, .int .i64 18] : Array Value)[(gByte s.1.tail % 4).toNat]? = some (.int .i64 y) from hy1)
  have hq0 : 0 ≤ gByte s.1.tail % 4 := by omega
  have hq1 : gByte s.1.tail % 4 < 4 := by omega
  have hq2 : (gByte s.1.tail % 4).toNat < 4 := by omega
  have hq3 : ¬ (gByte s.1.tail % 4 < 0) := by omega
  have hq4 : decide ((gByte s.1.tail % 4).toNat < 4) = true := by simp; omega
  have hI : (gByte s.1.tail).tmod 4 = gByte s.1.tail % 4 := Int.tmod_eq_emod_of_nonneg hr20
  clear hy1
  have wv : IntKind.i64.wrap ((gByte s.1.tail.tail).tmod 9 - 3) = gByte s.1.tail.tail % 9 - 3 := by
    rw [show (gByte s.1.tail.tail).tmod 9 = gByte s.1.tail.tail % 9 from Int.tmod_eq_emod_of_nonneg hr30]
    exact wrap_i64_near _ (by omega) (by omega)
  have hcell : ∀ w1 : World, (w1.alloc (.cells #[.int .i64 15, .int .i64 16, .int .i64 17, .int .i64 18] 3)).cell? ⟨w1.heap.size, (gByte s.1.tail % 4).toNat, none⟩ = some (.int .i64 y) := fun w1 => by
    rw [cell_of_row _ _ _ _ _ _ (heap_alloc_new w1 _)]; exact Hy.out
  have Hy0 := Go.Lib.hid hy
  clear h hy
  go_enter Tryd.func14, Tryd.ntmps14
  go_wp2_with (first
    | (go_at_call 13; first | refine (H.out.byte).mono ?_ | refine (H.out.drew.byte).mono ?_
       rintro e w1 ⟨rfl, g⟩; have b0 := g.c0; have b1 := g.c1; have z0 := lt_of_block g.box0; have z1 := lt_of_block g.box1; have H2 := Go.Lib.hid g; clear H g; have H := H2; clear H2)
    | (go_at_call 20; first | refine (H.out.kind).mono ?_ | refine (H.out.drew.kind).mono ?_
       rintro e w1 ⟨rfl, g⟩; have b0 := g.c0; have b1 := g.c1; have z0 := lt_of_block g.box0; have z1 := lt_of_block g.box1; have H2 := Go.Lib.hid g; clear H g; have H := H2; clear H2)
    | (go_at_call 4; first | refine (H.out.put hp (by (try simp only [List.length_append, List.length_cons, List.length_nil]); omega) _ _).mono ?_ | refine (H.out.drew.put hp (by (try simp only [List.length_append, List.length_cons, List.length_nil]); omega) _ _).mono ?_
       rintro e w1 ⟨rfl, g⟩; have b0 := g.c0; have b1 := g.c1; have z0 := lt_of_block g.box0; have z1 := lt_of_block g.box1; have H2 := Go.Lib.hid g; clear H g; have H := H2; clear H2)
    | (go_at_call 7; first | refine (H.out.body hp (by (try simp only [List.length_append, List.length_cons, List.length_nil]); omega) hb).mono ?_ | refine (H.out.drew.body hp (by (try simp only [List.length_append, List.length_cons, List.length_nil]); omega) hb).mono ?_
       rintro e w1 ⟨rfl, g⟩; have b0 := g.c0; have b1 := g.c1; have z0 := lt_of_block g.box0; have z1 := lt_of_block g.box1; have H2 := Go.Lib.hid g; clear H g; have H := H2; clear H2))
  rw [show Op.load 3 (.tmp 137) = ld10 from rfl]
  have hld : ld10 = Op.load 3 (.tmp 137) := rfl
  go_region_held3 (fun W => W.cell? ⟨w.heap.size, 0, none⟩ = some (.pointer (some ⟨mb, 0, none⟩))) (first | exact H.out.c0 | exact H.out.drew.c0 | exact (H.out.alloc _).c0 | exact (H.out.drew.alloc _).c0 | exact (H.out.alloc _).drew.c0) (first
    | (go_at_call 13; first | refine (H.out.byte).mono ?_ | refine (H.out.drew.byte).mono ?_ | refine ((H.out.alloc _).byte).mono ?_ | refine ((H.out.alloc _).drew.byte).mono ?_ | refine ((H.out.drew.alloc _).byte).mono ?_ | refine ((H.out.drew.alloc _).drew.byte).mono ?_
       rintro e w1 ⟨rfl, g⟩; have b0 := g.c0; have b1 := g.c1; have z0 := lt_of_block g.box0; have z1 := lt_of_block g.box1; (try have bx := g.cx Hy.out); have H2 := Go.Lib.hid g; clear H g; have H := H2; clear H2)
    | (go_at_call 20; first | refine (H.out.kind).mono ?_ | refine (H.out.drew.kind).mono ?_ | refine ((H.out.alloc _).kind).mono ?_ | refine ((H.out.alloc _).drew.kind).mono ?_ | refine ((H.out.drew.alloc _).kind).mono ?_ | refine ((H.out.drew.alloc _).drew.kind).mono ?_
       rintro e w1 ⟨rfl, g⟩; have b0 := g.c0; have b1 := g.c1; have z0 := lt_of_block g.box0; have z1 := lt_of_block g.box1; (try have bx := g.cx Hy.out); have H2 := Go.Lib.hid g; clear H g; have H := H2; clear H2)
    | (go_at_call 4; first | refine (H.out.put hp (by (try simp only [List.length_append, List.length_cons, List.length_nil]); omega) _ _).mono ?_ | refine (H.out.drew.put hp (by (try simp only [List.length_append, List.length_cons, List.length_nil]); omega) _ _).mono ?_ | refine ((H.out.alloc _).put hp (by (try simp only [List.length_append, List.length_cons, List.length_nil]); omega) _ _).mono ?_ | refine ((H.out.alloc _).drew.put hp (by (try simp only [List.length_append, List.length_cons, List.length_nil]); omega) _ _).mono ?_ | refine ((H.out.drew.alloc _).put hp (by (try simp only [List.length_append, List.length_cons, List.length_nil]); omega) _ _).mono ?_ | refine ((H.out.drew.alloc _).drew.put hp (by (try simp only [List.length_append, List.length_cons, List.length_nil]); omega) _ _).mono ?_
       rintro e w1 ⟨rfl, g⟩; have b0 := g.c0; have b1 := g.c1; have z0 := lt_of_block g.box0; have z1 := lt_of_block g.box1; (try have bx := g.cx Hy.out); have H2 := Go.Lib.hid g; clear H g; have H := H2; clear H2)
    | (go_at_call 7; first | refine (H.out.body hp (by (try simp only [List.length_append, List.length_cons, List.length_nil]); omega) hb).mono ?_ | refine (H.out.drew.body hp (by (try simp only [List.length_append, List.length_cons, List.length_nil]); omega) hb).mono ?_ | refine ((H.out.alloc _).body hp (by (try simp only [List.length_append, List.length_cons, List.length_nil]); omega) hb).mono ?_ | refine ((H.out.alloc _).drew.body hp (by (try simp only [List.length_append, List.length_cons, List.length_nil]); omega) hb).mono ?_ | refine ((H.out.drew.alloc _).body hp (by (try simp only [List.length_append, List.length_cons, List.length_nil]); omega) hb).mono ?_ | refine ((H.out.drew.alloc _).drew.body hp (by (try simp only [List.length_append, List.length_cons, List.length_nil]); omega) hb).mono ?_
       rintro e w1 ⟨rfl, g⟩; have b0 := g.c0; have b1 := g.c1; have z0 := lt_of_block g.box0; have z1 := lt_of_block g.box1; (try have bx := g.cx Hy.out); have H2 := Go.Lib.hid g; clear H g; have H := H2; clear H2))
  all_goals go_end0
  all_goals
    have e : (gCase body 10 (s.1.tail, s.2)) = (s.1.tail.tail.tail, s.2 ++ [⟨y, gByte s.1.tail.tail % 9 - 3, false⟩]) := by
      show (s.1.tail.tail.tail, s.2 ++ [(⟨opsList10[(gByte s.1.tail % 4).toNat]?.getD 15, gByte s.1.tail.tail % 9 - 3, false⟩ : RI)]) = _
      rw [Hy0.out]; rfl
    rw [e]
    have G := H.out.gen
    try simp only [wv] at G
    exact ⟨rfl, G, H.out.keep⟩

set_option maxRecDepth 100000 in
set_option maxHeartbeats 16000000 in
theorem stm10_l10 {D B mb : Nat} {d : Int} {pre : List (Int × Int)} {s : GS} {w : World} (h : GenAt D B mb s.1 (abs pre s.2) (pre.length : Int) w) (hp : pre.length ≤ 100) (hl : s.2.length < 120)
    (hd : decide (3 ≤ d) = true) (_hd0 : 0 ≤ d) (_hd3 : d ≤ 3) (hc : gByte s.1 % 16 = 10) {body : GS → GS} :
    Calls Tryd.prog 14 #[.pointer (some ⟨mb, 0, none⟩), .int .i64 d] w (GPost D B mb (gCase body 10 (s.1.tail, s.2)).1 (abs pre (gCase body 10 (s.1.tail, s.2)).2) (pre.length : Int) (.tuple #[]) w) := by
  have hr := h.range
  have H := Go.Lib.hid (StAt.begin (d := d) h)
  have b0 := H.out.c0
  have b1 := H.out.c1
  obtain ⟨hr20, hr21⟩ := h.tailRange
  obtain ⟨hr30, hr31⟩ := h.tailRange2
  obtain ⟨y, hy⟩ : ∃ y, opsList10[(gByte s.1.tail % 4).toNat]? = some y := ⟨_, List.getElem?_eq_getElem (show (gByte s.1.tail % 4).toNat < 4 by omega)⟩
  have hy1 : ((opsList10.map (Value.int .i64)).toArray)[(gByte s.1.tail % 4).toNat]? = some (.int .i64 y) := by simp [hy]
  have Hy := Go.Lib.hid (show (#[.int .i64 15, .int .i64 16, .int .i64 17, .int .i64 18] : Array Value)[(gByte s.1.tail % 4).toNat]? = some (.int .i64 y) from hy1)
  have hq0 : 0 ≤ gByte s.1.tail % 4 := by omega
  have hq1 : gByte s.1.tail % 4 < 4 := by omega
  have hq2 : (gByte s.1.tail % 4).toNat < 4 := by omega
  have hq3 : ¬ (gByte s.1.tail % 4 < 0) := by omega
  have hq4 : decide ((gByte s.1.tail % 4).toNat < 4) = true := by simp; omega
  have hI : (gByte s.1.tail).tmod 4 = gByte s.1.tail % 4 := Int.tmod_eq_emod_of_nonneg hr20
  clear hy1
  have wv : IntKind.i64.wrap ((gByte s.1.tail.tail).tmod 9 - 3) = gByte s.1.tail.tail % 9 - 3 := by
    rw [show (gByte s.1.tail.tail).tmod 9 = gByte s.1.tail.tail % 9 from Int.tmod_eq_emod_of_nonneg hr30]
    exact wrap_i64_near _ (by omega) (by omega)
  have hcell : ∀ w1 : World, (w1.alloc (.cells #[.int .i64 15, .int .i64 16, .int .i64 17, .int .i64 18] 3)).cell? ⟨w1.heap.size, (gByte s.1.tail % 4).toNat, none⟩ = some (.int .i64 y) := fun w1 => by
    rw [cell_of_row _ _ _ _ _ _ (heap_alloc_new w1 _)]; exact Hy.out
  have Hy0 := Go.Lib.hid hy
  clear h hy
  go_enter Tryd.func14, Tryd.ntmps14
  go_wp2_with (first
    | (go_at_call 13; first | refine (H.out.byte).mono ?_ | refine (H.out.drew.byte).mono ?_
       rintro e w1 ⟨rfl, g⟩; have b0 := g.c0; have b1 := g.c1; have z0 := lt_of_block g.box0; have z1 := lt_of_block g.box1; have H2 := Go.Lib.hid g; clear H g; have H := H2; clear H2)
    | (go_at_call 20; first | refine (H.out.kind).mono ?_ | refine (H.out.drew.kind).mono ?_
       rintro e w1 ⟨rfl, g⟩; have b0 := g.c0; have b1 := g.c1; have z0 := lt_of_block g.box0; have z1 := lt_of_block g.box1; have H2 := Go.Lib.hid g; clear H g; have H := H2; clear H2)
    | (go_at_call 4; first | refine (H.out.put hp (by (try simp only [List.length_append, List.length_cons, List.length_nil]); omega) _ _).mono ?_ | refine (H.out.drew.put hp (by (try simp only [List.length_append, List.length_cons, List.length_nil]); omega) _ _).mono ?_
       rintro e w1 ⟨rfl, g⟩; have b0 := g.c0; have b1 := g.c1; have z0 := lt_of_block g.box0; have z1 := lt_of_block g.box1; have H2 := Go.Lib.hid g; clear H g; have H := H2; clear H2)
    | (go_at_call 7; first | refine (H.out.body hp (by (try simp only [List.length_append, List.length_cons, List.length_nil]); omega) hb).mono ?_ | refine (H.out.drew.body hp (by (try simp only [List.length_append, List.length_cons, List.length_nil]); omega) hb).mono ?_
       rintro e w1 ⟨rfl, g⟩; have b0 := g.c0; have b1 := g.c1; have z0 := lt_of_block g.box0; have z1 := lt_of_block g.box1; have H2 := Go.Lib.hid g; clear H g; have H := H2; clear H2))
  rw [show Op.load 3 (.tmp 137) = ld10 from rfl]
  have hld : ld10 = Op.load 3 (.tmp 137) := rfl
  go_region_held3 (fun W => W.cell? ⟨w.heap.size, 0, none⟩ = some (.pointer (some ⟨mb, 0, none⟩))) (first | exact H.out.c0 | exact H.out.drew.c0 | exact (H.out.alloc _).c0 | exact (H.out.drew.alloc _).c0 | exact (H.out.alloc _).drew.c0) (first
    | (go_at_call 13; first | refine (H.out.byte).mono ?_ | refine (H.out.drew.byte).mono ?_ | refine ((H.out.alloc _).byte).mono ?_ | refine ((H.out.alloc _).drew.byte).mono ?_ | refine ((H.out.drew.alloc _).byte).mono ?_ | refine ((H.out.drew.alloc _).drew.byte).mono ?_
       rintro e w1 ⟨rfl, g⟩; have b0 := g.c0; have b1 := g.c1; have z0 := lt_of_block g.box0; have z1 := lt_of_block g.box1; (try have bx := g.cx Hy.out); have H2 := Go.Lib.hid g; clear H g; have H := H2; clear H2)
    | (go_at_call 20; first | refine (H.out.kind).mono ?_ | refine (H.out.drew.kind).mono ?_ | refine ((H.out.alloc _).kind).mono ?_ | refine ((H.out.alloc _).drew.kind).mono ?_ | refine ((H.out.drew.alloc _).kind).mono ?_ | refine ((H.out.drew.alloc _).drew.kind).mono ?_
       rintro e w1 ⟨rfl, g⟩; have b0 := g.c0; have b1 := g.c1; have z0 := lt_of_block g.box0; have z1 := lt_of_block g.box1; (try have bx := g.cx Hy.out); have H2 := Go.Lib.hid g; clear H g; have H := H2; clear H2)
    | (go_at_call 4; first | refine (H.out.put hp (by (try simp only [List.length_append, List.length_cons, List.length_nil]); omega) _ _).mono ?_ | refine (H.out.drew.put hp (by (try simp only [List.length_append, List.length_cons, List.length_nil]); omega) _ _).mono ?_ | refine ((H.out.alloc _).put hp (by (try simp only [List.length_append, List.length_cons, List.length_nil]); omega) _ _).mono ?_ | refine ((H.out.alloc _).drew.put hp (by (try simp only [List.length_append, List.length_cons, List.length_nil]); omega) _ _).mono ?_ | refine ((H.out.drew.alloc _).put hp (by (try simp only [List.length_append, List.length_cons, List.length_nil]); omega) _ _).mono ?_ | refine ((H.out.drew.alloc _).drew.put hp (by (try simp only [List.length_append, List.length_cons, List.length_nil]); omega) _ _).mono ?_
       rintro e w1 ⟨rfl, g⟩; have b0 := g.c0; have b1 := g.c1; have z0 := lt_of_block g.box0; have z1 := lt_of_block g.box1; (try have bx := g.cx Hy.out); have H2 := Go.Lib.hid g; clear H g; have H := H2; clear H2)
    | (go_at_call 7; first | refine (H.out.body hp (by (try simp only [List.length_append, List.length_cons, List.length_nil]); omega) hb).mono ?_ | refine (H.out.drew.body hp (by (try simp only [List.length_append, List.length_cons, List.length_nil]); omega) hb).mono ?_ | refine ((H.out.alloc _).body hp (by (try simp only [List.length_append, List.length_cons, List.length_nil]); omega) hb).mono ?_ | refine ((H.out.alloc _).drew.body hp (by (try simp only [List.length_append, List.length_cons, List.length_nil]); omega) hb).mono ?_ | refine ((H.out.drew.alloc _).body hp (by (try simp only [List.length_append, List.length_cons, List.length_nil]); omega) hb).mono ?_ | refine ((H.out.drew.alloc _).drew.body hp (by (try simp only [List.length_append, List.length_cons, List.length_nil]); omega) hb).mono ?_
       rintro e w1 ⟨rfl, g⟩; have b0 := g.c0; have b1 := g.c1; have z0 := lt_of_block g.box0; have z1 := lt_of_block g.box1; (try have bx := g.cx Hy.out); have H2 := Go.Lib.hid g; clear H g; have H := H2; clear H2))
  all_goals go_end0
  all_goals
    have e : (gCase body 10 (s.1.tail, s.2)) = (s.1.tail.tail.tail, s.2 ++ [⟨y, gByte s.1.tail.tail % 9 - 3, false⟩]) := by
      show (s.1.tail.tail.tail, s.2 ++ [(⟨opsList10[(gByte s.1.tail % 4).toNat]?.getD 15, gByte s.1.tail.tail % 9 - 3, false⟩ : RI)]) = _
      rw [Hy0.out]; rfl
    rw [e]
    have G := H.out.gen
    try simp only [wv] at G
    exact ⟨rfl, G, H.out.keep⟩

set_option maxRecDepth 100000 in
set_option maxHeartbeats 16000000 in
theorem stm11_n11 {D B mb : Nat} {d : Int} {pre : List (Int × Int)} {s : GS} {w : World} (h : GenAt D B mb s.1 (abs pre s.2) (pre.length : Int) w) (hp : pre.length ≤ 100) (hl : s.2.length < 120)
    (hd : decide (3 ≤ d) = false) (_hd0 : 0 ≤ d) (_hd3 : d ≤ 3) (hc : gByte s.1 % 16 = 11) {body : GS → GS} :
    Calls Tryd.prog 14 #[.pointer (some ⟨mb, 0, none⟩), .int .i64 d] w (GPost D B mb (gCase body 11 (s.1.tail, s.2)).1 (abs pre (gCase body 11 (s.1.tail, s.2)).2) (pre.length : Int) (.tuple #[]) w) := by
  have hr := h.range
  have H := Go.Lib.hid (StAt.begin (d := d) h)
  have b0 := H.out.c0
  have b1 := H.out.c1
  obtain ⟨hr20, hr21⟩ := h.tailRange
  obtain ⟨hr30, hr31⟩ := h.tailRange2
  obtain ⟨y, hy⟩ : ∃ y, opsList11[(gByte s.1.tail % 4).toNat]? = some y := ⟨_, List.getElem?_eq_getElem (show (gByte s.1.tail % 4).toNat < 4 by omega)⟩
  have hy1 : ((opsList11.map (Value.int .i64)).toArray)[(gByte s.1.tail % 4).toNat]? = some (.int .i64 y) := by simp [hy]
  have Hy := Go.Lib.hid (show (#[.int .i64 7, .int .i64 21, .int .i64 22, .int .i64 1] : Array Value)[(gByte s.1.tail % 4).toNat]? = some (.int .i64 y) from hy1)
  have hq0 : 0 ≤ gByte s.1.tail % 4 := by omega
  have hq1 : gByte s.1.tail % 4 < 4 := by omega
  have hq2 : (gByte s.1.tail % 4).toNat < 4 := by omega
  have hq3 : ¬ (gByte s.1.tail % 4 < 0) := by omega
  have hq4 : decide ((gByte s.1.tail % 4).toNat < 4) = true := by simp; omega
  have hI : (gByte s.1.tail).tmod 4 = gByte s.1.tail % 4 := Int.tmod_eq_emod_of_nonneg hr20
  clear hy1
  have wv : (gByte s.1.tail.tail).tmod 6 = gByte s.1.tail.tail % 6 := by
    rw [show (gByte s.1.tail.tail).tmod 6 = gByte s.1.tail.tail % 6 from Int.tmod_eq_emod_of_nonneg hr30]

  have hcell : ∀ w1 : World, (w1.alloc (.cells #[.int .i64 7, .int .i64 21, .int .i64 22, .int .i64 1] 3)).cell? ⟨w1.heap.size, (gByte s.1.tail % 4).toNat, none⟩ = some (.int .i64 y) := fun w1 => by
    rw [cell_of_row _ _ _ _ _ _ (heap_alloc_new w1 _)]; exact Hy.out
  have Hy0 := Go.Lib.hid hy
  clear h hy
  go_enter Tryd.func14, Tryd.ntmps14
  go_wp2_with (first
    | (go_at_call 13; first | refine (H.out.byte).mono ?_ | refine (H.out.drew.byte).mono ?_
       rintro e w1 ⟨rfl, g⟩; have b0 := g.c0; have b1 := g.c1; have z0 := lt_of_block g.box0; have z1 := lt_of_block g.box1; have H2 := Go.Lib.hid g; clear H g; have H := H2; clear H2)
    | (go_at_call 20; first | refine (H.out.kind).mono ?_ | refine (H.out.drew.kind).mono ?_
       rintro e w1 ⟨rfl, g⟩; have b0 := g.c0; have b1 := g.c1; have z0 := lt_of_block g.box0; have z1 := lt_of_block g.box1; have H2 := Go.Lib.hid g; clear H g; have H := H2; clear H2)
    | (go_at_call 4; first | refine (H.out.put hp (by (try simp only [List.length_append, List.length_cons, List.length_nil]); omega) _ _).mono ?_ | refine (H.out.drew.put hp (by (try simp only [List.length_append, List.length_cons, List.length_nil]); omega) _ _).mono ?_
       rintro e w1 ⟨rfl, g⟩; have b0 := g.c0; have b1 := g.c1; have z0 := lt_of_block g.box0; have z1 := lt_of_block g.box1; have H2 := Go.Lib.hid g; clear H g; have H := H2; clear H2)
    | (go_at_call 7; first | refine (H.out.body hp (by (try simp only [List.length_append, List.length_cons, List.length_nil]); omega) hb).mono ?_ | refine (H.out.drew.body hp (by (try simp only [List.length_append, List.length_cons, List.length_nil]); omega) hb).mono ?_
       rintro e w1 ⟨rfl, g⟩; have b0 := g.c0; have b1 := g.c1; have z0 := lt_of_block g.box0; have z1 := lt_of_block g.box1; have H2 := Go.Lib.hid g; clear H g; have H := H2; clear H2))
  rw [show Op.load 3 (.tmp 151) = ld11 from rfl]
  have hld : ld11 = Op.load 3 (.tmp 151) := rfl
  go_region_held3 (fun W => W.cell? ⟨w.heap.size, 0, none⟩ = some (.pointer (some ⟨mb, 0, none⟩))) (first | exact H.out.c0 | exact H.out.drew.c0 | exact (H.out.alloc _).c0 | exact (H.out.drew.alloc _).c0 | exact (H.out.alloc _).drew.c0) (first
    | (go_at_call 13; first | refine (H.out.byte).mono ?_ | refine (H.out.drew.byte).mono ?_ | refine ((H.out.alloc _).byte).mono ?_ | refine ((H.out.alloc _).drew.byte).mono ?_ | refine ((H.out.drew.alloc _).byte).mono ?_ | refine ((H.out.drew.alloc _).drew.byte).mono ?_
       rintro e w1 ⟨rfl, g⟩; have b0 := g.c0; have b1 := g.c1; have z0 := lt_of_block g.box0; have z1 := lt_of_block g.box1; (try have bx := g.cx Hy.out); have H2 := Go.Lib.hid g; clear H g; have H := H2; clear H2)
    | (go_at_call 20; first | refine (H.out.kind).mono ?_ | refine (H.out.drew.kind).mono ?_ | refine ((H.out.alloc _).kind).mono ?_ | refine ((H.out.alloc _).drew.kind).mono ?_ | refine ((H.out.drew.alloc _).kind).mono ?_ | refine ((H.out.drew.alloc _).drew.kind).mono ?_
       rintro e w1 ⟨rfl, g⟩; have b0 := g.c0; have b1 := g.c1; have z0 := lt_of_block g.box0; have z1 := lt_of_block g.box1; (try have bx := g.cx Hy.out); have H2 := Go.Lib.hid g; clear H g; have H := H2; clear H2)
    | (go_at_call 4; first | refine (H.out.put hp (by (try simp only [List.length_append, List.length_cons, List.length_nil]); omega) _ _).mono ?_ | refine (H.out.drew.put hp (by (try simp only [List.length_append, List.length_cons, List.length_nil]); omega) _ _).mono ?_ | refine ((H.out.alloc _).put hp (by (try simp only [List.length_append, List.length_cons, List.length_nil]); omega) _ _).mono ?_ | refine ((H.out.alloc _).drew.put hp (by (try simp only [List.length_append, List.length_cons, List.length_nil]); omega) _ _).mono ?_ | refine ((H.out.drew.alloc _).put hp (by (try simp only [List.length_append, List.length_cons, List.length_nil]); omega) _ _).mono ?_ | refine ((H.out.drew.alloc _).drew.put hp (by (try simp only [List.length_append, List.length_cons, List.length_nil]); omega) _ _).mono ?_
       rintro e w1 ⟨rfl, g⟩; have b0 := g.c0; have b1 := g.c1; have z0 := lt_of_block g.box0; have z1 := lt_of_block g.box1; (try have bx := g.cx Hy.out); have H2 := Go.Lib.hid g; clear H g; have H := H2; clear H2)
    | (go_at_call 7; first | refine (H.out.body hp (by (try simp only [List.length_append, List.length_cons, List.length_nil]); omega) hb).mono ?_ | refine (H.out.drew.body hp (by (try simp only [List.length_append, List.length_cons, List.length_nil]); omega) hb).mono ?_ | refine ((H.out.alloc _).body hp (by (try simp only [List.length_append, List.length_cons, List.length_nil]); omega) hb).mono ?_ | refine ((H.out.alloc _).drew.body hp (by (try simp only [List.length_append, List.length_cons, List.length_nil]); omega) hb).mono ?_ | refine ((H.out.drew.alloc _).body hp (by (try simp only [List.length_append, List.length_cons, List.length_nil]); omega) hb).mono ?_ | refine ((H.out.drew.alloc _).drew.body hp (by (try simp only [List.length_append, List.length_cons, List.length_nil]); omega) hb).mono ?_
       rintro e w1 ⟨rfl, g⟩; have b0 := g.c0; have b1 := g.c1; have z0 := lt_of_block g.box0; have z1 := lt_of_block g.box1; (try have bx := g.cx Hy.out); have H2 := Go.Lib.hid g; clear H g; have H := H2; clear H2))
  all_goals go_end0
  all_goals
    have e : (gCase body 11 (s.1.tail, s.2)) = (s.1.tail.tail.tail, s.2 ++ [⟨y, gByte s.1.tail.tail % 6, false⟩]) := by
      show (s.1.tail.tail.tail, s.2 ++ [(⟨opsList11[(gByte s.1.tail % 4).toNat]?.getD 7, gByte s.1.tail.tail % 6, false⟩ : RI)]) = _
      rw [Hy0.out]; rfl
    rw [e]
    have G := H.out.gen
    try simp only [wv] at G
    exact ⟨rfl, G, H.out.keep⟩

set_option maxRecDepth 100000 in
set_option maxHeartbeats 16000000 in
theorem stm11_l11 {D B mb : Nat} {d : Int} {pre : List (Int × Int)} {s : GS} {w : World} (h : GenAt D B mb s.1 (abs pre s.2) (pre.length : Int) w) (hp : pre.length ≤ 100) (hl : s.2.length < 120)
    (hd : decide (3 ≤ d) = true) (_hd0 : 0 ≤ d) (_hd3 : d ≤ 3) (hc : gByte s.1 % 16 = 11) {body : GS → GS} :
    Calls Tryd.prog 14 #[.pointer (some ⟨mb, 0, none⟩), .int .i64 d] w (GPost D B mb (gCase body 11 (s.1.tail, s.2)).1 (abs pre (gCase body 11 (s.1.tail, s.2)).2) (pre.length : Int) (.tuple #[]) w) := by
  have hr := h.range
  have H := Go.Lib.hid (StAt.begin (d := d) h)
  have b0 := H.out.c0
  have b1 := H.out.c1
  obtain ⟨hr20, hr21⟩ := h.tailRange
  obtain ⟨hr30, hr31⟩ := h.tailRange2
  obtain ⟨y, hy⟩ : ∃ y, opsList11[(gByte s.1.tail % 4).toNat]? = some y := ⟨_, List.getElem?_eq_getElem (show (gByte s.1.tail % 4).toNat < 4 by omega)⟩
  have hy1 : ((opsList11.map (Value.int .i64)).toArray)[(gByte s.1.tail % 4).toNat]? = some (.int .i64 y) := by simp [hy]
  have Hy := Go.Lib.hid (show (#[.int .i64 7, .int .i64 21, .int .i64 22, .int .i64 1] : Array Value)[(gByte s.1.tail % 4).toNat]? = some (.int .i64 y) from hy1)
  have hq0 : 0 ≤ gByte s.1.tail % 4 := by omega
  have hq1 : gByte s.1.tail % 4 < 4 := by omega
  have hq2 : (gByte s.1.tail % 4).toNat < 4 := by omega
  have hq3 : ¬ (gByte s.1.tail % 4 < 0) := by omega
  have hq4 : decide ((gByte s.1.tail % 4).toNat < 4) = true := by simp; omega
  have hI : (gByte s.1.tail).tmod 4 = gByte s.1.tail % 4 := Int.tmod_eq_emod_of_nonneg hr20
  clear hy1
  have wv : (gByte s.1.tail.tail).tmod 6 = gByte s.1.tail.tail % 6 := by
    rw [show (gByte s.1.tail.tail).tmod 6 = gByte s.1.tail.tail % 6 from Int.tmod_eq_emod_of_nonneg hr30]

  have hcell : ∀ w1 : World, (w1.alloc (.cells #[.int .i64 7, .int .i64 21, .int .i64 22, .int .i64 1] 3)).cell? ⟨w1.heap.size, (gByte s.1.tail % 4).toNat, none⟩ = some (.int .i64 y) := fun w1 => by
    rw [cell_of_row _ _ _ _ _ _ (heap_alloc_new w1 _)]; exact Hy.out
  have Hy0 := Go.Lib.hid hy
  clear h hy
  go_enter Tryd.func14, Tryd.ntmps14
  go_wp2_with (first
    | (go_at_call 13; first | refine (H.out.byte).mono ?_ | refine (H.out.drew.byte).mono ?_
       rintro e w1 ⟨rfl, g⟩; have b0 := g.c0; have b1 := g.c1; have z0 := lt_of_block g.box0; have z1 := lt_of_block g.box1; have H2 := Go.Lib.hid g; clear H g; have H := H2; clear H2)
    | (go_at_call 20; first | refine (H.out.kind).mono ?_ | refine (H.out.drew.kind).mono ?_
       rintro e w1 ⟨rfl, g⟩; have b0 := g.c0; have b1 := g.c1; have z0 := lt_of_block g.box0; have z1 := lt_of_block g.box1; have H2 := Go.Lib.hid g; clear H g; have H := H2; clear H2)
    | (go_at_call 4; first | refine (H.out.put hp (by (try simp only [List.length_append, List.length_cons, List.length_nil]); omega) _ _).mono ?_ | refine (H.out.drew.put hp (by (try simp only [List.length_append, List.length_cons, List.length_nil]); omega) _ _).mono ?_
       rintro e w1 ⟨rfl, g⟩; have b0 := g.c0; have b1 := g.c1; have z0 := lt_of_block g.box0; have z1 := lt_of_block g.box1; have H2 := Go.Lib.hid g; clear H g; have H := H2; clear H2)
    | (go_at_call 7; first | refine (H.out.body hp (by (try simp only [List.length_append, List.length_cons, List.length_nil]); omega) hb).mono ?_ | refine (H.out.drew.body hp (by (try simp only [List.length_append, List.length_cons, List.length_nil]); omega) hb).mono ?_
       rintro e w1 ⟨rfl, g⟩; have b0 := g.c0; have b1 := g.c1; have z0 := lt_of_block g.box0; have z1 := lt_of_block g.box1; have H2 := Go.Lib.hid g; clear H g; have H := H2; clear H2))
  rw [show Op.load 3 (.tmp 151) = ld11 from rfl]
  have hld : ld11 = Op.load 3 (.tmp 151) := rfl
  go_region_held3 (fun W => W.cell? ⟨w.heap.size, 0, none⟩ = some (.pointer (some ⟨mb, 0, none⟩))) (first | exact H.out.c0 | exact H.out.drew.c0 | exact (H.out.alloc _).c0 | exact (H.out.drew.alloc _).c0 | exact (H.out.alloc _).drew.c0) (first
    | (go_at_call 13; first | refine (H.out.byte).mono ?_ | refine (H.out.drew.byte).mono ?_ | refine ((H.out.alloc _).byte).mono ?_ | refine ((H.out.alloc _).drew.byte).mono ?_ | refine ((H.out.drew.alloc _).byte).mono ?_ | refine ((H.out.drew.alloc _).drew.byte).mono ?_
       rintro e w1 ⟨rfl, g⟩; have b0 := g.c0; have b1 := g.c1; have z0 := lt_of_block g.box0; have z1 := lt_of_block g.box1; (try have bx := g.cx Hy.out); have H2 := Go.Lib.hid g; clear H g; have H := H2; clear H2)
    | (go_at_call 20; first | refine (H.out.kind).mono ?_ | refine (H.out.drew.kind).mono ?_ | refine ((H.out.alloc _).kind).mono ?_ | refine ((H.out.alloc _).drew.kind).mono ?_ | refine ((H.out.drew.alloc _).kind).mono ?_ | refine ((H.out.drew.alloc _).drew.kind).mono ?_
       rintro e w1 ⟨rfl, g⟩; have b0 := g.c0; have b1 := g.c1; have z0 := lt_of_block g.box0; have z1 := lt_of_block g.box1; (try have bx := g.cx Hy.out); have H2 := Go.Lib.hid g; clear H g; have H := H2; clear H2)
    | (go_at_call 4; first | refine (H.out.put hp (by (try simp only [List.length_append, List.length_cons, List.length_nil]); omega) _ _).mono ?_ | refine (H.out.drew.put hp (by (try simp only [List.length_append, List.length_cons, List.length_nil]); omega) _ _).mono ?_ | refine ((H.out.alloc _).put hp (by (try simp only [List.length_append, List.length_cons, List.length_nil]); omega) _ _).mono ?_ | refine ((H.out.alloc _).drew.put hp (by (try simp only [List.length_append, List.length_cons, List.length_nil]); omega) _ _).mono ?_ | refine ((H.out.drew.alloc _).put hp (by (try simp only [List.length_append, List.length_cons, List.length_nil]); omega) _ _).mono ?_ | refine ((H.out.drew.alloc _).drew.put hp (by (try simp only [List.length_append, List.length_cons, List.length_nil]); omega) _ _).mono ?_
       rintro e w1 ⟨rfl, g⟩; have b0 := g.c0; have b1 := g.c1; have z0 := lt_of_block g.box0; have z1 := lt_of_block g.box1; (try have bx := g.cx Hy.out); have H2 := Go.Lib.hid g; clear H g; have H := H2; clear H2)
    | (go_at_call 7; first | refine (H.out.body hp (by (try simp only [List.length_append, List.length_cons, List.length_nil]); omega) hb).mono ?_ | refine (H.out.drew.body hp (by (try simp only [List.length_append, List.length_cons, List.length_nil]); omega) hb).mono ?_ | refine ((H.out.alloc _).body hp (by (try simp only [List.length_append, List.length_cons, List.length_nil]); omega) hb).mono ?_ | refine ((H.out.alloc _).drew.body hp (by (try simp only [List.length_append, List.length_cons, List.length_nil]); omega) hb).mono ?_ | refine ((H.out.drew.alloc _).body hp (by (try simp only [List.length_append, List.length_cons, List.length_nil]); omega) hb).mono ?_ | refine ((H.out.drew.alloc _).drew.body hp (by (try simp only [List.length_append, List.length_cons, List.length_nil]); omega) hb).mono ?_
       rintro e w1 ⟨rfl, g⟩; have b0 := g.c0; have b1 := g.c1; have z0 := lt_of_block g.box0; have z1 := lt_of_block g.box1; (try have bx := g.cx Hy.out); have H2 := Go.Lib.hid g; clear H g; have H := H2; clear H2))
  all_goals go_end0
  all_goals
    have e : (gCase body 11 (s.1.tail, s.2)) = (s.1.tail.tail.tail, s.2 ++ [⟨y, gByte s.1.tail.tail % 6, false⟩]) := by
      show (s.1.tail.tail.tail, s.2 ++ [(⟨opsList11[(gByte s.1.tail % 4).toNat]?.getD 7, gByte s.1.tail.tail % 6, false⟩ : RI)]) = _
      rw [Hy0.out]; rfl
    rw [e]
    have G := H.out.gen
    try simp only [wv] at G
    exact ⟨rfl, G, H.out.keep⟩

end Go.Proofs.YtkhicabfmkldpaaDoor
