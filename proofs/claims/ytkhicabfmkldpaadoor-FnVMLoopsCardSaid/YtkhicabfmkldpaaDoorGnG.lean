/- The generator: the plain statements. -/
import Derived.Test.YtkhicabfmkldpaaDoorGn
import Derived.Deep.RegionHeld3
namespace Go.Proofs.YtkhicabfmkldpaaDoor
open Go.RowKit

def ld10 : Op := .load 3 (.tmp 137)
def ld11 : Op := .load 3 (.tmp 151)
def ld12 : Op := .load 3 (.tmp 164)

theorem wrap_i64_near (n : Int) (h0 : -1000 ≤ n) (h1 : n < 1000) : IntKind.i64.wrap n = n := by
  simp [IntKind.wrap, IntKind.bits, IntKind.signed]
  omega

theorem GenAt.dropRange {D B mb : Nat} {code : List Int} {ins : List (Int × Int)} {base : Int} {w : World} (h : GenAt D B mb code ins base w) (k : Nat) : 0 ≤ gByte (code.drop k) ∧ gByte (code.drop k) < 256 := by
  obtain ⟨_, _, _, ⟨da, cap, _, hd⟩, _⟩ := h.box
  cases hc : code.drop k with
  | nil => exact ⟨by simp [gByte], by simp [gByte]⟩
  | cons c r =>
    have : code[k]? = some c := by rw [← List.head?_drop, hc]; rfl
    obtain ⟨_, _, _, _, _, h1, h2⟩ := hd.at' k c this
    exact ⟨h1, h2⟩
theorem GenAt.tailRange {D B mb : Nat} {code : List Int} {ins : List (Int × Int)} {base : Int} {w : World} (h : GenAt D B mb code ins base w) : 0 ≤ gByte code.tail ∧ gByte code.tail < 256 := by
  have := h.dropRange 1
  simpa using this
theorem GenAt.tailRange2 {D B mb : Nat} {code : List Int} {ins : List (Int × Int)} {base : Int} {w : World} (h : GenAt D B mb code ins base w) : 0 ≤ gByte code.tail.tail ∧ gByte code.tail.tail < 256 := by
  have := h.dropRange 2
  rw [show code.drop 2 = code.tail.tail by cases code <;> simp [List.drop_one]] at this
  exact this

set_option maxRecDepth 100000 in
set_option maxHeartbeats 16000000 in
theorem stm0_n0 {D B mb : Nat} {d : Int} {pre : List (Int × Int)} {s : GS} {w : World} (h : GenAt D B mb s.1 (abs pre s.2) (pre.length : Int) w) (hp : pre.length ≤ 100) (hl : s.2.length < 120)
    (hd : decide (3 ≤ d) = false) (_hd0 : 0 ≤ d) (_hd3 : d ≤ 3) (hc : gByte s.1 % 16 = 0) {body : GS → GS} :
    Calls Tryd.prog 14 #[.pointer (some ⟨mb, 0, none⟩), .int .i64 d] w (GPost D B mb (gCase body 0 (s.1.tail, s.2)).1 (abs pre (gCase body 0 (s.1.tail, s.2)).2) (pre.length : Int) (.tuple #[]) w) := by
  have hr := h.range
  have H := Go.Lib.hid (StAt.begin (d := d) h)
  have b0 := H.out.c0
  have b1 := H.out.c1
  clear h
  go_enter Tryd.func14, Tryd.ntmps14
  go_wp2_with (first
    | (go_at_call 13; first | refine (H.out.byte).mono ?_ | refine (H.out.drew.byte).mono ?_
       rintro e w1 ⟨rfl, g⟩; have b0 := g.c0; have b1 := g.c1; have z0 := lt_of_block g.box0; have z1 := lt_of_block g.box1; have H2 := Go.Lib.hid g; clear H g; have H := H2; clear H2)
    | (go_at_call 20; first | refine (H.out.kind).mono ?_ | refine (H.out.drew.kind).mono ?_
       rintro e w1 ⟨rfl, g⟩; have b0 := g.c0; have b1 := g.c1; have z0 := lt_of_block g.box0; have z1 := lt_of_block g.box1; have H2 := Go.Lib.hid g; clear H g; have H := H2; clear H2)
    | (go_at_call 4; first | refine (H.out.put hp (by (try simp only [List.length_append, List.length_cons, List.length_nil]); omega) _ _).mono ?_ | refine (H.out.drew.put hp (by (try simp only [List.length_append, List.length_cons, List.length_nil]); omega) _ _).mono ?_
       rintro e w1 ⟨rfl, g⟩; have b0 := g.c0; have b1 := g.c1; have z0 := lt_of_block g.box0; have z1 := lt_of_block g.box1; have H2 := Go.Lib.hid g; clear H g; have H := H2; clear H2)
    | (go_at_call 7; first | refine (H.out.body hp (by (try simp only [List.length_append, List.length_cons, List.length_nil]); omega) hb).mono ?_ | refine (H.out.drew.body hp (by (try simp only [List.length_append, List.length_cons, List.length_nil]); omega) hb).mono ?_
       rintro e w1 ⟨rfl, g⟩; have b0 := g.c0; have b1 := g.c1; have z0 := lt_of_block g.box0; have z1 := lt_of_block g.box1; have H2 := Go.Lib.hid g; clear H g; have H := H2; clear H2))
  go_region_held3 (fun W => W.cell? ⟨w.heap.size, 0, none⟩ = some (.pointer (some ⟨mb, 0, none⟩))) (first | exact H.out.c0 | exact H.out.drew.c0 | exact (H.out.alloc _).c0 | exact (H.out.drew.alloc _).c0 | exact (H.out.alloc _).drew.c0) (first
    | (go_at_call 13; first | refine (H.out.byte).mono ?_ | refine (H.out.drew.byte).mono ?_
       rintro e w1 ⟨rfl, g⟩; have b0 := g.c0; have b1 := g.c1; have z0 := lt_of_block g.box0; have z1 := lt_of_block g.box1; have H2 := Go.Lib.hid g; clear H g; have H := H2; clear H2)
    | (go_at_call 20; first | refine (H.out.kind).mono ?_ | refine (H.out.drew.kind).mono ?_
       rintro e w1 ⟨rfl, g⟩; have b0 := g.c0; have b1 := g.c1; have z0 := lt_of_block g.box0; have z1 := lt_of_block g.box1; have H2 := Go.Lib.hid g; clear H g; have H := H2; clear H2)
    | (go_at_call 4; first | refine (H.out.put hp (by (try simp only [List.length_append, List.length_cons, List.length_nil]); omega) _ _).mono ?_ | refine (H.out.drew.put hp (by (try simp only [List.length_append, List.length_cons, List.length_nil]); omega) _ _).mono ?_
       rintro e w1 ⟨rfl, g⟩; have b0 := g.c0; have b1 := g.c1; have z0 := lt_of_block g.box0; have z1 := lt_of_block g.box1; have H2 := Go.Lib.hid g; clear H g; have H := H2; clear H2)
    | (go_at_call 7; first | refine (H.out.body hp (by (try simp only [List.length_append, List.length_cons, List.length_nil]); omega) hb).mono ?_ | refine (H.out.drew.body hp (by (try simp only [List.length_append, List.length_cons, List.length_nil]); omega) hb).mono ?_
       rintro e w1 ⟨rfl, g⟩; have b0 := g.c0; have b1 := g.c1; have z0 := lt_of_block g.box0; have z1 := lt_of_block g.box1; have H2 := Go.Lib.hid g; clear H g; have H := H2; clear H2))
  all_goals go_end0
  all_goals exact ⟨rfl, H.out.gen, H.out.keep⟩

set_option maxRecDepth 100000 in
set_option maxHeartbeats 16000000 in
theorem stm1_n1 {D B mb : Nat} {d : Int} {pre : List (Int × Int)} {s : GS} {w : World} (h : GenAt D B mb s.1 (abs pre s.2) (pre.length : Int) w) (hp : pre.length ≤ 100) (hl : s.2.length < 120)
    (hd : decide (3 ≤ d) = false) (_hd0 : 0 ≤ d) (_hd3 : d ≤ 3) (hc : gByte s.1 % 16 = 1) {body : GS → GS} :
    Calls Tryd.prog 14 #[.pointer (some ⟨mb, 0, none⟩), .int .i64 d] w (GPost D B mb (gCase body 1 (s.1.tail, s.2)).1 (abs pre (gCase body 1 (s.1.tail, s.2)).2) (pre.length : Int) (.tuple #[]) w) := by
  have hr := h.range
  have H := Go.Lib.hid (StAt.begin (d := d) h)
  have b0 := H.out.c0
  have b1 := H.out.c1
  clear h
  go_enter Tryd.func14, Tryd.ntmps14
  go_wp2_with (first
    | (go_at_call 13; first | refine (H.out.byte).mono ?_ | refine (H.out.drew.byte).mono ?_
       rintro e w1 ⟨rfl, g⟩; have b0 := g.c0; have b1 := g.c1; have z0 := lt_of_block g.box0; have z1 := lt_of_block g.box1; have H2 := Go.Lib.hid g; clear H g; have H := H2; clear H2)
    | (go_at_call 20; first | refine (H.out.kind).mono ?_ | refine (H.out.drew.kind).mono ?_
       rintro e w1 ⟨rfl, g⟩; have b0 := g.c0; have b1 := g.c1; have z0 := lt_of_block g.box0; have z1 := lt_of_block g.box1; have H2 := Go.Lib.hid g; clear H g; have H := H2; clear H2)
    | (go_at_call 4; first | refine (H.out.put hp (by (try simp only [List.length_append, List.length_cons, List.length_nil]); omega) _ _).mono ?_ | refine (H.out.drew.put hp (by (try simp only [List.length_append, List.length_cons, List.length_nil]); omega) _ _).mono ?_
       rintro e w1 ⟨rfl, g⟩; have b0 := g.c0; have b1 := g.c1; have z0 := lt_of_block g.box0; have z1 := lt_of_block g.box1; have H2 := Go.Lib.hid g; clear H g; have H := H2; clear H2)
    | (go_at_call 7; first | refine (H.out.body hp (by (try simp only [List.length_append, List.length_cons, List.length_nil]); omega) hb).mono ?_ | refine (H.out.drew.body hp (by (try simp only [List.length_append, List.length_cons, List.length_nil]); omega) hb).mono ?_
       rintro e w1 ⟨rfl, g⟩; have b0 := g.c0; have b1 := g.c1; have z0 := lt_of_block g.box0; have z1 := lt_of_block g.box1; have H2 := Go.Lib.hid g; clear H g; have H := H2; clear H2))
  go_region_held3 (fun W => W.cell? ⟨w.heap.size, 0, none⟩ = some (.pointer (some ⟨mb, 0, none⟩))) (first | exact H.out.c0 | exact H.out.drew.c0 | exact (H.out.alloc _).c0 | exact (H.out.drew.alloc _).c0 | exact (H.out.alloc _).drew.c0) (first
    | (go_at_call 13; first | refine (H.out.byte).mono ?_ | refine (H.out.drew.byte).mono ?_
       rintro e w1 ⟨rfl, g⟩; have b0 := g.c0; have b1 := g.c1; have z0 := lt_of_block g.box0; have z1 := lt_of_block g.box1; have H2 := Go.Lib.hid g; clear H g; have H := H2; clear H2)
    | (go_at_call 20; first | refine (H.out.kind).mono ?_ | refine (H.out.drew.kind).mono ?_
       rintro e w1 ⟨rfl, g⟩; have b0 := g.c0; have b1 := g.c1; have z0 := lt_of_block g.box0; have z1 := lt_of_block g.box1; have H2 := Go.Lib.hid g; clear H g; have H := H2; clear H2)
    | (go_at_call 4; first | refine (H.out.put hp (by (try simp only [List.length_append, List.length_cons, List.length_nil]); omega) _ _).mono ?_ | refine (H.out.drew.put hp (by (try simp only [List.length_append, List.length_cons, List.length_nil]); omega) _ _).mono ?_
       rintro e w1 ⟨rfl, g⟩; have b0 := g.c0; have b1 := g.c1; have z0 := lt_of_block g.box0; have z1 := lt_of_block g.box1; have H2 := Go.Lib.hid g; clear H g; have H := H2; clear H2)
    | (go_at_call 7; first | refine (H.out.body hp (by (try simp only [List.length_append, List.length_cons, List.length_nil]); omega) hb).mono ?_ | refine (H.out.drew.body hp (by (try simp only [List.length_append, List.length_cons, List.length_nil]); omega) hb).mono ?_
       rintro e w1 ⟨rfl, g⟩; have b0 := g.c0; have b1 := g.c1; have z0 := lt_of_block g.box0; have z1 := lt_of_block g.box1; have H2 := Go.Lib.hid g; clear H g; have H := H2; clear H2))
  all_goals go_end0
  all_goals exact ⟨rfl, H.out.gen, H.out.keep⟩

set_option maxRecDepth 100000 in
set_option maxHeartbeats 16000000 in
theorem stm2_n2 {D B mb : Nat} {d : Int} {pre : List (Int × Int)} {s : GS} {w : World} (h : GenAt D B mb s.1 (abs pre s.2) (pre.length : Int) w) (hp : pre.length ≤ 100) (hl : s.2.length < 120)
    (hd : decide (3 ≤ d) = false) (_hd0 : 0 ≤ d) (_hd3 : d ≤ 3) (hc : gByte s.1 % 16 = 2) {body : GS → GS} :
    Calls Tryd.prog 14 #[.pointer (some ⟨mb, 0, none⟩), .int .i64 d] w (GPost D B mb (gCase body 2 (s.1.tail, s.2)).1 (abs pre (gCase body 2 (s.1.tail, s.2)).2) (pre.length : Int) (.tuple #[]) w) := by
  have hr := h.range
  have H := Go.Lib.hid (StAt.begin (d := d) h)
  have b0 := H.out.c0
  have b1 := H.out.c1
  clear h
  go_enter Tryd.func14, Tryd.ntmps14
  go_wp2_with (first
    | (go_at_call 13; first | refine (H.out.byte).mono ?_ | refine (H.out.drew.byte).mono ?_
       rintro e w1 ⟨rfl, g⟩; have b0 := g.c0; have b1 := g.c1; have z0 := lt_of_block g.box0; have z1 := lt_of_block g.box1; have H2 := Go.Lib.hid g; clear H g; have H := H2; clear H2)
    | (go_at_call 20; first | refine (H.out.kind).mono ?_ | refine (H.out.drew.kind).mono ?_
       rintro e w1 ⟨rfl, g⟩; have b0 := g.c0; have b1 := g.c1; have z0 := lt_of_block g.box0; have z1 := lt_of_block g.box1; have H2 := Go.Lib.hid g; clear H g; have H := H2; clear H2)
    | (go_at_call 4; first | refine (H.out.put hp (by (try simp only [List.length_append, List.length_cons, List.length_nil]); omega) _ _).mono ?_ | refine (H.out.drew.put hp (by (try simp only [List.length_append, List.length_cons, List.length_nil]); omega) _ _).mono ?_
       rintro e w1 ⟨rfl, g⟩; have b0 := g.c0; have b1 := g.c1; have z0 := lt_of_block g.box0; have z1 := lt_of_block g.box1; have H2 := Go.Lib.hid g; clear H g; have H := H2; clear H2)
    | (go_at_call 7; first | refine (H.out.body hp (by (try simp only [List.length_append, List.length_cons, List.length_nil]); omega) hb).mono ?_ | refine (H.out.drew.body hp (by (try simp only [List.length_append, List.length_cons, List.length_nil]); omega) hb).mono ?_
       rintro e w1 ⟨rfl, g⟩; have b0 := g.c0; have b1 := g.c1; have z0 := lt_of_block g.box0; have z1 := lt_of_block g.box1; have H2 := Go.Lib.hid g; clear H g; have H := H2; clear H2))
  go_end0
  exact ⟨rfl, H.out.gen, H.out.keep⟩

set_option maxRecDepth 100000 in
set_option maxHeartbeats 16000000 in
theorem stm3_n3 {D B mb : Nat} {d : Int} {pre : List (Int × Int)} {s : GS} {w : World} (h : GenAt D B mb s.1 (abs pre s.2) (pre.length : Int) w) (hp : pre.length ≤ 100) (hl : s.2.length < 120)
    (hd : decide (3 ≤ d) = false) (_hd0 : 0 ≤ d) (_hd3 : d ≤ 3) (hc : gByte s.1 % 16 = 3) {body : GS → GS} :
    Calls Tryd.prog 14 #[.pointer (some ⟨mb, 0, none⟩), .int .i64 d] w (GPost D B mb (gCase body 3 (s.1.tail, s.2)).1 (abs pre (gCase body 3 (s.1.tail, s.2)).2) (pre.length : Int) (.tuple #[]) w) := by
  have hr := h.range
  have H := Go.Lib.hid (StAt.begin (d := d) h)
  have b0 := H.out.c0
  have b1 := H.out.c1
  clear h
  go_enter Tryd.func14, Tryd.ntmps14
  go_wp2_with (first
    | (go_at_call 13; first | refine (H.out.byte).mono ?_ | refine (H.out.drew.byte).mono ?_
       rintro e w1 ⟨rfl, g⟩; have b0 := g.c0; have b1 := g.c1; have z0 := lt_of_block g.box0; have z1 := lt_of_block g.box1; have H2 := Go.Lib.hid g; clear H g; have H := H2; clear H2)
    | (go_at_call 20; first | refine (H.out.kind).mono ?_ | refine (H.out.drew.kind).mono ?_
       rintro e w1 ⟨rfl, g⟩; have b0 := g.c0; have b1 := g.c1; have z0 := lt_of_block g.box0; have z1 := lt_of_block g.box1; have H2 := Go.Lib.hid g; clear H g; have H := H2; clear H2)
    | (go_at_call 4; first | refine (H.out.put hp (by (try simp only [List.length_append, List.length_cons, List.length_nil]); omega) _ _).mono ?_ | refine (H.out.drew.put hp (by (try simp only [List.length_append, List.length_cons, List.length_nil]); omega) _ _).mono ?_
       rintro e w1 ⟨rfl, g⟩; have b0 := g.c0; have b1 := g.c1; have z0 := lt_of_block g.box0; have z1 := lt_of_block g.box1; have H2 := Go.Lib.hid g; clear H g; have H := H2; clear H2)
    | (go_at_call 7; first | refine (H.out.body hp (by (try simp only [List.length_append, List.length_cons, List.length_nil]); omega) hb).mono ?_ | refine (H.out.drew.body hp (by (try simp only [List.length_append, List.length_cons, List.length_nil]); omega) hb).mono ?_
       rintro e w1 ⟨rfl, g⟩; have b0 := g.c0; have b1 := g.c1; have z0 := lt_of_block g.box0; have z1 := lt_of_block g.box1; have H2 := Go.Lib.hid g; clear H g; have H := H2; clear H2))
  go_end0
  exact ⟨rfl, H.out.gen, H.out.keep⟩

set_option maxRecDepth 100000 in
set_option maxHeartbeats 16000000 in
theorem stm4_n4 {D B mb : Nat} {d : Int} {pre : List (Int × Int)} {s : GS} {w : World} (h : GenAt D B mb s.1 (abs pre s.2) (pre.length : Int) w) (hp : pre.length ≤ 100) (hl : s.2.length < 120)
    (hd : decide (3 ≤ d) = false) (_hd0 : 0 ≤ d) (_hd3 : d ≤ 3) (hc : gByte s.1 % 16 = 4) {body : GS → GS} :
    Calls Tryd.prog 14 #[.pointer (some ⟨mb, 0, none⟩), .int .i64 d] w (GPost D B mb (gCase body 4 (s.1.tail, s.2)).1 (abs pre (gCase body 4 (s.1.tail, s.2)).2) (pre.length : Int) (.tuple #[]) w) := by
  have hr := h.range
  have H := Go.Lib.hid (StAt.begin (d := d) h)
  have b0 := H.out.c0
  have b1 := H.out.c1
  clear h
  go_enter Tryd.func14, Tryd.ntmps14
  go_wp2_with (first
    | (go_at_call 13; first | refine (H.out.byte).mono ?_ | refine (H.out.drew.byte).mono ?_
       rintro e w1 ⟨rfl, g⟩; have b0 := g.c0; have b1 := g.c1; have z0 := lt_of_block g.box0; have z1 := lt_of_block g.box1; have H2 := Go.Lib.hid g; clear H g; have H := H2; clear H2)
    | (go_at_call 20; first | refine (H.out.kind).mono ?_ | refine (H.out.drew.kind).mono ?_
       rintro e w1 ⟨rfl, g⟩; have b0 := g.c0; have b1 := g.c1; have z0 := lt_of_block g.box0; have z1 := lt_of_block g.box1; have H2 := Go.Lib.hid g; clear H g; have H := H2; clear H2)
    | (go_at_call 4; first | refine (H.out.put hp (by (try simp only [List.length_append, List.length_cons, List.length_nil]); omega) _ _).mono ?_ | refine (H.out.drew.put hp (by (try simp only [List.length_append, List.length_cons, List.length_nil]); omega) _ _).mono ?_
       rintro e w1 ⟨rfl, g⟩; have b0 := g.c0; have b1 := g.c1; have z0 := lt_of_block g.box0; have z1 := lt_of_block g.box1; have H2 := Go.Lib.hid g; clear H g; have H := H2; clear H2)
    | (go_at_call 7; first | refine (H.out.body hp (by (try simp only [List.length_append, List.length_cons, List.length_nil]); omega) hb).mono ?_ | refine (H.out.drew.body hp (by (try simp only [List.length_append, List.length_cons, List.length_nil]); omega) hb).mono ?_
       rintro e w1 ⟨rfl, g⟩; have b0 := g.c0; have b1 := g.c1; have z0 := lt_of_block g.box0; have z1 := lt_of_block g.box1; have H2 := Go.Lib.hid g; clear H g; have H := H2; clear H2))
  go_end0
  exact ⟨rfl, H.out.gen, H.out.keep⟩

set_option maxRecDepth 100000 in
set_option maxHeartbeats 16000000 in
theorem stm5_n5 {D B mb : Nat} {d : Int} {pre : List (Int × Int)} {s : GS} {w : World} (h : GenAt D B mb s.1 (abs pre s.2) (pre.length : Int) w) (hp : pre.length ≤ 100) (hl : s.2.length < 120)
    (hd : decide (3 ≤ d) = false) (_hd0 : 0 ≤ d) (_hd3 : d ≤ 3) (hc : gByte s.1 % 16 = 5) {body : GS → GS} :
    Calls Tryd.prog 14 #[.pointer (some ⟨mb, 0, none⟩), .int .i64 d] w (GPost D B mb (gCase body 5 (s.1.tail, s.2)).1 (abs pre (gCase body 5 (s.1.tail, s.2)).2) (pre.length : Int) (.tuple #[]) w) := by
  have hr := h.range
  have H := Go.Lib.hid (StAt.begin (d := d) h)
  have b0 := H.out.c0
  have b1 := H.out.c1
  clear h
  go_enter Tryd.func14, Tryd.ntmps14
  go_wp2_with (first
    | (go_at_call 13; first | refine (H.out.byte).mono ?_ | refine (H.out.drew.byte).mono ?_
       rintro e w1 ⟨rfl, g⟩; have b0 := g.c0; have b1 := g.c1; have z0 := lt_of_block g.box0; have z1 := lt_of_block g.box1; have H2 := Go.Lib.hid g; clear H g; have H := H2; clear H2)
    | (go_at_call 20; first | refine (H.out.kind).mono ?_ | refine (H.out.drew.kind).mono ?_
       rintro e w1 ⟨rfl, g⟩; have b0 := g.c0; have b1 := g.c1; have z0 := lt_of_block g.box0; have z1 := lt_of_block g.box1; have H2 := Go.Lib.hid g; clear H g; have H := H2; clear H2)
    | (go_at_call 4; first | refine (H.out.put hp (by (try simp only [List.length_append, List.length_cons, List.length_nil]); omega) _ _).mono ?_ | refine (H.out.drew.put hp (by (try simp only [List.length_append, List.length_cons, List.length_nil]); omega) _ _).mono ?_
       rintro e w1 ⟨rfl, g⟩; have b0 := g.c0; have b1 := g.c1; have z0 := lt_of_block g.box0; have z1 := lt_of_block g.box1; have H2 := Go.Lib.hid g; clear H g; have H := H2; clear H2)
    | (go_at_call 7; first | refine (H.out.body hp (by (try simp only [List.length_append, List.length_cons, List.length_nil]); omega) hb).mono ?_ | refine (H.out.drew.body hp (by (try simp only [List.length_append, List.length_cons, List.length_nil]); omega) hb).mono ?_
       rintro e w1 ⟨rfl, g⟩; have b0 := g.c0; have b1 := g.c1; have z0 := lt_of_block g.box0; have z1 := lt_of_block g.box1; have H2 := Go.Lib.hid g; clear H g; have H := H2; clear H2))
  go_end0
  exact ⟨rfl, H.out.gen, H.out.keep⟩

set_option maxRecDepth 100000 in
set_option maxHeartbeats 16000000 in
theorem stm0_l0 {D B mb : Nat} {d : Int} {pre : List (Int × Int)} {s : GS} {w : World} (h : GenAt D B mb s.1 (abs pre s.2) (pre.length : Int) w) (hp : pre.length ≤ 100) (hl : s.2.length < 120)
    (hd : decide (3 ≤ d) = true) (_hd0 : 0 ≤ d) (_hd3 : d ≤ 3) (hc : gByte s.1 % 16 = 0) {body : GS → GS} :
    Calls Tryd.prog 14 #[.pointer (some ⟨mb, 0, none⟩), .int .i64 d] w (GPost D B mb (gCase body 0 (s.1.tail, s.2)).1 (abs pre (gCase body 0 (s.1.tail, s.2)).2) (pre.length : Int) (.tuple #[]) w) := by
  have hr := h.range
  have H := Go.Lib.hid (StAt.begin (d := d) h)
  have b0 := H.out.c0
  have b1 := H.out.c1
  clear h
  go_enter Tryd.func14, Tryd.ntmps14
  go_wp2_with (first
    | (go_at_call 13; first | refine (H.out.byte).mono ?_ | refine (H.out.drew.byte).mono ?_
       rintro e w1 ⟨rfl, g⟩; have b0 := g.c0; have b1 := g.c1; have z0 := lt_of_block g.box0; have z1 := lt_of_block g.box1; have H2 := Go.Lib.hid g; clear H g; have H := H2; clear H2)
    | (go_at_call 20; first | refine (H.out.kind).mono ?_ | refine (H.out.drew.kind).mono ?_
       rintro e w1 ⟨rfl, g⟩; have b0 := g.c0; have b1 := g.c1; have z0 := lt_of_block g.box0; have z1 := lt_of_block g.box1; have H2 := Go.Lib.hid g; clear H g; have H := H2; clear H2)
    | (go_at_call 4; first | refine (H.out.put hp (by (try simp only [List.length_append, List.length_cons, List.length_nil]); omega) _ _).mono ?_ | refine (H.out.drew.put hp (by (try simp only [List.length_append, List.length_cons, List.length_nil]); omega) _ _).mono ?_
       rintro e w1 ⟨rfl, g⟩; have b0 := g.c0; have b1 := g.c1; have z0 := lt_of_block g.box0; have z1 := lt_of_block g.box1; have H2 := Go.Lib.hid g; clear H g; have H := H2; clear H2)
    | (go_at_call 7; first | refine (H.out.body hp (by (try simp only [List.length_append, List.length_cons, List.length_nil]); omega) hb).mono ?_ | refine (H.out.drew.body hp (by (try simp only [List.length_append, List.length_cons, List.length_nil]); omega) hb).mono ?_
       rintro e w1 ⟨rfl, g⟩; have b0 := g.c0; have b1 := g.c1; have z0 := lt_of_block g.box0; have z1 := lt_of_block g.box1; have H2 := Go.Lib.hid g; clear H g; have H := H2; clear H2))
  go_region_held3 (fun W => W.cell? ⟨w.heap.size, 0, none⟩ = some (.pointer (some ⟨mb, 0, none⟩))) (first | exact H.out.c0 | exact H.out.drew.c0 | exact (H.out.alloc _).c0 | exact (H.out.drew.alloc _).c0 | exact (H.out.alloc _).drew.c0) (first
    | (go_at_call 13; first | refine (H.out.byte).mono ?_ | refine (H.out.drew.byte).mono ?_
       rintro e w1 ⟨rfl, g⟩; have b0 := g.c0; have b1 := g.c1; have z0 := lt_of_block g.box0; have z1 := lt_of_block g.box1; have H2 := Go.Lib.hid g; clear H g; have H := H2; clear H2)
    | (go_at_call 20; first | refine (H.out.kind).mono ?_ | refine (H.out.drew.kind).mono ?_
       rintro e w1 ⟨rfl, g⟩; have b0 := g.c0; have b1 := g.c1; have z0 := lt_of_block g.box0; have z1 := lt_of_block g.box1; have H2 := Go.Lib.hid g; clear H g; have H := H2; clear H2)
    | (go_at_call 4; first | refine (H.out.put hp (by (try simp only [List.length_append, List.length_cons, List.length_nil]); omega) _ _).mono ?_ | refine (H.out.drew.put hp (by (try simp only [List.length_append, List.length_cons, List.length_nil]); omega) _ _).mono ?_
       rintro e w1 ⟨rfl, g⟩; have b0 := g.c0; have b1 := g.c1; have z0 := lt_of_block g.box0; have z1 := lt_of_block g.box1; have H2 := Go.Lib.hid g; clear H g; have H := H2; clear H2)
    | (go_at_call 7; first | refine (H.out.body hp (by (try simp only [List.length_append, List.length_cons, List.length_nil]); omega) hb).mono ?_ | refine (H.out.drew.body hp (by (try simp only [List.length_append, List.length_cons, List.length_nil]); omega) hb).mono ?_
       rintro e w1 ⟨rfl, g⟩; have b0 := g.c0; have b1 := g.c1; have z0 := lt_of_block g.box0; have z1 := lt_of_block g.box1; have H2 := Go.Lib.hid g; clear H g; have H := H2; clear H2))
  all_goals go_end0
  all_goals exact ⟨rfl, H.out.gen, H.out.keep⟩

set_option maxRecDepth 100000 in
set_option maxHeartbeats 16000000 in
theorem stm1_l1 {D B mb : Nat} {d : Int} {pre : List (Int × Int)} {s : GS} {w : World} (h : GenAt D B mb s.1 (abs pre s.2) (pre.length : Int) w) (hp : pre.length ≤ 100) (hl : s.2.length < 120)
    (hd : decide (3 ≤ d) = true) (_hd0 : 0 ≤ d) (_hd3 : d ≤ 3) (hc : gByte s.1 % 16 = 1) {body : GS → GS} :
    Calls Tryd.prog 14 #[.pointer (some ⟨mb, 0, none⟩), .int .i64 d] w (GPost D B mb (gCase body 1 (s.1.tail, s.2)).1 (abs pre (gCase body 1 (s.1.tail, s.2)).2) (pre.length : Int) (.tuple #[]) w) := by
  have hr := h.range
  have H := Go.Lib.hid (StAt.begin (d := d) h)
  have b0 := H.out.c0
  have b1 := H.out.c1
  clear h
  go_enter Tryd.func14, Tryd.ntmps14
  go_wp2_with (first
    | (go_at_call 13; first | refine (H.out.byte).mono ?_ | refine (H.out.drew.byte).mono ?_
       rintro e w1 ⟨rfl, g⟩; have b0 := g.c0; have b1 := g.c1; have z0 := lt_of_block g.box0; have z1 := lt_of_block g.box1; have H2 := Go.Lib.hid g; clear H g; have H := H2; clear H2)
    | (go_at_call 20; first | refine (H.out.kind).mono ?_ | refine (H.out.drew.kind).mono ?_
       rintro e w1 ⟨rfl, g⟩; have b0 := g.c0; have b1 := g.c1; have z0 := lt_of_block g.box0; have z1 := lt_of_block g.box1; have H2 := Go.Lib.hid g; clear H g; have H := H2; clear H2)
    | (go_at_call 4; first | refine (H.out.put hp (by (try simp only [List.length_append, List.length_cons, List.length_nil]); omega) _ _).mono ?_ | refine (H.out.drew.put hp (by (try simp only [List.length_append, List.length_cons, List.length_nil]); omega) _ _).mono ?_
       rintro e w1 ⟨rfl, g⟩; have b0 := g.c0; have b1 := g.c1; have z0 := lt_of_block g.box0; have z1 := lt_of_block g.box1; have H2 := Go.Lib.hid g; clear H g; have H := H2; clear H2)
    | (go_at_call 7; first | refine (H.out.body hp (by (try simp only [List.length_append, List.length_cons, List.length_nil]); omega) hb).mono ?_ | refine (H.out.drew.body hp (by (try simp only [List.length_append, List.length_cons, List.length_nil]); omega) hb).mono ?_
       rintro e w1 ⟨rfl, g⟩; have b0 := g.c0; have b1 := g.c1; have z0 := lt_of_block g.box0; have z1 := lt_of_block g.box1; have H2 := Go.Lib.hid g; clear H g; have H := H2; clear H2))
  go_region_held3 (fun W => W.cell? ⟨w.heap.size, 0, none⟩ = some (.pointer (some ⟨mb, 0, none⟩))) (first | exact H.out.c0 | exact H.out.drew.c0 | exact (H.out.alloc _).c0 | exact (H.out.drew.alloc _).c0 | exact (H.out.alloc _).drew.c0) (first
    | (go_at_call 13; first | refine (H.out.byte).mono ?_ | refine (H.out.drew.byte).mono ?_
       rintro e w1 ⟨rfl, g⟩; have b0 := g.c0; have b1 := g.c1; have z0 := lt_of_block g.box0; have z1 := lt_of_block g.box1; have H2 := Go.Lib.hid g; clear H g; have H := H2; clear H2)
    | (go_at_call 20; first | refine (H.out.kind).mono ?_ | refine (H.out.drew.kind).mono ?_
       rintro e w1 ⟨rfl, g⟩; have b0 := g.c0; have b1 := g.c1; have z0 := lt_of_block g.box0; have z1 := lt_of_block g.box1; have H2 := Go.Lib.hid g; clear H g; have H := H2; clear H2)
    | (go_at_call 4; first | refine (H.out.put hp (by (try simp only [List.length_append, List.length_cons, List.length_nil]); omega) _ _).mono ?_ | refine (H.out.drew.put hp (by (try simp only [List.length_append, List.length_cons, List.length_nil]); omega) _ _).mono ?_
       rintro e w1 ⟨rfl, g⟩; have b0 := g.c0; have b1 := g.c1; have z0 := lt_of_block g.box0; have z1 := lt_of_block g.box1; have H2 := Go.Lib.hid g; clear H g; have H := H2; clear H2)
    | (go_at_call 7; first | refine (H.out.body hp (by (try simp only [List.length_append, List.length_cons, List.length_nil]); omega) hb).mono ?_ | refine (H.out.drew.body hp (by (try simp only [List.length_append, List.length_cons, List.length_nil]); omega) hb).mono ?_
       rintro e w1 ⟨rfl, g⟩; have b0 := g.c0; have b1 := g.c1; have z0 := lt_of_block g.box0; have z1 := lt_of_block g.box1; have H2 := Go.Lib.hid g; clear H g; have H := H2; clear H2))
  all_goals go_end0
  all_goals exact ⟨rfl, H.out.gen, H.out.keep⟩

set_option maxRecDepth 100000 in
set_option maxHeartbeats 16000000 in
theorem stm2_l2 {D B mb : Nat} {d : Int} {pre : List (Int × Int)} {s : GS} {w : World} (h : GenAt D B mb s.1 (abs pre s.2) (pre.length : Int) w) (hp : pre.length ≤ 100) (hl : s.2.length < 120)
    (hd : decide (3 ≤ d) = true) (_hd0 : 0 ≤ d) (_hd3 : d ≤ 3) (hc : gByte s.1 % 16 = 2) {body : GS → GS} :
    Calls Tryd.prog 14 #[.pointer (some ⟨mb, 0, none⟩), .int .i64 d] w (GPost D B mb (gCase body 2 (s.1.tail, s.2)).1 (abs pre (gCase body 2 (s.1.tail, s.2)).2) (pre.length : Int) (.tuple #[]) w) := by
  have hr := h.range
  have H := Go.Lib.hid (StAt.begin (d := d) h)
  have b0 := H.out.c0
  have b1 := H.out.c1
  clear h
  go_enter Tryd.func14, Tryd.ntmps14
  go_wp2_with (first
    | (go_at_call 13; first | refine (H.out.byte).mono ?_ | refine (H.out.drew.byte).mono ?_
       rintro e w1 ⟨rfl, g⟩; have b0 := g.c0; have b1 := g.c1; have z0 := lt_of_block g.box0; have z1 := lt_of_block g.box1; have H2 := Go.Lib.hid g; clear H g; have H := H2; clear H2)
    | (go_at_call 20; first | refine (H.out.kind).mono ?_ | refine (H.out.drew.kind).mono ?_
       rintro e w1 ⟨rfl, g⟩; have b0 := g.c0; have b1 := g.c1; have z0 := lt_of_block g.box0; have z1 := lt_of_block g.box1; have H2 := Go.Lib.hid g; clear H g; have H := H2; clear H2)
    | (go_at_call 4; first | refine (H.out.put hp (by (try simp only [List.length_append, List.length_cons, List.length_nil]); omega) _ _).mono ?_ | refine (H.out.drew.put hp (by (try simp only [List.length_append, List.length_cons, List.length_nil]); omega) _ _).mono ?_
       rintro e w1 ⟨rfl, g⟩; have b0 := g.c0; have b1 := g.c1; have z0 := lt_of_block g.box0; have z1 := lt_of_block g.box1; have H2 := Go.Lib.hid g; clear H g; have H := H2; clear H2)
    | (go_at_call 7; first | refine (H.out.body hp (by (try simp only [List.length_append, List.length_cons, List.length_nil]); omega) hb).mono ?_ | refine (H.out.drew.body hp (by (try simp only [List.length_append, List.length_cons, List.length_nil]); omega) hb).mono ?_
       rintro e w1 ⟨rfl, g⟩; have b0 := g.c0; have b1 := g.c1; have z0 := lt_of_block g.box0; have z1 := lt_of_block g.box1; have H2 := Go.Lib.hid g; clear H g; have H := H2; clear H2))
  go_end0
  exact ⟨rfl, H.out.gen, H.out.keep⟩

set_option maxRecDepth 100000 in
set_option maxHeartbeats 16000000 in
theorem stm3_l3 {D B mb : Nat} {d : Int} {pre : List (Int × Int)} {s : GS} {w : World} (h : GenAt D B mb s.1 (abs pre s.2) (pre.length : Int) w) (hp : pre.length ≤ 100) (hl : s.2.length < 120)
    (hd : decide (3 ≤ d) = true) (_hd0 : 0 ≤ d) (_hd3 : d ≤ 3) (hc : gByte s.1 % 16 = 3) {body : GS → GS} :
    Calls Tryd.prog 14 #[.pointer (some ⟨mb, 0, none⟩), .int .i64 d] w (GPost D B mb (gCase body 3 (s.1.tail, s.2)).1 (abs pre (gCase body 3 (s.1.tail, s.2)).2) (pre.length : Int) (.tuple #[]) w) := by
  have hr := h.range
  have H := Go.Lib.hid (StAt.begin (d := d) h)
  have b0 := H.out.c0
  have b1 := H.out.c1
  clear h
  go_enter Tryd.func14, Tryd.ntmps14
  go_wp2_with (first
    | (go_at_call 13; first | refine (H.out.byte).mono ?_ | refine (H.out.drew.byte).mono ?_
       rintro e w1 ⟨rfl, g⟩; have b0 := g.c0; have b1 := g.c1; have z0 := lt_of_block g.box0; have z1 := lt_of_block g.box1; have H2 := Go.Lib.hid g; clear H g; have H := H2; clear H2)
    | (go_at_call 20; first | refine (H.out.kind).mono ?_ | refine (H.out.drew.kind).mono ?_
       rintro e w1 ⟨rfl, g⟩; have b0 := g.c0; have b1 := g.c1; have z0 := lt_of_block g.box0; have z1 := lt_of_block g.box1; have H2 := Go.Lib.hid g; clear H g; have H := H2; clear H2)
    | (go_at_call 4; first | refine (H.out.put hp (by (try simp only [List.length_append, List.length_cons, List.length_nil]); omega) _ _).mono ?_ | refine (H.out.drew.put hp (by (try simp only [List.length_append, List.length_cons, List.length_nil]); omega) _ _).mono ?_
       rintro e w1 ⟨rfl, g⟩; have b0 := g.c0; have b1 := g.c1; have z0 := lt_of_block g.box0; have z1 := lt_of_block g.box1; have H2 := Go.Lib.hid g; clear H g; have H := H2; clear H2)
    | (go_at_call 7; first | refine (H.out.body hp (by (try simp only [List.length_append, List.length_cons, List.length_nil]); omega) hb).mono ?_ | refine (H.out.drew.body hp (by (try simp only [List.length_append, List.length_cons, List.length_nil]); omega) hb).mono ?_
       rintro e w1 ⟨rfl, g⟩; have b0 := g.c0; have b1 := g.c1; have z0 := lt_of_block g.box0; have z1 := lt_of_block g.box1; have H2 := Go.Lib.hid g; clear H g; have H := H2; clear H2))
  go_end0
  exact ⟨rfl, H.out.gen, H.out.keep⟩

set_option maxRecDepth 100000 in
set_option maxHeartbeats 16000000 in
theorem stm4_l4 {D B mb : Nat} {d : Int} {pre : List (Int × Int)} {s : GS} {w : World} (h : GenAt D B mb s.1 (abs pre s.2) (pre.length : Int) w) (hp : pre.length ≤ 100) (hl : s.2.length < 120)
    (hd : decide (3 ≤ d) = true) (_hd0 : 0 ≤ d) (_hd3 : d ≤ 3) (hc : gByte s.1 % 16 = 4) {body : GS → GS} :
    Calls Tryd.prog 14 #[.pointer (some ⟨mb, 0, none⟩), .int .i64 d] w (GPost D B mb (gCase body 4 (s.1.tail, s.2)).1 (abs pre (gCase body 4 (s.1.tail, s.2)).2) (pre.length : Int) (.tuple #[]) w) := by
  have hr := h.range
  have H := Go.Lib.hid (StAt.begin (d := d) h)
  have b0 := H.out.c0
  have b1 := H.out.c1
  clear h
  go_enter Tryd.func14, Tryd.ntmps14
  go_wp2_with (first
    | (go_at_call 13; first | refine (H.out.byte).mono ?_ | refine (H.out.drew.byte).mono ?_
       rintro e w1 ⟨rfl, g⟩; have b0 := g.c0; have b1 := g.c1; have z0 := lt_of_block g.box0; have z1 := lt_of_block g.box1; have H2 := Go.Lib.hid g; clear H g; have H := H2; clear H2)
    | (go_at_call 20; first | refine (H.out.kind).mono ?_ | refine (H.out.drew.kind).mono ?_
       rintro e w1 ⟨rfl, g⟩; have b0 := g.c0; have b1 := g.c1; have z0 := lt_of_block g.box0; have z1 := lt_of_block g.box1; have H2 := Go.Lib.hid g; clear H g; have H := H2; clear H2)
    | (go_at_call 4; first | refine (H.out.put hp (by (try simp only [List.length_append, List.length_cons, List.length_nil]); omega) _ _).mono ?_ | refine (H.out.drew.put hp (by (try simp only [List.length_append, List.length_cons, List.length_nil]); omega) _ _).mono ?_
       rintro e w1 ⟨rfl, g⟩; have b0 := g.c0; have b1 := g.c1; have z0 := lt_of_block g.box0; have z1 := lt_of_block g.box1; have H2 := Go.Lib.hid g; clear H g; have H := H2; clear H2)
    | (go_at_call 7; first | refine (H.out.body hp (by (try simp only [List.length_append, List.length_cons, List.length_nil]); omega) hb).mono ?_ | refine (H.out.drew.body hp (by (try simp only [List.length_append, List.length_cons, List.length_nil]); omega) hb).mono ?_
       rintro e w1 ⟨rfl, g⟩; have b0 := g.c0; have b1 := g.c1; have z0 := lt_of_block g.box0; have z1 := lt_of_block g.box1; have H2 := Go.Lib.hid g; clear H g; have H := H2; clear H2))
  go_end0
  exact ⟨rfl, H.out.gen, H.out.keep⟩

set_option maxRecDepth 100000 in
set_option maxHeartbeats 16000000 in
theorem stm5_l5 {D B mb : Nat} {d : Int} {pre : List (Int × Int)} {s : GS} {w : World} (h : GenAt D B mb s.1 (abs pre s.2) (pre.length : Int) w) (hp : pre.length ≤ 100) (hl : s.2.length < 120)
    (hd : decide (3 ≤ d) = true) (_hd0 : 0 ≤ d) (_hd3 : d ≤ 3) (hc : gByte s.1 % 16 = 5) {body : GS → GS} :
    Calls Tryd.prog 14 #[.pointer (some ⟨mb, 0, none⟩), .int .i64 d] w (GPost D B mb (gCase body 5 (s.1.tail, s.2)).1 (abs pre (gCase body 5 (s.1.tail, s.2)).2) (pre.length : Int) (.tuple #[]) w) := by
  have hr := h.range
  have H := Go.Lib.hid (StAt.begin (d := d) h)
  have b0 := H.out.c0
  have b1 := H.out.c1
  clear h
  go_enter Tryd.func14, Tryd.ntmps14
  go_wp2_with (first
    | (go_at_call 13; first | refine (H.out.byte).mono ?_ | refine (H.out.drew.byte).mono ?_
       rintro e w1 ⟨rfl, g⟩; have b0 := g.c0; have b1 := g.c1; have z0 := lt_of_block g.box0; have z1 := lt_of_block g.box1; have H2 := Go.Lib.hid g; clear H g; have H := H2; clear H2)
    | (go_at_call 20; first | refine (H.out.kind).mono ?_ | refine (H.out.drew.kind).mono ?_
       rintro e w1 ⟨rfl, g⟩; have b0 := g.c0; have b1 := g.c1; have z0 := lt_of_block g.box0; have z1 := lt_of_block g.box1; have H2 := Go.Lib.hid g; clear H g; have H := H2; clear H2)
    | (go_at_call 4; first | refine (H.out.put hp (by (try simp only [List.length_append, List.length_cons, List.length_nil]); omega) _ _).mono ?_ | refine (H.out.drew.put hp (by (try simp only [List.length_append, List.length_cons, List.length_nil]); omega) _ _).mono ?_
       rintro e w1 ⟨rfl, g⟩; have b0 := g.c0; have b1 := g.c1; have z0 := lt_of_block g.box0; have z1 := lt_of_block g.box1; have H2 := Go.Lib.hid g; clear H g; have H := H2; clear H2)
    | (go_at_call 7; first | refine (H.out.body hp (by (try simp only [List.length_append, List.length_cons, List.length_nil]); omega) hb).mono ?_ | refine (H.out.drew.body hp (by (try simp only [List.length_append, List.length_cons, List.length_nil]); omega) hb).mono ?_
       rintro e w1 ⟨rfl, g⟩; have b0 := g.c0; have b1 := g.c1; have z0 := lt_of_block g.box0; have z1 := lt_of_block g.box1; have H2 := Go.Lib.hid g; clear H g; have H := H2; clear H2))
  go_end0
  exact ⟨rfl, H.out.gen, H.out.keep⟩

set_option maxRecDepth 100000 in
set_option maxHeartbeats 16000000 in
theorem stm0_l6 {D B mb : Nat} {d : Int} {pre : List (Int × Int)} {s : GS} {w : World} (h : GenAt D B mb s.1 (abs pre s.2) (pre.length : Int) w) (hp : pre.length ≤ 100) (hl : s.2.length < 120)
    (hd : decide (3 ≤ d) = true) (_hd0 : 0 ≤ d) (_hd3 : d ≤ 3) (hc : gByte s.1 % 16 = 6) {body : GS → GS} :
    Calls Tryd.prog 14 #[.pointer (some ⟨mb, 0, none⟩), .int .i64 d] w (GPost D B mb (gCase body 0 (s.1.tail, s.2)).1 (abs pre (gCase body 0 (s.1.tail, s.2)).2) (pre.length : Int) (.tuple #[]) w) := by
  have hr := h.range
  have H := Go.Lib.hid (StAt.begin (d := d) h)
  have b0 := H.out.c0
  have b1 := H.out.c1
  clear h
  go_enter Tryd.func14, Tryd.ntmps14
  go_wp2_with (first
    | (go_at_call 13; first | refine (H.out.byte).mono ?_ | refine (H.out.drew.byte).mono ?_
       rintro e w1 ⟨rfl, g⟩; have b0 := g.c0; have b1 := g.c1; have z0 := lt_of_block g.box0; have z1 := lt_of_block g.box1; have H2 := Go.Lib.hid g; clear H g; have H := H2; clear H2)
    | (go_at_call 20; first | refine (H.out.kind).mono ?_ | refine (H.out.drew.kind).mono ?_
       rintro e w1 ⟨rfl, g⟩; have b0 := g.c0; have b1 := g.c1; have z0 := lt_of_block g.box0; have z1 := lt_of_block g.box1; have H2 := Go.Lib.hid g; clear H g; have H := H2; clear H2)
    | (go_at_call 4; first | refine (H.out.put hp (by (try simp only [List.length_append, List.length_cons, List.length_nil]); omega) _ _).mono ?_ | refine (H.out.drew.put hp (by (try simp only [List.length_append, List.length_cons, List.length_nil]); omega) _ _).mono ?_
       rintro e w1 ⟨rfl, g⟩; have b0 := g.c0; have b1 := g.c1; have z0 := lt_of_block g.box0; have z1 := lt_of_block g.box1; have H2 := Go.Lib.hid g; clear H g; have H := H2; clear H2)
    | (go_at_call 7; first | refine (H.out.body hp (by (try simp only [List.length_append, List.length_cons, List.length_nil]); omega) hb).mono ?_ | refine (H.out.drew.body hp (by (try simp only [List.length_append, List.length_cons, List.length_nil]); omega) hb).mono ?_
       rintro e w1 ⟨rfl, g⟩; have b0 := g.c0; have b1 := g.c1; have z0 := lt_of_block g.box0; have z1 := lt_of_block g.box1; have H2 := Go.Lib.hid g; clear H g; have H := H2; clear H2))
  go_region_held3 (fun W => W.cell? ⟨w.heap.size, 0, none⟩ = some (.pointer (some ⟨mb, 0, none⟩))) (first | exact H.out.c0 | exact H.out.drew.c0 | exact (H.out.alloc _).c0 | exact (H.out.drew.alloc _).c0 | exact (H.out.alloc _).drew.c0) (first
    | (go_at_call 13; first | refine (H.out.byte).mono ?_ | refine (H.out.drew.byte).mono ?_
       rintro e w1 ⟨rfl, g⟩; have b0 := g.c0; have b1 := g.c1; have z0 := lt_of_block g.box0; have z1 := lt_of_block g.box1; have H2 := Go.Lib.hid g; clear H g; have H := H2; clear H2)
    | (go_at_call 20; first | refine (H.out.kind).mono ?_ | refine (H.out.drew.kind).mono ?_
       rintro e w1 ⟨rfl, g⟩; have b0 := g.c0; have b1 := g.c1; have z0 := lt_of_block g.box0; have z1 := lt_of_block g.box1; have H2 := Go.Lib.hid g; clear H g; have H := H2; clear H2)
    | (go_at_call 4; first | refine (H.out.put hp (by (try simp only [List.length_append, List.length_cons, List.length_nil]); omega) _ _).mono ?_ | refine (H.out.drew.put hp (by (try simp only [List.length_append, List.length_cons, List.length_nil]); omega) _ _).mono ?_
       rintro e w1 ⟨rfl, g⟩; have b0 := g.c0; have b1 := g.c1; have z0 := lt_of_block g.box0; have z1 := lt_of_block g.box1; have H2 := Go.Lib.hid g; clear H g; have H := H2; clear H2)
    | (go_at_call 7; first | refine (H.out.body hp (by (try simp only [List.length_append, List.length_cons, List.length_nil]); omega) hb).mono ?_ | refine (H.out.drew.body hp (by (try simp only [List.length_append, List.length_cons, List.length_nil]); omega) hb).mono ?_
       rintro e w1 ⟨rfl, g⟩; have b0 := g.c0; have b1 := g.c1; have z0 := lt_of_block g.box0; have z1 := lt_of_block g.box1; have H2 := Go.Lib.hid g; clear H g; have H := H2; clear H2))
  all_goals go_end0
  all_goals exact ⟨rfl, H.out.gen, H.out.keep⟩

set_option maxRecDepth 100000 in
set_option maxHeartbeats 16000000 in
theorem stm1_l7 {D B mb : Nat} {d : Int} {pre : List (Int × Int)} {s : GS} {w : World} (h : GenAt D B mb s.1 (abs pre s.2) (pre.length : Int) w) (hp : pre.length ≤ 100) (hl : s.2.length < 120)
    (hd : decide (3 ≤ d) = true) (_hd0 : 0 ≤ d) (_hd3 : d ≤ 3) (hc : gByte s.1 % 16 = 7) {body : GS → GS} :
    Calls Tryd.prog 14 #[.pointer (some ⟨mb, 0, none⟩), .int .i64 d] w (GPost D B mb (gCase body 1 (s.1.tail, s.2)).1 (abs pre (gCase body 1 (s.1.tail, s.2)).2) (pre.length : Int) (.tuple #[]) w) := by
  have hr := h.range
  have H := Go.Lib.hid (StAt.begin (d := d) h)
  have b0 := H.out.c0
  have b1 := H.out.c1
  clear h
  go_enter Tryd.func14, Tryd.ntmps14
  go_wp2_with (first
    | (go_at_call 13; first | refine (H.out.byte).mono ?_ | refine (H.out.drew.byte).mono ?_
       rintro e w1 ⟨rfl, g⟩; have b0 := g.c0; have b1 := g.c1; have z0 := lt_of_block g.box0; have z1 := lt_of_block g.box1; have H2 := Go.Lib.hid g; clear H g; have H := H2; clear H2)
    | (go_at_call 20; first | refine (H.out.kind).mono ?_ | refine (H.out.drew.kind).mono ?_
       rintro e w1 ⟨rfl, g⟩; have b0 := g.c0; have b1 := g.c1; have z0 := lt_of_block g.box0; have z1 := lt_of_block g.box1; have H2 := Go.Lib.hid g; clear H g; have H := H2; clear H2)
    | (go_at_call 4; first | refine (H.out.put hp (by (try simp only [List.length_append, List.length_cons, List.length_nil]); omega) _ _).mono ?_ | refine (H.out.drew.put hp (by (try simp only [List.length_append, List.length_cons, List.length_nil]); omega) _ _).mono ?_
       rintro e w1 ⟨rfl, g⟩; have b0 := g.c0; have b1 := g.c1; have z0 := lt_of_block g.box0; have z1 := lt_of_block g.box1; have H2 := Go.Lib.hid g; clear H g; have H := H2; clear H2)
    | (go_at_call 7; first | refine (H.out.body hp (by (try simp only [List.length_append, List.length_cons, List.length_nil]); omega) hb).mono ?_ | refine (H.out.drew.body hp (by (try simp only [List.length_append, List.length_cons, List.length_nil]); omega) hb).mono ?_
       rintro e w1 ⟨rfl, g⟩; have b0 := g.c0; have b1 := g.c1; have z0 := lt_of_block g.box0; have z1 := lt_of_block g.box1; have H2 := Go.Lib.hid g; clear H g; have H := H2; clear H2))
  go_region_held3 (fun W => W.cell? ⟨w.heap.size, 0, none⟩ = some (.pointer (some ⟨mb, 0, none⟩))) (first | exact H.out.c0 | exact H.out.drew.c0 | exact (H.out.alloc _).c0 | exact (H.out.drew.alloc _).c0 | exact (H.out.alloc _).drew.c0) (first
    | (go_at_call 13; first | refine (H.out.byte).mono ?_ | refine (H.out.drew.byte).mono ?_
       rintro e w1 ⟨rfl, g⟩; have b0 := g.c0; have b1 := g.c1; have z0 := lt_of_block g.box0; have z1 := lt_of_block g.box1; have H2 := Go.Lib.hid g; clear H g; have H := H2; clear H2)
    | (go_at_call 20; first | refine (H.out.kind).mono ?_ | refine (H.out.drew.kind).mono ?_
       rintro e w1 ⟨rfl, g⟩; have b0 := g.c0; have b1 := g.c1; have z0 := lt_of_block g.box0; have z1 := lt_of_block g.box1; have H2 := Go.Lib.hid g; clear H g; have H := H2; clear H2)
    | (go_at_call 4; first | refine (H.out.put hp (by (try simp only [List.length_append, List.length_cons, List.length_nil]); omega) _ _).mono ?_ | refine (H.out.drew.put hp (by (try simp only [List.length_append, List.length_cons, List.length_nil]); omega) _ _).mono ?_
       rintro e w1 ⟨rfl, g⟩; have b0 := g.c0; have b1 := g.c1; have z0 := lt_of_block g.box0; have z1 := lt_of_block g.box1; have H2 := Go.Lib.hid g; clear H g; have H := H2; clear H2)
    | (go_at_call 7; first | refine (H.out.body hp (by (try simp only [List.length_append, List.length_cons, List.length_nil]); omega) hb).mono ?_ | refine (H.out.drew.body hp (by (try simp only [List.length_append, List.length_cons, List.length_nil]); omega) hb).mono ?_
       rintro e w1 ⟨rfl, g⟩; have b0 := g.c0; have b1 := g.c1; have z0 := lt_of_block g.box0; have z1 := lt_of_block g.box1; have H2 := Go.Lib.hid g; clear H g; have H := H2; clear H2))
  all_goals go_end0
  all_goals exact ⟨rfl, H.out.gen, H.out.keep⟩

set_option maxRecDepth 100000 in
set_option maxHeartbeats 16000000 in
theorem stm2_l8 {D B mb : Nat} {d : Int} {pre : List (Int × Int)} {s : GS} {w : World} (h : GenAt D B mb s.1 (abs pre s.2) (pre.length : Int) w) (hp : pre.length ≤ 100) (hl : s.2.length < 120)
    (hd : decide (3 ≤ d) = true) (_hd0 : 0 ≤ d) (_hd3 : d ≤ 3) (hc : gByte s.1 % 16 = 8) {body : GS → GS} :
    Calls Tryd.prog 14 #[.pointer (some ⟨mb, 0, none⟩), .int .i64 d] w (GPost D B mb (gCase body 2 (s.1.tail, s.2)).1 (abs pre (gCase body 2 (s.1.tail, s.2)).2) (pre.length : Int) (.tuple #[]) w) := by
  have hr := h.range
  have H := Go.Lib.hid (StAt.begin (d := d) h)
  have b0 := H.out.c0
  have b1 := H.out.c1
  clear h
  go_enter Tryd.func14, Tryd.ntmps14
  go_wp2_with (first
    | (go_at_call 13; first | refine (H.out.byte).mono ?_ | refine (H.out.drew.byte).mono ?_
       rintro e w1 ⟨rfl, g⟩; have b0 := g.c0; have b1 := g.c1; have z0 := lt_of_block g.box0; have z1 := lt_of_block g.box1; have H2 := Go.Lib.hid g; clear H g; have H := H2; clear H2)
    | (go_at_call 20; first | refine (H.out.kind).mono ?_ | refine (H.out.drew.kind).mono ?_
       rintro e w1 ⟨rfl, g⟩; have b0 := g.c0; have b1 := g.c1; have z0 := lt_of_block g.box0; have z1 := lt_of_block g.box1; have H2 := Go.Lib.hid g; clear H g; have H := H2; clear H2)
    | (go_at_call 4; first | refine (H.out.put hp (by (try simp only [List.length_append, List.length_cons, List.length_nil]); omega) _ _).mono ?_ | refine (H.out.drew.put hp (by (try simp only [List.length_append, List.length_cons, List.length_nil]); omega) _ _).mono ?_
       rintro e w1 ⟨rfl, g⟩; have b0 := g.c0; have b1 := g.c1; have z0 := lt_of_block g.box0; have z1 := lt_of_block g.box1; have H2 := Go.Lib.hid g; clear H g; have H := H2; clear H2)
    | (go_at_call 7; first | refine (H.out.body hp (by (try simp only [List.length_append, List.length_cons, List.length_nil]); omega) hb).mono ?_ | refine (H.out.drew.body hp (by (try simp only [List.length_append, List.length_cons, List.length_nil]); omega) hb).mono ?_
       rintro e w1 ⟨rfl, g⟩; have b0 := g.c0; have b1 := g.c1; have z0 := lt_of_block g.box0; have z1 := lt_of_block g.box1; have H2 := Go.Lib.hid g; clear H g; have H := H2; clear H2))
  go_end0
  exact ⟨rfl, H.out.gen, H.out.keep⟩

set_option maxRecDepth 100000 in
set_option maxHeartbeats 16000000 in
theorem stm3_l9 {D B mb : Nat} {d : Int} {pre : List (Int × Int)} {s : GS} {w : World} (h : GenAt D B mb s.1 (abs pre s.2) (pre.length : Int) w) (hp : pre.length ≤ 100) (hl : s.2.length < 120)
    (hd : decide (3 ≤ d) = true) (_hd0 : 0 ≤ d) (_hd3 : d ≤ 3) (hc : gByte s.1 % 16 = 9) {body : GS → GS} :
    Calls Tryd.prog 14 #[.pointer (some ⟨mb, 0, none⟩), .int .i64 d] w (GPost D B mb (gCase body 3 (s.1.tail, s.2)).1 (abs pre (gCase body 3 (s.1.tail, s.2)).2) (pre.length : Int) (.tuple #[]) w) := by
  have hr := h.range
  have H := Go.Lib.hid (StAt.begin (d := d) h)
  have b0 := H.out.c0
  have b1 := H.out.c1
  clear h
  go_enter Tryd.func14, Tryd.ntmps14
  go_wp2_with (first
    | (go_at_call 13; first | refine (H.out.byte).mono ?_ | refine (H.out.drew.byte).mono ?_
       rintro e w1 ⟨rfl, g⟩; have b0 := g.c0; have b1 := g.c1; have z0 := lt_of_block g.box0; have z1 := lt_of_block g.box1; have H2 := Go.Lib.hid g; clear H g; have H := H2; clear H2)
    | (go_at_call 20; first | refine (H.out.kind).mono ?_ | refine (H.out.drew.kind).mono ?_
       rintro e w1 ⟨rfl, g⟩; have b0 := g.c0; have b1 := g.c1; have z0 := lt_of_block g.box0; have z1 := lt_of_block g.box1; have H2 := Go.Lib.hid g; clear H g; have H := H2; clear H2)
    | (go_at_call 4; first | refine (H.out.put hp (by (try simp only [List.length_append, List.length_cons, List.length_nil]); omega) _ _).mono ?_ | refine (H.out.drew.put hp (by (try simp only [List.length_append, List.length_cons, List.length_nil]); omega) _ _).mono ?_
       rintro e w1 ⟨rfl, g⟩; have b0 := g.c0; have b1 := g.c1; have z0 := lt_of_block g.box0; have z1 := lt_of_block g.box1; have H2 := Go.Lib.hid g; clear H g; have H := H2; clear H2)
    | (go_at_call 7; first | refine (H.out.body hp (by (try simp only [List.length_append, List.length_cons, List.length_nil]); omega) hb).mono ?_ | refine (H.out.drew.body hp (by (try simp only [List.length_append, List.length_cons, List.length_nil]); omega) hb).mono ?_
       rintro e w1 ⟨rfl, g⟩; have b0 := g.c0; have b1 := g.c1; have z0 := lt_of_block g.box0; have z1 := lt_of_block g.box1; have H2 := Go.Lib.hid g; clear H g; have H := H2; clear H2))
  go_end0
  exact ⟨rfl, H.out.gen, H.out.keep⟩

set_option maxRecDepth 100000 in
set_option maxHeartbeats 16000000 in
theorem stm0_l12 {D B mb : Nat} {d : Int} {pre : List (Int × Int)} {s : GS} {w : World} (h : GenAt D B mb s.1 (abs pre s.2) (pre.length : Int) w) (hp : pre.length ≤ 100) (hl : s.2.length < 120)
    (hd : decide (3 ≤ d) = true) (_hd0 : 0 ≤ d) (_hd3 : d ≤ 3) (hc : gByte s.1 % 16 = 12) {body : GS → GS} :
    Calls Tryd.prog 14 #[.pointer (some ⟨mb, 0, none⟩), .int .i64 d] w (GPost D B mb (gCase body 0 (s.1.tail, s.2)).1 (abs pre (gCase body 0 (s.1.tail, s.2)).2) (pre.length : Int) (.tuple #[]) w) := by
  have hr := h.range
  have H := Go.Lib.hid (StAt.begin (d := d) h)
  have b0 := H.out.c0
  have b1 := H.out.c1
  clear h
  go_enter Tryd.func14, Tryd.ntmps14
  go_wp2_with (first
    | (go_at_call 13; first | refine (H.out.byte).mono ?_ | refine (H.out.drew.byte).mono ?_
       rintro e w1 ⟨rfl, g⟩; have b0 := g.c0; have b1 := g.c1; have z0 := lt_of_block g.box0; have z1 := lt_of_block g.box1; have H2 := Go.Lib.hid g; clear H g; have H := H2; clear H2)
    | (go_at_call 20; first | refine (H.out.kind).mono ?_ | refine (H.out.drew.kind).mono ?_
       rintro e w1 ⟨rfl, g⟩; have b0 := g.c0; have b1 := g.c1; have z0 := lt_of_block g.box0; have z1 := lt_of_block g.box1; have H2 := Go.Lib.hid g; clear H g; have H := H2; clear H2)
    | (go_at_call 4; first | refine (H.out.put hp (by (try simp only [List.length_append, List.length_cons, List.length_nil]); omega) _ _).mono ?_ | refine (H.out.drew.put hp (by (try simp only [List.length_append, List.length_cons, List.length_nil]); omega) _ _).mono ?_
       rintro e w1 ⟨rfl, g⟩; have b0 := g.c0; have b1 := g.c1; have z0 := lt_of_block g.box0; have z1 := lt_of_block g.box1; have H2 := Go.Lib.hid g; clear H g; have H := H2; clear H2)
    | (go_at_call 7; first | refine (H.out.body hp (by (try simp only [List.length_append, List.length_cons, List.length_nil]); omega) hb).mono ?_ | refine (H.out.drew.body hp (by (try simp only [List.length_append, List.length_cons, List.length_nil]); omega) hb).mono ?_
       rintro e w1 ⟨rfl, g⟩; have b0 := g.c0; have b1 := g.c1; have z0 := lt_of_block g.box0; have z1 := lt_of_block g.box1; have H2 := Go.Lib.hid g; clear H g; have H := H2; clear H2))
  go_region_held3 (fun W => W.cell? ⟨w.heap.size, 0, none⟩ = some (.pointer (some ⟨mb, 0, none⟩))) (first | exact H.out.c0 | exact H.out.drew.c0 | exact (H.out.alloc _).c0 | exact (H.out.drew.alloc _).c0 | exact (H.out.alloc _).drew.c0) (first
    | (go_at_call 13; first | refine (H.out.byte).mono ?_ | refine (H.out.drew.byte).mono ?_
       rintro e w1 ⟨rfl, g⟩; have b0 := g.c0; have b1 := g.c1; have z0 := lt_of_block g.box0; have z1 := lt_of_block g.box1; have H2 := Go.Lib.hid g; clear H g; have H := H2; clear H2)
    | (go_at_call 20; first | refine (H.out.kind).mono ?_ | refine (H.out.drew.kind).mono ?_
       rintro e w1 ⟨rfl, g⟩; have b0 := g.c0; have b1 := g.c1; have z0 := lt_of_block g.box0; have z1 := lt_of_block g.box1; have H2 := Go.Lib.hid g; clear H g; have H := H2; clear H2)
    | (go_at_call 4; first | refine (H.out.put hp (by (try simp only [List.length_append, List.length_cons, List.length_nil]); omega) _ _).mono ?_ | refine (H.out.drew.put hp (by (try simp only [List.length_append, List.length_cons, List.length_nil]); omega) _ _).mono ?_
       rintro e w1 ⟨rfl, g⟩; have b0 := g.c0; have b1 := g.c1; have z0 := lt_of_block g.box0; have z1 := lt_of_block g.box1; have H2 := Go.Lib.hid g; clear H g; have H := H2; clear H2)
    | (go_at_call 7; first | refine (H.out.body hp (by (try simp only [List.length_append, List.length_cons, List.length_nil]); omega) hb).mono ?_ | refine (H.out.drew.body hp (by (try simp only [List.length_append, List.length_cons, List.length_nil]); omega) hb).mono ?_
       rintro e w1 ⟨rfl, g⟩; have b0 := g.c0; have b1 := g.c1; have z0 := lt_of_block g.box0; have z1 := lt_of_block g.box1; have H2 := Go.Lib.hid g; clear H g; have H := H2; clear H2))
  all_goals go_end0
  all_goals exact ⟨rfl, H.out.gen, H.out.keep⟩

set_option maxRecDepth 100000 in
set_option maxHeartbeats 16000000 in
theorem stm1_l13 {D B mb : Nat} {d : Int} {pre : List (Int × Int)} {s : GS} {w : World} (h : GenAt D B mb s.1 (abs pre s.2) (pre.length : Int) w) (hp : pre.length ≤ 100) (hl : s.2.length < 120)
    (hd : decide (3 ≤ d) = true) (_hd0 : 0 ≤ d) (_hd3 : d ≤ 3) (hc : gByte s.1 % 16 = 13) {body : GS → GS} :
    Calls Tryd.prog 14 #[.pointer (some ⟨mb, 0, none⟩), .int .i64 d] w (GPost D B mb (gCase body 1 (s.1.tail, s.2)).1 (abs pre (gCase body 1 (s.1.tail, s.2)).2) (pre.length : Int) (.tuple #[]) w) := by
  have hr := h.range
  have H := Go.Lib.hid (StAt.begin (d := d) h)
  have b0 := H.out.c0
  have b1 := H.out.c1
  clear h
  go_enter Tryd.func14, Tryd.ntmps14
  go_wp2_with (first
    | (go_at_call 13; first | refine (H.out.byte).mono ?_ | refine (H.out.drew.byte).mono ?_
       rintro e w1 ⟨rfl, g⟩; have b0 := g.c0; have b1 := g.c1; have z0 := lt_of_block g.box0; have z1 := lt_of_block g.box1; have H2 := Go.Lib.hid g; clear H g; have H := H2; clear H2)
    | (go_at_call 20; first | refine (H.out.kind).mono ?_ | refine (H.out.drew.kind).mono ?_
       rintro e w1 ⟨rfl, g⟩; have b0 := g.c0; have b1 := g.c1; have z0 := lt_of_block g.box0; have z1 := lt_of_block g.box1; have H2 := Go.Lib.hid g; clear H g; have H := H2; clear H2)
    | (go_at_call 4; first | refine (H.out.put hp (by (try simp only [List.length_append, List.length_cons, List.length_nil]); omega) _ _).mono ?_ | refine (H.out.drew.put hp (by (try simp only [List.length_append, List.length_cons, List.length_nil]); omega) _ _).mono ?_
       rintro e w1 ⟨rfl, g⟩; have b0 := g.c0; have b1 := g.c1; have z0 := lt_of_block g.box0; have z1 := lt_of_block g.box1; have H2 := Go.Lib.hid g; clear H g; have H := H2; clear H2)
    | (go_at_call 7; first | refine (H.out.body hp (by (try simp only [List.length_append, List.length_cons, List.length_nil]); omega) hb).mono ?_ | refine (H.out.drew.body hp (by (try simp only [List.length_append, List.length_cons, List.length_nil]); omega) hb).mono ?_
       rintro e w1 ⟨rfl, g⟩; have b0 := g.c0; have b1 := g.c1; have z0 := lt_of_block g.box0; have z1 := lt_of_block g.box1; have H2 := Go.Lib.hid g; clear H g; have H := H2; clear H2))
  go_region_held3 (fun W => W.cell? ⟨w.heap.size, 0, none⟩ = some (.pointer (some ⟨mb, 0, none⟩))) (first | exact H.out.c0 | exact H.out.drew.c0 | exact (H.out.alloc _).c0 | exact (H.out.drew.alloc _).c0 | exact (H.out.alloc _).drew.c0) (first
    | (go_at_call 13; first | refine (H.out.byte).mono ?_ | refine (H.out.drew.byte).mono ?_
       rintro e w1 ⟨rfl, g⟩; have b0 := g.c0; have b1 := g.c1; have z0 := lt_of_block g.box0; have z1 := lt_of_block g.box1; have H2 := Go.Lib.hid g; clear H g; have H := H2; clear H2)
    | (go_at_call 20; first | refine (H.out.kind).mono ?_ | refine (H.out.drew.kind).mono ?_
       rintro e w1 ⟨rfl, g⟩; have b0 := g.c0; have b1 := g.c1; have z0 := lt_of_block g.box0; have z1 := lt_of_block g.box1; have H2 := Go.Lib.hid g; clear H g; have H := H2; clear H2)
    | (go_at_call 4; first | refine (H.out.put hp (by (try simp only [List.length_append, List.length_cons, List.length_nil]); omega) _ _).mono ?_ | refine (H.out.drew.put hp (by (try simp only [List.length_append, List.length_cons, List.length_nil]); omega) _ _).mono ?_
       rintro e w1 ⟨rfl, g⟩; have b0 := g.c0; have b1 := g.c1; have z0 := lt_of_block g.box0; have z1 := lt_of_block g.box1; have H2 := Go.Lib.hid g; clear H g; have H := H2; clear H2)
    | (go_at_call 7; first | refine (H.out.body hp (by (try simp only [List.length_append, List.length_cons, List.length_nil]); omega) hb).mono ?_ | refine (H.out.drew.body hp (by (try simp only [List.length_append, List.length_cons, List.length_nil]); omega) hb).mono ?_
       rintro e w1 ⟨rfl, g⟩; have b0 := g.c0; have b1 := g.c1; have z0 := lt_of_block g.box0; have z1 := lt_of_block g.box1; have H2 := Go.Lib.hid g; clear H g; have H := H2; clear H2))
  all_goals go_end0
  all_goals exact ⟨rfl, H.out.gen, H.out.keep⟩

set_option maxRecDepth 100000 in
set_option maxHeartbeats 16000000 in
theorem stm2_l14 {D B mb : Nat} {d : Int} {pre : List (Int × Int)} {s : GS} {w : World} (h : GenAt D B mb s.1 (abs pre s.2) (pre.length : Int) w) (hp : pre.length ≤ 100) (hl : s.2.length < 120)
    (hd : decide (3 ≤ d) = true) (_hd0 : 0 ≤ d) (_hd3 : d ≤ 3) (hc : gByte s.1 % 16 = 14) {body : GS → GS} :
    Calls Tryd.prog 14 #[.pointer (some ⟨mb, 0, none⟩), .int .i64 d] w (GPost D B mb (gCase body 2 (s.1.tail, s.2)).1 (abs pre (gCase body 2 (s.1.tail, s.2)).2) (pre.length : Int) (.tuple #[]) w) := by
  have hr := h.range
  have H := Go.Lib.hid (StAt.begin (d := d) h)
  have b0 := H.out.c0
  have b1 := H.out.c1
  clear h
  go_enter Tryd.func14, Tryd.ntmps14
  go_wp2_with (first
    | (go_at_call 13; first | refine (H.out.byte).mono ?_ | refine (H.out.drew.byte).mono ?_
       rintro e w1 ⟨rfl, g⟩; have b0 := g.c0; have b1 := g.c1; have z0 := lt_of_block g.box0; have z1 := lt_of_block g.box1; have H2 := Go.Lib.hid g; clear H g; have H := H2; clear H2)
    | (go_at_call 20; first | refine (H.out.kind).mono ?_ | refine (H.out.drew.kind).mono ?_
       rintro e w1 ⟨rfl, g⟩; have b0 := g.c0; have b1 := g.c1; have z0 := lt_of_block g.box0; have z1 := lt_of_block g.box1; have H2 := Go.Lib.hid g; clear H g; have H := H2; clear H2)
    | (go_at_call 4; first | refine (H.out.put hp (by (try simp only [List.length_append, List.length_cons, List.length_nil]); omega) _ _).mono ?_ | refine (H.out.drew.put hp (by (try simp only [List.length_append, List.length_cons, List.length_nil]); omega) _ _).mono ?_
       rintro e w1 ⟨rfl, g⟩; have b0 := g.c0; have b1 := g.c1; have z0 := lt_of_block g.box0; have z1 := lt_of_block g.box1; have H2 := Go.Lib.hid g; clear H g; have H := H2; clear H2)
    | (go_at_call 7; first | refine (H.out.body hp (by (try simp only [List.length_append, List.length_cons, List.length_nil]); omega) hb).mono ?_ | refine (H.out.drew.body hp (by (try simp only [List.length_append, List.length_cons, List.length_nil]); omega) hb).mono ?_
       rintro e w1 ⟨rfl, g⟩; have b0 := g.c0; have b1 := g.c1; have z0 := lt_of_block g.box0; have z1 := lt_of_block g.box1; have H2 := Go.Lib.hid g; clear H g; have H := H2; clear H2))
  go_end0
  exact ⟨rfl, H.out.gen, H.out.keep⟩

set_option maxRecDepth 100000 in
set_option maxHeartbeats 16000000 in
theorem stm3_l15 {D B mb : Nat} {d : Int} {pre : List (Int × Int)} {s : GS} {w : World} (h : GenAt D B mb s.1 (abs pre s.2) (pre.length : Int) w) (hp : pre.length ≤ 100) (hl : s.2.length < 120)
    (hd : decide (3 ≤ d) = true) (_hd0 : 0 ≤ d) (_hd3 : d ≤ 3) (hc : gByte s.1 % 16 = 15) {body : GS → GS} :
    Calls Tryd.prog 14 #[.pointer (some ⟨mb, 0, none⟩), .int .i64 d] w (GPost D B mb (gCase body 3 (s.1.tail, s.2)).1 (abs pre (gCase body 3 (s.1.tail, s.2)).2) (pre.length : Int) (.tuple #[]) w) := by
  have hr := h.range
  have H := Go.Lib.hid (StAt.begin (d := d) h)
  have b0 := H.out.c0
  have b1 := H.out.c1
  clear h
  go_enter Tryd.func14, Tryd.ntmps14
  go_wp2_with (first
    | (go_at_call 13; first | refine (H.out.byte).mono ?_ | refine (H.out.drew.byte).mono ?_
       rintro e w1 ⟨rfl, g⟩; have b0 := g.c0; have b1 := g.c1; have z0 := lt_of_block g.box0; have z1 := lt_of_block g.box1; have H2 := Go.Lib.hid g; clear H g; have H := H2; clear H2)
    | (go_at_call 20; first | refine (H.out.kind).mono ?_ | refine (H.out.drew.kind).mono ?_
       rintro e w1 ⟨rfl, g⟩; have b0 := g.c0; have b1 := g.c1; have z0 := lt_of_block g.box0; have z1 := lt_of_block g.box1; have H2 := Go.Lib.hid g; clear H g; have H := H2; clear H2)
    | (go_at_call 4; first | refine (H.out.put hp (by (try simp only [List.length_append, List.length_cons, List.length_nil]); omega) _ _).mono ?_ | refine (H.out.drew.put hp (by (try simp only [List.length_append, List.length_cons, List.length_nil]); omega) _ _).mono ?_
       rintro e w1 ⟨rfl, g⟩; have b0 := g.c0; have b1 := g.c1; have z0 := lt_of_block g.box0; have z1 := lt_of_block g.box1; have H2 := Go.Lib.hid g; clear H g; have H := H2; clear H2)
    | (go_at_call 7; first | refine (H.out.body hp (by (try simp only [List.length_append, List.length_cons, List.length_nil]); omega) hb).mono ?_ | refine (H.out.drew.body hp (by (try simp only [List.length_append, List.length_cons, List.length_nil]); omega) hb).mono ?_
       rintro e w1 ⟨rfl, g⟩; have b0 := g.c0; have b1 := g.c1; have z0 := lt_of_block g.box0; have z1 := lt_of_block g.box1; have H2 := Go.Lib.hid g; clear H g; have H := H2; clear H2))
  go_end0
  exact ⟨rfl, H.out.gen, H.out.keep⟩

end Go.Proofs.YtkhicabfmkldpaaDoor
