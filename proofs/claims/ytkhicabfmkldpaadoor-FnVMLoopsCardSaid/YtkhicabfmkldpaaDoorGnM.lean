/- The generator: the statement that jumps. -/
import Derived.Test.YtkhicabfmkldpaaDoorGnJ
import Derived.Test.YtkhicabfmkldpaaDoorGnH
namespace Go.Proofs.YtkhicabfmkldpaaDoor
open Go.RowKit

theorem abs_set (pre : List (Int × Int)) (l : List RI) (i : Nat) (r : RI) : abs pre (l.set i r) = (abs pre l).set (pre.length + i) (reloc pre.length r) := by
  simp [abs, List.map_set]

theorem gCase12 (body : GS → GS) (s : GS) : gCase body 12 s =
    ((body (s.1.tail.tail, s.2 ++ [⟨opsList12[(gByte s.1 % 2).toNat]?.getD 12, gByte s.1.tail % 5 - 1, false⟩] ++ [⟨14, 0, false⟩])).1,
      (body (s.1.tail.tail, s.2 ++ [⟨opsList12[(gByte s.1 % 2).toNat]?.getD 12, gByte s.1.tail % 5 - 1, false⟩] ++ [⟨14, 0, false⟩])).2.set (s.2 ++ [(⟨opsList12[(gByte s.1 % 2).toNat]?.getD 12, gByte s.1.tail % 5 - 1, false⟩ : RI)]).length
        ⟨14, ((body (s.1.tail.tail, s.2 ++ [⟨opsList12[(gByte s.1 % 2).toNat]?.getD 12, gByte s.1.tail % 5 - 1, false⟩] ++ [⟨14, 0, false⟩])).2.length : Int), true⟩) := rfl

set_option maxRecDepth 100000 in
set_option maxHeartbeats 16000000 in
theorem stm12_n12 {D B mb : Nat} {d : Int} {pre : List (Int × Int)} {s : GS} {w : World} (h : GenAt D B mb s.1 (abs pre s.2) (pre.length : Int) w) (hp : pre.length ≤ 100) (hl : s.2.length < 120)
    (hd : decide (3 ≤ d) = false) (hd0 : 0 ≤ d) (hd3 : d ≤ 3) (hc : gByte s.1 % 16 = 12) {body : GS → GS} {M : Nat} (hx : Ext M body) (_hM : M ≤ 500) (hb : BodyCalls (d + 1) body) :
    Calls Tryd.prog 14 #[.pointer (some ⟨mb, 0, none⟩), .int .i64 d] w (GPost D B mb (gCase body 12 (s.1.tail, s.2)).1 (abs pre (gCase body 12 (s.1.tail, s.2)).2) (pre.length : Int) (.tuple #[]) w) := by
  have hr := h.range
  have H := Go.Lib.hid (StAt.begin (d := d) h)
  have b0 := H.out.c0
  have b1 := H.out.c1
  obtain ⟨hr20, hr21⟩ := h.tailRange
  obtain ⟨hr30, hr31⟩ := h.tailRange2
  obtain ⟨y, hy⟩ : ∃ y, opsList12[(gByte s.1.tail % 2).toNat]? = some y := ⟨_, List.getElem?_eq_getElem (show (gByte s.1.tail % 2).toNat < 2 by omega)⟩
  have hy1 : ((opsList12.map (Value.int .i64)).toArray)[(gByte s.1.tail % 2).toNat]? = some (.int .i64 y) := by simp [hy]
  have Hy := Go.Lib.hid (show (#[.int .i64 12, .int .i64 13] : Array Value)[(gByte s.1.tail % 2).toNat]? = some (.int .i64 y) from hy1)
  have hq0 : 0 ≤ gByte s.1.tail % 2 := by omega
  have hq1 : gByte s.1.tail % 2 < 2 := by omega
  have hq2 : (gByte s.1.tail % 2).toNat < 2 := by omega
  have hq3 : ¬ (gByte s.1.tail % 2 < 0) := by omega
  have hq4 : decide ((gByte s.1.tail % 2).toNat < 2) = true := by simp; omega
  have hI : (gByte s.1.tail).tmod 2 = gByte s.1.tail % 2 := Int.tmod_eq_emod_of_nonneg hr20
  clear hy1
  have wv : IntKind.i64.wrap ((gByte s.1.tail.tail).tmod 5 - 1) = gByte s.1.tail.tail % 5 - 1 := by
    rw [show (gByte s.1.tail.tail).tmod 5 = gByte s.1.tail.tail % 5 from Int.tmod_eq_emod_of_nonneg hr30]
    exact wrap_i64_near _ (by omega) (by omega)
  have hcell : ∀ w1 : World, (w1.alloc (.cells #[.int .i64 12, .int .i64 13] 3)).cell? ⟨w1.heap.size, (gByte s.1.tail % 2).toNat, none⟩ = some (.int .i64 y) := fun w1 => by
    rw [cell_of_row _ _ _ _ _ _ (heap_alloc_new w1 _)]; exact Hy.out
  have Hy0 := Go.Lib.hid hy
  clear h hy
  go_enter Tryd.func14, Tryd.ntmps14
  go_wp2_with (first
    | (go_at_call 13; first | refine (H.out.byte).mono ?_ | refine (H.out.drew.byte).mono ?_
       rintro e w1 ⟨rfl, g⟩; have b0 := g.c0; have b1 := g.c1; have z0 := lt_of_block g.box0; have z1 := lt_of_block g.box1; have H2 := Go.Lib.hid g; clear H g; have H := H2; clear H2)
    | (go_at_call 20; first | refine (H.out.kind).mono ?_ | refine (H.out.drew.kind).mono ?_
       rintro e w1 ⟨rfl, g⟩; have b0 := g.c0; have b1 := g.c1; have z0 := lt_of_block g.box0; have z1 := lt_of_block g.box1; have H2 := Go.Lib.hid g; clear H g; have H := H2; clear H2)
    | (go_at_call 4; first | refine (H.out.put hp (by (try simp only [List.length_append, List.length_cons, List.length_nil]); omega) _ _).mono ?_ | refine (H.out.drew.put hp (by (try simp only [List.length_append, List.length_cons, List.length_nil]); omega) _ _).mono ?_
       rintro e w1 ⟨rfl, g⟩; have b0 := g.c0; have b1 := g.c1; have z0 := lt_of_block g.box0; have z1 := lt_of_block g.box1; have H2 := Go.Lib.hid g; clear H g; have H := H2; clear H2)
    | (go_at_call 7; first | refine (H.out.body hp (by (try simp only [List.length_append, List.length_cons, List.length_nil]); omega) hb).mono ?_ | refine (H.out.drew.body hp (by (try simp only [List.length_append, List.length_cons, List.length_nil]); omega) hb).mono ?_
       rintro e w1 ⟨rfl, g⟩; have b0 := g.c0; have b1 := g.c1; have z0 := lt_of_block g.box0; have z1 := lt_of_block g.box1; have H2 := Go.Lib.hid g; clear H g; have H := H2; clear H2))
  rw [show Op.load 3 (.tmp 164) = ld12 from rfl]
  have hld : ld12 = Op.load 3 (.tmp 164) := rfl
  go_region_held3 (fun W => W.cell? ⟨w.heap.size, 0, none⟩ = some (.pointer (some ⟨mb, 0, none⟩))) (first | exact H.out.c0 | exact H.out.drew.c0 | exact (H.out.alloc _).c0 | exact (H.out.drew.alloc _).c0 | exact (H.out.alloc _).drew.c0) (first
    | (go_at_call 13; first | refine (H.out.byte).mono ?_ | refine (H.out.drew.byte).mono ?_ | refine ((H.out.alloc _).byte).mono ?_ | refine ((H.out.alloc _).drew.byte).mono ?_ | refine ((H.out.drew.alloc _).byte).mono ?_ | refine ((H.out.drew.alloc _).drew.byte).mono ?_
       rintro e w1 ⟨rfl, g⟩; have b0 := g.c0; have b1 := g.c1; have z0 := lt_of_block g.box0; have z1 := lt_of_block g.box1; (try have bx := g.cx Hy.out); have H2 := Go.Lib.hid g; clear H g; have H := H2; clear H2)
    | (go_at_call 20; first | refine (H.out.kind).mono ?_ | refine (H.out.drew.kind).mono ?_ | refine ((H.out.alloc _).kind).mono ?_ | refine ((H.out.alloc _).drew.kind).mono ?_ | refine ((H.out.drew.alloc _).kind).mono ?_ | refine ((H.out.drew.alloc _).drew.kind).mono ?_
       rintro e w1 ⟨rfl, g⟩; have b0 := g.c0; have b1 := g.c1; have z0 := lt_of_block g.box0; have z1 := lt_of_block g.box1; (try have bx := g.cx Hy.out); have H2 := Go.Lib.hid g; clear H g; have H := H2; clear H2)
    | (go_at_call 4; first | refine (H.out.put hp (by (try simp only [List.length_append, List.length_cons, List.length_nil]); omega) _ _).mono ?_ | refine (H.out.drew.put hp (by (try simp only [List.length_append, List.length_cons, List.length_nil]); omega) _ _).mono ?_ | refine ((H.out.alloc _).put hp (by (try simp only [List.length_append, List.length_cons, List.length_nil]); omega) _ _).mono ?_ | refine ((H.out.alloc _).drew.put hp (by (try simp only [List.length_append, List.length_cons, List.length_nil]); omega) _ _).mono ?_ | refine ((H.out.drew.alloc _).put hp (by (try simp only [List.length_append, List.length_cons, List.length_nil]); omega) _ _).mono ?_ | refine ((H.out.drew.alloc _).drew.put hp (by (try simp only [List.length_append, List.length_cons, List.length_nil]); omega) _ _).mono ?_
       rintro e w1 ⟨rfl, g⟩; have b0 := g.c0; have b1 := g.c1; have z0 := lt_of_block g.box0; have z1 := lt_of_block g.box1; (try have bx := g.cx Hy.out); have H2 := Go.Lib.hid g; clear H g; have H := H2; clear H2)
    | (go_at_call 7; first | refine (H.out.body hp (by (try simp only [List.length_append, List.length_cons, List.length_nil]); omega) hb).mono ?_ | refine (H.out.drew.body hp (by (try simp only [List.length_append, List.length_cons, List.length_nil]); omega) hb).mono ?_ | refine ((H.out.alloc _).body hp (by (try simp only [List.length_append, List.length_cons, List.length_nil]); omega) hb).mono ?_ | refine ((H.out.alloc _).drew.body hp (by (try simp only [List.length_append, List.length_cons, List.length_nil]); omega) hb).mono ?_ | refine ((H.out.drew.alloc _).body hp (by (try simp only [List.length_append, List.length_cons, List.length_nil]); omega) hb).mono ?_ | refine ((H.out.drew.alloc _).drew.body hp (by (try simp only [List.length_append, List.length_cons, List.length_nil]); omega) hb).mono ?_
       rintro e w1 ⟨rfl, g⟩; have b0 := g.c0; have b1 := g.c1; have z0 := lt_of_block g.box0; have z1 := lt_of_block g.box1; (try have bx := g.cx Hy.out); have H2 := Go.Lib.hid g; clear H g; have H := H2; clear H2))
  all_goals
    obtain ⟨p1, q1, l1⟩ := H.out.gen.cell1
    rw [abs_length] at l1
    simp only [List.length_append, List.length_cons, List.length_nil, Nat.zero_add] at l1
    go_wp2_with (first
    | (go_at_call 13; first | refine (H.out.byte).mono ?_ | refine (H.out.drew.byte).mono ?_
       rintro e w1 ⟨rfl, g⟩; have b0 := g.c0; have b1 := g.c1; have z0 := lt_of_block g.box0; have z1 := lt_of_block g.box1; have H2 := Go.Lib.hid g; clear H g; have H := H2; clear H2)
    | (go_at_call 20; first | refine (H.out.kind).mono ?_ | refine (H.out.drew.kind).mono ?_
       rintro e w1 ⟨rfl, g⟩; have b0 := g.c0; have b1 := g.c1; have z0 := lt_of_block g.box0; have z1 := lt_of_block g.box1; have H2 := Go.Lib.hid g; clear H g; have H := H2; clear H2)
    | (go_at_call 4; first | refine (H.out.put hp (by (try simp only [List.length_append, List.length_cons, List.length_nil]); first | omega | exact Nat.lt_of_le_of_lt (hx.le _) (by (try simp only [List.length_append, List.length_cons, List.length_nil]); omega) | exact Nat.lt_of_le_of_lt (Nat.add_le_add_right (hx.le _) _) (by (try simp only [List.length_append, List.length_cons, List.length_nil]); omega)) _ _).mono ?_ | refine (H.out.drew.put hp (by (try simp only [List.length_append, List.length_cons, List.length_nil]); first | omega | exact Nat.lt_of_le_of_lt (hx.le _) (by (try simp only [List.length_append, List.length_cons, List.length_nil]); omega) | exact Nat.lt_of_le_of_lt (Nat.add_le_add_right (hx.le _) _) (by (try simp only [List.length_append, List.length_cons, List.length_nil]); omega)) _ _).mono ?_
       rintro e w1 ⟨rfl, g⟩; have b0 := g.c0; have b1 := g.c1; have z0 := lt_of_block g.box0; have z1 := lt_of_block g.box1; have H2 := Go.Lib.hid g; clear H g; have H := H2; clear H2)
    | (go_at_call 7; first | refine (H.out.body hp (by (try simp only [List.length_append, List.length_cons, List.length_nil]); first | omega | exact Nat.lt_of_le_of_lt (hx.le _) (by (try simp only [List.length_append, List.length_cons, List.length_nil]); omega) | exact Nat.lt_of_le_of_lt (Nat.add_le_add_right (hx.le _) _) (by (try simp only [List.length_append, List.length_cons, List.length_nil]); omega)) hb).mono ?_ | refine (H.out.drew.body hp (by (try simp only [List.length_append, List.length_cons, List.length_nil]); first | omega | exact Nat.lt_of_le_of_lt (hx.le _) (by (try simp only [List.length_append, List.length_cons, List.length_nil]); omega) | exact Nat.lt_of_le_of_lt (Nat.add_le_add_right (hx.le _) _) (by (try simp only [List.length_append, List.length_cons, List.length_nil]); omega)) hb).mono ?_
       rintro e w1 ⟨rfl, g⟩; have b0 := g.c0; have b1 := g.c1; have z0 := lt_of_block g.box0; have z1 := lt_of_block g.box1; have H2 := Go.Lib.hid g; clear H g; have H := H2; clear H2))
  all_goals
    have G := H.out.gen
    try simp only [wv] at G
    obtain ⟨ys, hy, hyl⟩ := hx (s.1.tail.tail.tail, s.2 ++ [⟨y, gByte s.1.tail.tail % 5 - 1, false⟩] ++ [⟨14, 0, false⟩])
    have hlen : (body (s.1.tail.tail.tail, s.2 ++ [⟨y, gByte s.1.tail.tail % 5 - 1, false⟩] ++ [⟨14, 0, false⟩])).2.length = s.2.length + 2 + ys.length := by rw [hy]; simp only [List.length_append, List.length_cons, List.length_nil]
    have hget : (abs pre (body (s.1.tail.tail.tail, s.2 ++ [⟨y, gByte s.1.tail.tail % 5 - 1, false⟩] ++ [⟨14, 0, false⟩])).2)[pre.length + (s.2.length + 1)]? = some (14, 0) := by rw [hy]; simp [abs, reloc, List.append_assoc]
    obtain ⟨g, c, pc, pl, pv, pf, pp⟩ := G.patch hget
    have P' := Go.Lib.hid pp
    have Hy2 := Go.Lib.hid hy
    rw [abs_length, hlen] at pc pl
    have hb1 : pre.length + (s.2.length + 1) < pre.length + (s.2.length + 2 + ys.length) := by omega
    have hb2 : (pre.length : Int) + ((s.2.length : Int) + 1) < (pre.length : Int) + ((s.2.length : Int) + 2 + (ys.length : Int)) := by omega
    clear pp hy hlen hget G
    go_region
    go_end0
    have P := P'.out ((pre.length : Int) + ((s.2.length : Int) + 2 + (ys.length : Int)))
    have e1 : opsList12[(gByte s.1.tail % 2).toNat]?.getD 12 = y := by rw [Hy0.out]; rfl
    have e : gCase body 12 (s.1.tail, s.2) = ((body (s.1.tail.tail.tail, s.2 ++ [⟨y, gByte s.1.tail.tail % 5 - 1, false⟩] ++ [⟨14, 0, false⟩])).1,
        (body (s.1.tail.tail.tail, s.2 ++ [⟨y, gByte s.1.tail.tail % 5 - 1, false⟩] ++ [⟨14, 0, false⟩])).2.set (s.2.length + 1) ⟨14, ((s.2.length + 2 + ys.length : Nat) : Int), true⟩) := by
      rw [gCase12, e1]
      dsimp only
      rw [Hy2.out]
      simp only [List.length_append, List.length_cons, List.length_nil]
    rw [e]
    refine ⟨rfl, ?_, (H.out.keep.trans P.2).drew⟩
    have G := P.1.drew
    rw [abs_set]
    rw [show reloc pre.length ⟨14, ((s.2.length + 2 + ys.length : Nat) : Int), true⟩ = (14, (pre.length : Int) + ((s.2.length : Int) + 2 + (ys.length : Int))) by simp only [reloc, if_pos]; congr 1; omega]
    exact G

end Go.Proofs.YtkhicabfmkldpaaDoor
