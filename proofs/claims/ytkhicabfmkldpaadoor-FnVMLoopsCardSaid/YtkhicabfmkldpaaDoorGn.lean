/- The generator: its words, put, byte, kind, loop, body. -/
import Derived.Test.YtkhicabfmkldpaaDoorVm
namespace Go.Proofs.YtkhicabfmkldpaaDoor
open Go.RowKit

theorem info41 : (Tryd.prog.info? 41).map (fun i => (i.zero, i.size, i.bytes)) = some (some (.agg #[.int .i64 0, .int .i64 0]), 2, 16) := by kernel_rfl

def notIns : Obj → Bool
  | .cells _ t _ => t != 41
  | _ => true

/-- Bytes that a slice holds. -/
def CodeAt (D : Nat) (cv : Value) (code : List Int) (w : World) : Prop :=
  ∃ da cap, cv = .slice da code.length cap ∧ DataAt D da cap code w

/-- A program that is being made. -/
structure GenAt (D B mb : Nat) (code : List Int) (ins : List (Int × Int)) (base : Int) (w : World) : Prop where
  box : ∃ cv v, w.heap[mb]? = some (.cells #[cv, v, .slice none 0 0, .int .i64 2, .int .i64 base] 27 (0, 0)) ∧ CodeAt D cv code w ∧ w.ownsRow B 41 2 v ins.length (insCells ins)
  bm : D ≤ mb
  db : D ≤ B
  bs : B ≤ w.heap.size

/-- What stays while a program is made. -/
structure GKeep (B mb : Nat) (w w' : World) : Prop where
  os : w'.os = w.os
  tape : w'.tape = w.tape
  output : w'.output = w.output
  size : w.heap.size ≤ w'.heap.size
  keep : ∀ i o, w.heap[i]? = some o → i ≠ mb → (i < B ∨ notIns o = true) → w'.heap[i]? = some o

theorem GKeep.refl (B mb : Nat) (w : World) : GKeep B mb w w := ⟨rfl, rfl, rfl, Nat.le_refl _, fun _ _ h _ _ => h⟩
theorem GKeep.trans {B mb : Nat} {a b c : World} (h : GKeep B mb a b) (k : GKeep B mb b c) : GKeep B mb a c :=
  ⟨k.os.trans h.os, k.tape.trans h.tape, k.output.trans h.output, Nat.le_trans h.size k.size, fun i o h1 h2 h3 => k.keep i o (h.keep i o h1 h2 h3) h2 h3⟩
theorem GKeep.alloc {B mb : Nat} {a w : World} (h : GKeep B mb a w) (o : Obj) : GKeep B mb a (w.alloc o) :=
  ⟨h.os, h.tape, h.output, by have := h.size; simp; omega, fun i o' h1 h2 h3 => by
    have := h.keep i o' h1 h2 h3
    rw [Below.heap_alloc _ _ _ (lt_of_block this)]; exact this⟩
theorem GKeep.drewN {B mb : Nat} {a w : World} (h : GKeep B mb a w) (n : Nat) : GKeep B mb a (w.drewN n) := ⟨h.os, h.tape, h.output, h.size, h.keep⟩
theorem GKeep.set {B mb : Nat} {a w : World} (h : GKeep B mb a w) {p : Addr} (hp : p.block = mb ∨ (B ≤ p.block ∧ ∀ o, a.heap[p.block]? = some o → notIns o = false)) (u : Value) : GKeep B mb a (w.setCell p u) :=
  ⟨h.os, h.tape, h.output, by have := h.size; simp; omega, fun i o h1 h2 h3 => by
    have := h.keep i o h1 h2 h3
    have hne : i ≠ p.block := by
      rcases hp with hp | ⟨hp, hq⟩
      · omega
      · rintro rfl
        have := hq o h1
        rcases h3 with h3 | h3
        · omega
        · rw [this] at h3; cases h3
    rw [Below.heap_setCell _ _ _ _ hne]; exact this⟩
theorem GKeep.grown {B mb : Nat} {a w w' : World} (h : GKeep B mb a w) {row : Option Nat} (hg : w.grownBy w' row)
    (hr : ∀ k, row = some k → B ≤ k ∧ ∃ cs f, w.heap[k]? = some (.cells cs 41 f)) (hk : ∀ k, row = some k → ∀ o, a.heap[k]? = some o → notIns o = false) : GKeep B mb a w' :=
  ⟨hg.os.trans h.os, hg.tape.trans h.tape, hg.output.trans h.output, Nat.le_trans h.size hg.size, fun i o h1 h2 h3 => by
    have h4 := h.keep i o h1 h2 h3
    rw [hg.block i (lt_of_block h4) (fun e => ?_)]
    · exact h4
    · obtain ⟨hb, _⟩ := hr i e.symm
      have := hk i e.symm o h1
      rcases h3 with h3 | h3
      · omega
      · rw [this] at h3; cases h3⟩

theorem DataAt.keepG {D B mb : Nat} {da : Option Addr} {cap : Nat} {code : List Int} {w w' : World} (h : DataAt D da cap code w) (hk : GKeep B mb w w') (hb : D ≤ B) (hm : D ≤ mb) : DataAt D da cap code w' :=
  ⟨fun k c hc => by
    obtain ⟨b, o, h1, h2, h3, h4⟩ := h.at' k c hc
    refine ⟨b, o, h1, h2, ?_, h4⟩
    obtain ⟨ob, hob⟩ : ∃ ob, w.heap[b]? = some ob := by
      cases hh : w.heap[b]? with
      | none => simp [World.cell?, hh] at h3
      | some ob => exact ⟨ob, rfl⟩
    have := hk.keep b ob hob (by omega) (.inl (by omega))
    unfold World.cell? at h3 ⊢
    simp only [hob, this] at h3 ⊢
    exact h3, h.few, h.cap⟩

theorem GenAt.lt {D B mb : Nat} {code : List Int} {ins : List (Int × Int)} {base : Int} {w : World} (h : GenAt D B mb code ins base w) : mb < w.heap.size := by
  obtain ⟨_, _, h1, _⟩ := h.box
  exact lt_of_block h1

/-- What putting an instruction does. -/
theorem GenAt.put {D B mb : Nat} {code : List Int} {ins : List (Int × Int)} {base op x : Int} {w w1 : World} {cv v p1 : Value} {A : Obj} (h : GenAt D B mb code ins base w)
    (hv : w.heap[mb]? = some (.cells #[cv, v, .slice none 0 0, .int .i64 2, .int .i64 base] 27 (0, 0))) (hc : CodeAt D cv code w) (ho : w.ownsRow B 41 2 v ins.length (insCells ins))
    (hown : w1.ownsRow B 41 2 p1 (ins.length + 1) (insCells ins ++ [.int .i64 op, .int .i64 x])) (hg : (w.alloc A).grownBy w1 v.ownBlock) :
    GenAt D B mb code (ins ++ [(op, x)]) base (w1.setCell ⟨mb, 1, none⟩ p1) ∧ GKeep B mb w (w1.setCell ⟨mb, 1, none⟩ p1) := by
  have hm := lt_of_block hv
  have gg : w.grownBy w1 v.ownBlock :=
    (World.grownBy_alloc w A _).trans hg
  have hne : v.ownBlock ≠ some mb := owns_block_ne ho hv (by decide)
  have h1 : w1.heap[mb]? = some (.cells #[cv, v, .slice none 0 0, .int .i64 2, .int .i64 base] 27 (0, 0)) := by rw [gg.block _ hm (Ne.symm hne)]; exact hv
  have hne1 : p1.ownBlock ≠ some mb := owns_block_ne hown h1 (by decide)
  have hrow : ∀ k, v.ownBlock = some k → B ≤ k ∧ ∃ cs f, w.heap[k]? = some (.cells cs 41 f) := fun k hk => by
    rcases ho.2 with ⟨rfl, _⟩ | ⟨g, cap, cur, rfl, h1, h2, _⟩
    · cases hk
    · simp [Value.ownBlock] at hk
      subst hk
      exact ⟨h1, _, _, h2⟩
  have k1 : GKeep B mb w w1 := (GKeep.refl B mb w).grown gg hrow (fun k hk o hob => by
    obtain ⟨_, cs, f, h2⟩ := hrow k hk
    rw [h2] at hob
    cases hob
    rfl)
  have k2 : GKeep B mb w (w1.setCell ⟨mb, 1, none⟩ p1) := k1.set (p := ⟨mb, 1, none⟩) (.inl rfl) _
  obtain ⟨da, cap, rfl, hd⟩ := hc
  refine ⟨⟨⟨_, p1, blk_set _ h1, ⟨da, cap, rfl, hd.keepG k2 h.db h.bm⟩, ?_⟩, h.bm, h.db, Nat.le_trans h.bs k2.size⟩, k2⟩
  rw [insCells_snoc, List.length_append]
  exact ownsRow_setCell_other hown hne1 _

theorem wpList_append_mine {P : Program} {ops : Array Oper} {rest : List Oper} {o : Oper} {a : Act} {w : World} {Q : Exit → Act → World → Prop} (hgd : o.guard = none) (s x : Operand) (t : TypeId)
    (ho : o.op = .call { callee := .builtin .append, args := #[s, x], argTypes := #[t, t] })
    (base : Nat) (e : TypeId) (i : TypeInfo) (z : Value) (size bytes : Nat) (ht : P.underlying t = some (.slice e)) (hi : P.info? e = some i) (hz : i.zero = some z)
    (hsize : i.size = size) (hby : i.bytes = bytes) (hzs : z.cells.size = size) (hsz : 0 < size)
    (v : Value) (n : Nat) (xs : List Value) (hs : a.eval s = v) (hown : w.ownsRow base e size v n xs)
    (ad : Addr) (m c : Nat) (news : List Value) (hx : a.eval x = .slice (some ad) m c) (hl : news.length = m * size) (hnews : ∀ j u, news[j]? = some u → w.cell? (ad.add j) = some u) (h1 : ∀ u ∈ news, u.oneCell' = true)
    (h63 : n + m ≤ maxLen) (hbytes : (n + m) * bytes ≤ 140737488355328) (hbase : base ≤ w.heap.size)
    (h : ∀ p l c w', w'.ownsRow base e size (.slice p l c) (n + m) (xs ++ news) → w.grownBy w' v.ownBlock → wpList P ops Q rest (a.put o.dst (.slice p l c)) w') :
    wpList P ops Q (o :: rest) a w := by
  refine wpList_append_own w hgd s x t ho base e i z size bytes ht hi hz hsize hby hzs hsz v n xs hs hown ad m c news hx hl hnews h1 h63 hbytes hbase fun v' w' h2 h3 _ => ?_
  rcases h2.2 with ⟨rfl, _⟩ | ⟨g, cap, cur, rfl, _⟩
  · exact h _ _ _ w' h2 h3
  · exact h _ _ _ w' h2 h3

/-- The post of a maker's part. -/
def GPost (D B mb : Nat) (code : List Int) (ins : List (Int × Int)) (base : Int) (v : Value) (w : World) (e : Ending) (w' : World) : Prop :=
  e = .returned v ∧ GenAt D B mb code ins base w' ∧ GKeep B mb w w'

set_option maxRecDepth 100000 in
set_option maxHeartbeats 3200000 in
theorem put_any {D B mb : Nat} {code : List Int} {ins : List (Int × Int)} {base : Int} {w : World} (h : GenAt D B mb code ins base w) (hl : ins.length < 100000) (op x : Int) :
    Calls Tryd.prog 4 #[.pointer (some ⟨mb, 0, none⟩), .int .i64 op, .int .i64 x] w (GPost D B mb code (ins ++ [(op, x)]) base (.tuple #[]) w) := by
  obtain ⟨cv, v, hv, hc, ho⟩ := h.box
  obtain ⟨i0, hi0, hz0, hz1, hz2⟩ := info_parts info41
  have hmb := lt_of_block hv
  have hbs := h.bs
  have h0 : w.cell? ⟨mb, 1, none⟩ = some v := by rw [cell_of_row _ _ _ _ _ _ hv]; rfl
  have f0 : w.frozen? ⟨mb, 1, none⟩ = false := frozen_of_row _ _ _ _ _ hv
  have hmx : ins.length + 1 ≤ maxLen := by unfold maxLen; omega
  have hnw : v.ownBlock ≠ some mb := owns_block_ne ho hv (by decide)
  have Hp := Go.Lib.hid h
  have Hv := Go.Lib.hid hv
  have Hc := Go.Lib.hid hc
  clear h hv hc
  have hfz : ∀ (A : Obj), (w.alloc A).frozen? ⟨mb, 1, none⟩ = false := fun A => by
    show (w.alloc A).frozen? _ = false
    rw [World.frozen?_alloc_old _ _ _ (by simp; omega)]; exact f0
  have hcl : ∀ (A : Obj), (w.alloc A).cell? ⟨mb, 1, none⟩ = some v := fun A => by
    show (w.alloc A).cell? _ = _
    rw [World.cell?_alloc_old _ _ _ (by simp; omega)]; exact h0
  have hbs1 : ∀ (A : Obj), B ≤ (w.alloc A).heap.size := fun A => by simp; omega
  go_enter Tryd.func4, Tryd.ntmps4
  go_wp2_with (at_builtin; refine wpList_append_mine (by rfl) (.tmp 10) (.tmp 14) 24 (by rfl) B 41 i0 _ 2 16 Tryd.underlying24 hi0 hz0 hz1 hz2 rfl (by omega) v _ _ (by rfl) (ho.alloc _) ⟨w.heap.size, 0, none⟩ 1 1 [.int .i64 op, .int .i64 x] (by rfl) (by rfl) (World.news_of_block (cs := #[.int .i64 op, .int .i64 x]) (t := 41) (fr := (0, 0)) (heap_alloc_new w _)) (by simp [Value.oneCell']) hmx (by omega) (hbs1 _) ?_; intro p1 l1 c1 w1 hown1 hgrow; have cl1 : w1.cell? ⟨mb, 1, none⟩ = some v := (hgrow.cell_far _ (by simp; omega) (Ne.symm hnw)).trans (hcl _); have fz1 : w1.frozen? ⟨mb, 1, none⟩ = false := (hgrow.frozen_far _ (by simp; omega) (Ne.symm hnw)).trans (hfz _))
  go_end0
  exact ⟨rfl, Hp.out.put Hv.out Hc.out ho hown1 hgrow⟩
end Go.Proofs.YtkhicabfmkldpaaDoor

namespace Go.Proofs.YtkhicabfmkldpaaDoor
open Go.RowKit

/-- The next byte, and what is left. -/
def gByte : List Int → Int
  | [] => 0
  | c :: _ => c

theorem gByte_range {D : Nat} {da : Option Addr} {cap : Nat} {code : List Int} {w : World} (h : DataAt D da cap code w) : 0 ≤ gByte code ∧ gByte code < 256 := by
  cases code with
  | nil => exact ⟨by simp [gByte], by simp [gByte]⟩
  | cons c r => obtain ⟨_, _, _, _, _, h1, h2⟩ := h.at' 0 c rfl; exact ⟨h1, h2⟩

theorem GenAt.range {D B mb : Nat} {code : List Int} {ins : List (Int × Int)} {base : Int} {w : World} (h : GenAt D B mb code ins base w) : 0 ≤ gByte code ∧ gByte code < 256 := by
  obtain ⟨_, _, _, ⟨_, _, _, hd⟩, _⟩ := h.box
  exact gByte_range hd

theorem GenAt.setCode {D B mb : Nat} {code code' : List Int} {ins : List (Int × Int)} {base : Int} {w : World} (h : GenAt D B mb code ins base w) {da : Option Addr} {cap : Nat} (hd : DataAt D da cap code' w) :
    GenAt D B mb code' ins base (w.setCell ⟨mb, 0, none⟩ (.slice da code'.length cap)) ∧ GKeep B mb w (w.setCell ⟨mb, 0, none⟩ (.slice da code'.length cap)) := by
  obtain ⟨cv, v, hv, _, ho⟩ := h.box
  have k : GKeep B mb w (w.setCell ⟨mb, 0, none⟩ (.slice da code'.length cap)) := (GKeep.refl _ _ _).set (p := ⟨mb, 0, none⟩) (.inl rfl) _
  exact ⟨⟨⟨_, v, blk_set _ hv, ⟨da, cap, rfl, hd.keepG k h.db h.bm⟩, ownsRow_setCell_other ho (owns_block_ne ho hv (by decide)) _⟩, h.bm, h.db, Nat.le_trans h.bs k.size⟩, k⟩

theorem DataAt.tail {D : Nat} {b o cap : Nat} {c : Int} {r : List Int} {w : World} (h : DataAt D (some ⟨b, o, none⟩) cap (c :: r) w) : DataAt D (some ⟨b, o + 1, none⟩) (cap - 1) r w :=
  ⟨fun k x hx => by
    obtain ⟨b', o', e, h2, h3, h4⟩ := h.at' (k + 1) x (by simpa using hx)
    cases e
    exact ⟨b, o + 1, rfl, h2, by rw [show o + 1 + k = o + (k + 1) by omega]; exact h3, h4⟩, by have := h.few; simp at this; omega, by have := h.cap; simp at this; omega⟩

theorem DataAt.none {D : Nat} {da : Option Addr} {cap : Nat} {w : World} : DataAt D da cap [] w := ⟨fun _ _ h => by simp at h, by simp, by simp⟩

set_option maxRecDepth 100000 in
set_option maxHeartbeats 3200000 in
theorem byte_any {D B mb : Nat} {code : List Int} {ins : List (Int × Int)} {base : Int} {w : World} (h : GenAt D B mb code ins base w) :
    Calls Tryd.prog 13 #[.pointer (some ⟨mb, 0, none⟩)] w (GPost D B mb code.tail ins base (.int .i64 (gByte code)) w) := by
  obtain ⟨cv, v, hv, ⟨da, cap, rfl, hd⟩, ho⟩ := h.box
  have h0 : w.cell? ⟨mb, 0, none⟩ = some (.slice da code.length cap) := by rw [cell_of_row _ _ _ _ _ _ hv]; rfl
  have f0 : w.frozen? ⟨mb, 0, none⟩ = false := frozen_of_row _ _ _ _ _ hv
  have hfew := hd.few
  cases code with
  | nil =>
    go_enter Tryd.func13, Tryd.ntmps13
    go_wp2
    go_ret
    exact ⟨rfl, h, GKeep.refl _ _ _⟩
  | cons c r =>
    obtain ⟨b, o, rfl, hb, hc, hc0, hc1⟩ := hd.at' 0 c rfl
    have hcap := hd.cap
    have Hp := Go.Lib.hid h
    have Hd := Go.Lib.hid hd
    have Hv := Go.Lib.hid hv
    clear h hd hv
    simp only [List.length_cons, Nat.add_zero] at hfew hc hcap h0
    go_enter Tryd.func13, Tryd.ntmps13
    go_wp2
    · subst_vars
      cases r with
      | cons _ _ => simp at hcap
      | nil =>
        go_ret
        exact ⟨rfl, Hp.out.setCode DataAt.none⟩
    · go_ret
      exact ⟨rfl, Hp.out.setCode Hd.out.tail⟩
end Go.Proofs.YtkhicabfmkldpaaDoor

namespace Go.Proofs.YtkhicabfmkldpaaDoor
open Go.RowKit

def kindList : List Int := [1, 2, 3, 4, 5, 6, 7, 8, 10]

/-- The kind that a byte is. -/
def gKind (c : Int) : Int := if c % 8 = 0 then 11 + c.tdiv 8 % 6 else kindList[(c % 9).toNat]?.getD 1

theorem GenAt.alloc {D B mb : Nat} {code : List Int} {ins : List (Int × Int)} {base : Int} {w : World} (h : GenAt D B mb code ins base w) (o : Obj) : GenAt D B mb code ins base (w.alloc o) := by
  obtain ⟨cv, v, hv, ⟨da, cap, e, hd⟩, ho⟩ := h.box
  exact ⟨⟨cv, v, by rw [Below.heap_alloc _ _ _ (lt_of_block hv)]; exact hv, ⟨da, cap, e, hd.keepG ((GKeep.refl B mb w).alloc o) h.db h.bm⟩, ho.alloc o⟩, h.bm, h.db, by have := h.bs; simp; omega⟩
theorem GenAt.drewN {D B mb : Nat} {code : List Int} {ins : List (Int × Int)} {base : Int} {w : World} (h : GenAt D B mb code ins base w) (n : Nat) : GenAt D B mb code ins base (w.drewN n) := by
  obtain ⟨cv, v, hv, ⟨da, cap, e, hd⟩, ho⟩ := h.box
  exact ⟨⟨cv, v, hv, ⟨da, cap, e, ⟨hd.at', hd.few, hd.cap⟩⟩, ho⟩, h.bm, h.db, h.bs⟩

/-- A cell of a row of numbers just laid. -/
theorem lit_cell (w : World) (l : List Int) (t : TypeId) (k : Nat) (x : Int) (hk : l[k]? = some x) :
    (w.alloc (.cells ((l.map (Value.int .i64)).toArray) t)).cell? ⟨w.heap.size, k, none⟩ = some (.int .i64 x) := by
  rw [cell_of_row _ _ _ _ _ _ (heap_alloc_new w _)]
  simp [hk]

set_option maxRecDepth 100000 in
set_option maxHeartbeats 3200000 in
theorem kind_any {D B mb : Nat} {code : List Int} {ins : List (Int × Int)} {base : Int} {w : World} (h : GenAt D B mb code ins base w) :
    Calls Tryd.prog 20 #[.pointer (some ⟨mb, 0, none⟩)] w (GPost D B mb code.tail ins base (.int .i64 (gKind (gByte code))) w) := by
  have hr := h.range
  have HB := Go.Lib.hid (byte_any h)
  generalize hc : gByte code = c at *
  obtain ⟨hc0, hc1⟩ := hr
  have q8a : 0 ≤ c.tdiv 8 := Int.tdiv_nonneg hc0 (by omega)
  have q8b : c.tdiv 8 ≤ 255 := by have := Int.tdiv_le_self 8 hc0; omega
  obtain ⟨y, hy⟩ : ∃ y, kindList[(c % 9).toNat]? = some y := ⟨_, List.getElem?_eq_getElem (show (c % 9).toNat < 9 by omega)⟩
  have hcell : ∀ w1 : World, (w1.alloc (.cells #[.int .i64 1, .int .i64 2, .int .i64 3, .int .i64 4, .int .i64 5, .int .i64 6, .int .i64 7, .int .i64 8, .int .i64 10] 3)).cell? ⟨w1.heap.size, (c % 9).toNat, none⟩ = some (.int .i64 y) :=
    fun w1 => lit_cell w1 kindList 3 _ y hy
  have Hy := Go.Lib.hid hy
  clear hy
  go_enter Tryd.func20, Tryd.ntmps20
  go_wp2_with (go_at_call 13; refine (HB.out).mono ?_; rintro e w1 ⟨rfl, g1, k1⟩)
  · go_ret
    have h8 : c % 8 = 0 := by simp_all
    exact ⟨by simp [gKind, h8], g1, k1⟩
  · go_ret
    have h8 : ¬ c % 8 = 0 := by simp_all
    exact ⟨by simp [gKind, h8, Hy.out], g1.alloc _, k1.alloc _⟩
end Go.Proofs.YtkhicabfmkldpaaDoor

namespace Go.Proofs.YtkhicabfmkldpaaDoor
open Go.RowKit

theorem insCells_set (l : List (Int × Int)) : ∀ (k : Nat) (op y x : Int), l[k]? = some (op, y) → (insCells l).set (k * 2 + 1) (.int .i64 x) = insCells (l.set k (op, x)) := by
  induction l with
  | nil => intro k op y x h; cases h
  | cons p l ih =>
    intro k op y x h
    cases k with
    | zero => simp at h; subst h; rfl
    | succ k =>
      have := ih k op y x (by simpa using h)
      rw [show (k + 1) * 2 + 1 = k * 2 + 1 + 1 + 1 by omega]
      simpa [insCells] using this

theorem GenAt.cell1 {D B mb : Nat} {code : List Int} {ins : List (Int × Int)} {base : Int} {w : World} (h : GenAt D B mb code ins base w) : ∃ p c, w.cell? ⟨mb, 1, none⟩ = some (.slice p ins.length c) := by
  obtain ⟨cv, v, hv, _, ho⟩ := h.box
  have : w.cell? ⟨mb, 1, none⟩ = some v := by rw [cell_of_row _ _ _ _ _ _ hv]; rfl
  rcases ho.2 with ⟨rfl, h0⟩ | ⟨g, cap, cur, rfl, _⟩
  · exact ⟨none, 0, by rw [this, h0]⟩
  · exact ⟨_, cap, this⟩

theorem GenAt.patch {D B mb : Nat} {code : List Int} {ins : List (Int × Int)} {base : Int} {w : World} (h : GenAt D B mb code ins base w) {k : Nat} {op y : Int} (hk : ins[k]? = some (op, y)) :
    ∃ g c, w.cell? ⟨mb, 1, none⟩ = some (.slice (some ⟨g, 0, none⟩) ins.length c) ∧ ins.length ≤ c ∧ w.cell? ⟨g, k * 2 + 1, none⟩ = some (.int .i64 y) ∧ w.frozen? ⟨g, k * 2 + 1, none⟩ = false ∧
      ∀ x, GenAt D B mb code (ins.set k (op, x)) base (w.setCell ⟨g, k * 2 + 1, none⟩ (.int .i64 x)) ∧ GKeep B mb w (w.setCell ⟨g, k * 2 + 1, none⟩ (.int .i64 x)) := by
  obtain ⟨cv, v, hv, ⟨da, dc, e, hd⟩, ho⟩ := h.box
  have hlt : k < ins.length := (List.getElem?_eq_some_iff.1 hk).1
  have hc1 : w.cell? ⟨mb, 1, none⟩ = some v := by rw [cell_of_row _ _ _ _ _ _ hv]; rfl
  have hne := owns_block_ne ho hv (by decide)
  rcases ho.2 with ⟨rfl, h0⟩ | ⟨g, cap, cur, rfl, hg, hh, hcap, _⟩
  · omega
  · have hgm : g ≠ mb := by rintro rfl; exact hne rfl
    refine ⟨g, cap, hc1, hcap, ?_, ho.frozenAt _, fun x => ?_⟩
    · rw [ho.cellAt _ (by omega)]
      exact (insCells_get ins k op y hk).2
    · have kk : GKeep B mb w (w.setCell ⟨g, k * 2 + 1, none⟩ (.int .i64 x)) := (GKeep.refl _ _ _).set (p := ⟨g, k * 2 + 1, none⟩) (.inr ⟨hg, fun o ho' => by
        rw [show w.heap[(⟨g, k * 2 + 1, none⟩ : Addr).block]? = _ from hh] at ho'
        cases ho'
        rfl⟩) _
      refine ⟨⟨⟨cv, .slice (some ⟨g, 0, none⟩) ins.length cap, ?_, ⟨da, dc, e, hd.keepG kk h.db h.bm⟩, ?_⟩, h.bm, h.db, Nat.le_trans h.bs kk.size⟩, kk⟩
      · rw [Below.heap_setCell _ _ _ _ (Ne.symm hgm)]; exact hv
      · have := (ho.stored (k * 2 + 1) (.int .i64 x)).1
        rw [insCells_set ins k op y x hk] at this
        rw [List.length_set]
        exact this

theorem GenAt.drew {D B mb : Nat} {code : List Int} {ins : List (Int × Int)} {base : Int} {w : World} (h : GenAt D B mb code ins base w) : GenAt D B mb code ins base w.drew := h.drewN 1
theorem GKeep.drew {B mb : Nat} {a w : World} (h : GKeep B mb a w) : GKeep B mb a w.drew := h.drewN 1

/-- What a loop lays about its body. -/
def loopIns (ins ys : List (Int × Int)) : List (Int × Int) :=
  ins ++ [(12, 0), (14, (ins.length : Int) + ys.length + 6), (19, 0)] ++ ys ++ [(20, 0), (16, -1), (11, (ins.length : Int))]

theorem loop_set (ins ys : List (Int × Int)) (x : Int) :
    (ins ++ [(12, 0)] ++ [(14, 0)] ++ [(19, 0)] ++ ys ++ [(20, 0)] ++ [(16, -1)] ++ [(11, (ins.length : Int))]).set (ins.length + 1) (14, x) =
      ins ++ [(12, 0), (14, x), (19, 0)] ++ ys ++ [(20, 0), (16, -1), (11, (ins.length : Int))] := by
  simp [List.append_assoc]

set_option maxRecDepth 100000 in
set_option maxHeartbeats 6400000 in
theorem loop_any {D B mb : Nat} {code code' : List Int} {ins ys : List (Int × Int)} {base base' : Int} {w : World} (h : GenAt D B mb code ins base w) (hl : ins.length < 50000) (hy : ys.length < 40000)
    (f : FuncId) (cap : Array Value) (hcf : ∀ w : World, (callFunc f cap).run Tryd.prog w = .ok (.enter f cap) w)
    (hf : ∀ w1, GenAt D B mb code (ins ++ [(12, 0)] ++ [(14, 0)] ++ [(19, 0)]) base w1 → GKeep B mb w w1 →
      Calls Tryd.prog f cap w1 (GPost D B mb code' (ins ++ [(12, 0)] ++ [(14, 0)] ++ [(19, 0)] ++ ys) base' (.tuple #[]) w1)) :
    Calls Tryd.prog 5 #[.pointer (some ⟨mb, 0, none⟩), .func (.func f) #[] cap] w (GPost D B mb code' (loopIns ins ys) base' (.tuple #[]) w) := by
  obtain ⟨p0, q0, c0⟩ := h.cell1
  have G := Go.Lib.hid h
  have K := Go.Lib.hid (GKeep.refl B mb w)
  have F := Go.Lib.hid hf
  clear h hf
  go_enter Tryd.func5, Tryd.ntmps5
  go_wp2_with (first
    | (go_at_call 4
       refine (put_any G.out (by (try simp only [List.length_append, List.length_cons, List.length_nil]); omega) _ _).mono ?_
       rintro e w1 ⟨rfl, g, k⟩
       have K2 := Go.Lib.hid (K.out.trans k)
       obtain ⟨p0, q0, c0⟩ := g.cell1
       have G2 := Go.Lib.hid g
       clear G K g k
       have G := G2; have K := K2; clear G2 K2)
    | (refine (F.out _ G.out K.out).mono ?_
       rintro e w1 ⟨rfl, g, k⟩
       have K2 := Go.Lib.hid (K.out.trans k)
       have G2 := Go.Lib.hid g
       clear G K g k
       have G := G2; have K := K2; clear G2 K2))
  obtain ⟨g, c, pc, pl, pv, pf, pp⟩ := G.out.patch (k := ins.length + 1) (op := 14) (y := 0) (by simp [List.append_assoc])
  simp only [List.length_append, List.length_cons, List.length_nil, Nat.zero_add] at pc pl
  clear c0
  have P' := Go.Lib.hid pp
  have hb1 : ins.length + 1 < ins.length + 1 + 1 + 1 + ys.length + 1 + 1 + 1 := by omega
  have hb2 : (ins.length : Int) + 1 < (ins.length : Int) + 1 + 1 + 1 + ys.length + 1 + 1 + 1 := by omega
  clear pp
  go_region
  go_end0
  have P := P'.out ((ins.length : Int) + 1 + 1 + 1 + ys.length + 1 + 1 + 1)
  rw [loop_set] at P
  have e : (ins.length : Int) + 1 + 1 + 1 + ys.length + 1 + 1 + 1 = (ins.length : Int) + ys.length + 6 := by omega
  refine ⟨rfl, ?_, ?_⟩
  · have := P.1.drew
    rw [e] at this
    simpa [loopIns, e] using this
  · simpa using ((K.out).trans P.2).drew
end Go.Proofs.YtkhicabfmkldpaaDoor

namespace Go.Proofs.YtkhicabfmkldpaaDoor
open Go.RowKit

/-- An instruction whose operand may count from where the part begins. -/
structure RI where
  op : Int
  x : Int
  rel : Bool

def reloc (p : Nat) (r : RI) : Int × Int := (r.op, if r.rel then r.x + p else r.x)
abbrev GS := List Int × List RI

def gBodyN (st : GS → GS) : Nat → GS → GS
  | 0, s => s
  | n + 1, s => if s.1 ≠ [] ∧ s.2.length < 120 then gBodyN st n (st s) else s

def gBody (st : GS → GS) (s : GS) : GS := gBodyN st (gByte s.1 % 5).toNat (s.1.tail, s.2)

def opsList10 : List Int := [15, 16, 17, 18]
def opsList11 : List Int := [7, 21, 22, 1]
def opsList12 : List Int := [12, 13]

/-- What statement c adds; s: what is left behind its own byte. -/
def gCase (body : GS → GS) (c : Int) (s : GS) : GS :=
  if c = 0 then (s.1.tail, s.2 ++ [⟨0, gKind (gByte s.1), false⟩])
  else if c = 1 then (s.1.tail, s.2 ++ [⟨1, gKind (gByte s.1), false⟩])
  else if c < 6 then (s.1.tail, s.2 ++ [⟨0, gKind (gByte s.1), false⟩] ++ [⟨1, gKind (gByte s.1), false⟩])
  else if c < 8 then
    let t := body (s.1.tail, s.2 ++ [⟨2, gByte s.1 % 6, false⟩])
    (t.1.tail, (if gByte t.1 % 4 = 0 then t.2 ++ [⟨4, 0, false⟩] else t.2) ++ [⟨3, 0, false⟩])
  else if c = 8 then
    let t := body (s.1, s.2 ++ [⟨5, 0, false⟩])
    (t.1, t.2 ++ [⟨3, 0, false⟩])
  else if c = 9 then
    let t := body (s.1, s.2 ++ [⟨0, 8, false⟩] ++ [⟨6, 0, false⟩])
    (t.1, t.2 ++ [⟨3, 0, false⟩])
  else if c = 10 then (s.1.tail.tail, s.2 ++ [⟨opsList10[(gByte s.1 % 4).toNat]?.getD 15, gByte s.1.tail % 9 - 3, false⟩])
  else if c = 11 then (s.1.tail.tail, s.2 ++ [⟨opsList11[(gByte s.1 % 4).toNat]?.getD 7, gByte s.1.tail % 6, false⟩])
  else if c = 12 then
    let l := s.2 ++ [⟨opsList12[(gByte s.1 % 2).toNat]?.getD 12, gByte s.1.tail % 5 - 1, false⟩]
    let t := body (s.1.tail.tail, l ++ [⟨14, 0, false⟩])
    (t.1, t.2.set l.length ⟨14, (t.2.length : Int), true⟩)
  else if c < 15 then
    let l := s.2 ++ [⟨15, gByte s.1 % 4, false⟩]
    let t := body (s.1.tail, l ++ [⟨12, 0, false⟩] ++ [⟨14, 0, false⟩] ++ [⟨19, 0, false⟩])
    (t.1, t.2.set (l.length + 1) ⟨14, (t.2.length : Int) + 3, true⟩ ++ [⟨20, 0, false⟩] ++ [⟨16, -1, false⟩] ++ [⟨11, (l.length : Int), true⟩])
  else s

def gMap (leaf : Bool) (c : Int) : Int := if leaf = true ∧ 6 ≤ c ∧ c ≠ 10 ∧ c ≠ 11 then c % 6 else c

def gStm (body : GS → GS) (leaf : Bool) (s : GS) : GS := gCase body (gMap leaf (gByte s.1 % 16)) (s.1.tail, s.2)

/-- The instructions that are there. -/
def abs (pre : List (Int × Int)) (l : List RI) : List (Int × Int) := pre ++ l.map (reloc pre.length)

theorem abs_snoc (pre : List (Int × Int)) (l : List RI) (r : RI) : abs pre (l ++ [r]) = abs pre l ++ [reloc pre.length r] := by simp [abs]
theorem abs_length (pre : List (Int × Int)) (l : List RI) : (abs pre l).length = pre.length + l.length := by simp [abs]

/-- A body's contract. -/
def BodyCalls (d : Int) (body : GS → GS) : Prop := ∀ (D B mb : Nat) (pre : List (Int × Int)) (s : GS) (w : World), GenAt D B mb s.1 (abs pre s.2) (pre.length : Int) w → pre.length ≤ 100 → s.2.length ≤ 1000 →
  Calls Tryd.prog 7 #[.pointer (some ⟨mb, 0, none⟩), .int .i64 d] w (GPost D B mb (body s).1 (abs pre (body s).2) (pre.length : Int) (.tuple #[]) w)

/-- A statement's contract. -/
def StmCalls (d : Int) (st : GS → GS) : Prop := ∀ (D B mb : Nat) (pre : List (Int × Int)) (s : GS) (w : World), GenAt D B mb s.1 (abs pre s.2) (pre.length : Int) w → pre.length ≤ 100 → s.2.length < 120 →
  Calls Tryd.prog 14 #[.pointer (some ⟨mb, 0, none⟩), .int .i64 d] w (GPost D B mb (st s).1 (abs pre (st s).2) (pre.length : Int) (.tuple #[]) w)

theorem GenAt.cell0 {D B mb : Nat} {code : List Int} {ins : List (Int × Int)} {base : Int} {w : World} (h : GenAt D B mb code ins base w) : ∃ p c, w.cell? ⟨mb, 0, none⟩ = some (.slice p code.length c) := by
  obtain ⟨cv, v, hv, ⟨da, cap, rfl, hd⟩, ho⟩ := h.box
  exact ⟨da, cap, by rw [cell_of_row _ _ _ _ _ _ hv]; rfl⟩
theorem GenAt.cell4 {D B mb : Nat} {code : List Int} {ins : List (Int × Int)} {base : Int} {w : World} (h : GenAt D B mb code ins base w) : w.cell? ⟨mb, 4, none⟩ = some (.int .i64 base) := by
  obtain ⟨cv, v, hv, _, ho⟩ := h.box
  rw [cell_of_row _ _ _ _ _ _ hv]; rfl
theorem GenAt.cell3 {D B mb : Nat} {code : List Int} {ins : List (Int × Int)} {base : Int} {w : World} (h : GenAt D B mb code ins base w) : w.cell? ⟨mb, 3, none⟩ = some (.int .i64 2) := by
  obtain ⟨cv, v, hv, _, ho⟩ := h.box
  rw [cell_of_row _ _ _ _ _ _ hv]; rfl
theorem GenAt.codeFew {D B mb : Nat} {code : List Int} {ins : List (Int × Int)} {base : Int} {w : World} (h : GenAt D B mb code ins base w) : code.length ≤ 1000 := by
  obtain ⟨cv, v, hv, ⟨da, cap, rfl, hd⟩, ho⟩ := h.box
  exact hd.few

theorem GenAt.insFew {D B mb : Nat} {code : List Int} {ins : List (Int × Int)} {base : Int} {w : World} (h : GenAt D B mb code ins base w) : ins.length ≤ maxLen := by
  obtain ⟨cv, v, hv, _, ho⟩ := h.box
  rcases ho.2 with ⟨rfl, h0⟩ | ⟨g, cap, cur, rfl, _, _, h1, h2, _⟩ <;> omega

set_option maxRecDepth 100000 in
set_option maxHeartbeats 6400000 in
theorem body_any {d : Int} {st : GS → GS} (hst : StmCalls d st) : BodyCalls d (gBody st) := by
  intro D B mb pre s w h hp hl
  have HB := Go.Lib.hid (byte_any h)
  have hr := h.range
  have HS := Go.Lib.hid hst
  have hn0 : 0 ≤ gByte s.1 % 5 := by omega
  have hn1 : gByte s.1 % 5 < 5 := by omega
  clear h hst
  go_enter Tryd.func7, Tryd.ntmps7
  go_wp2_with (go_at_call 13; refine (HB.out).mono ?_; rintro e w1 ⟨rfl, g1, k1⟩)
  have G1 := Go.Lib.hid g1
  have K1 := Go.Lib.hid k1
  clear g1 k1
  go_loopg [4] ((gByte s.1 % 5).toNat + 1) (fun g cv wr => ∃ (k : Nat) (s' : GS), g = k + 1 ∧ k ≤ 4 ∧ cv = .int .i64 (k : Int) ∧ GenAt D B mb s'.1 (abs pre s'.2) (pre.length : Int) wr ∧ GKeep B mb w wr ∧ gBodyN st k s' = gBody st s)
  case atStart => exact ⟨_, (s.1.tail, s.2), rfl, by omega, by rw [Int.toNat_of_nonneg hn0], G1.out, K1.out, rfl⟩
  case round =>
    obtain ⟨k, s', rfl, hk4, rfl, g2, k2, hk⟩ := hrel
    have G2 := Go.Lib.hid g2
    have K2 := Go.Lib.hid k2
    have Hk := Go.Lib.hid hk
    obtain ⟨p0, q0, c0⟩ := g2.cell0
    obtain ⟨p1, q1, c1⟩ := g2.cell1
    have c4 := g2.cell4
    have b0 := g2.codeFew
    have b1 := g2.insFew
    rw [abs_length] at c1 b1
    unfold maxLen at b1
    clear g2 k2 hk
    cases k with
    | zero =>
      go_wp2
      go_quiet (fail)
      dsimp only [Exit.then]
      rename_i K hK
      refine hK _ _ ?_
      go_wp2
      have e : gBodyN st 0 s' = s' := rfl
      have e2 : gBody st s = s' := Hk.out.symm.trans e
      go_end0
      rw [e2]
      exact ⟨rfl, G2.out.drewN _, K2.out.drewN _⟩
    | succ k =>
      have hk0 : (0 : Int) < ((k + 1 : Nat) : Int) := by omega
      by_cases hc : s'.1 = []
      · have hz : decide (0 < s'.1.length) = false := by rw [hc]; rfl
        go_wp2
        go_quiet (fail)
        dsimp only [Exit.then]
        rename_i K hK
        refine hK _ _ ?_
        go_wp2
        have e : gBodyN st (k + 1) s' = s' := by show (if _ then _ else _) = s'; rw [if_neg (by simp [hc])]
        have e2 : gBody st s = s' := Hk.out.symm.trans e
        go_end0
        rw [e2]
        exact ⟨rfl, G2.out.drewN _, K2.out.drewN _⟩
      · have hz : 0 < s'.1.length := List.length_pos_iff.2 hc
        by_cases hm : s'.2.length < 120
        · have hm1 : (pre.length : Int) + (s'.2.length : Int) - (pre.length : Int) < 120 := by omega
          go_wp2
          go_quiet (fail)
          dsimp only [Exit.then]
          rename_i K hK
          refine hK _ _ ?_
          go_wp2_with (go_at_call 14; refine (HS.out D B mb pre s' _ (G2.out.drewN _) hp hm).mono ?_; rintro e w3 ⟨rfl, g3, k3⟩)
          have e : gBodyN st (k + 1) s' = gBodyN st k (st s') := by show (if _ then _ else _) = _; rw [if_pos ⟨hc, hm⟩]
          go_roundg (k + 1)
          case rel => exact ⟨k, st s', by omega, by omega, rfl, g3, (K2.out.drewN _).trans k3, e.symm.trans Hk.out⟩
          case measure => omega
        · have hm1 : decide ((pre.length : Int) + (s'.2.length : Int) - (pre.length : Int) < 120) = false := by rw [decide_eq_false_iff_not]; omega
          go_wp2
          go_quiet (fail)
          dsimp only [Exit.then]
          rename_i K hK
          refine hK _ _ ?_
          go_wp2
          have e : gBodyN st (k + 1) s' = s' := by show (if _ then _ else _) = s'; rw [if_neg (by simp [hm])]
          have e2 : gBody st s = s' := Hk.out.symm.trans e
          go_end0
          rw [e2]
          exact ⟨rfl, G2.out.drewN _, K2.out.drewN _⟩
end Go.Proofs.YtkhicabfmkldpaaDoor

namespace Go.Proofs.YtkhicabfmkldpaaDoor
open Go.RowKit

/-- A statement is being made: its two boxes lie at N and N + 1; X: what else is laid by it. -/
structure StAt (D B mb N : Nat) (d : Int) (pre : List (Int × Int)) (w0 : World) (X : List (Nat × Obj)) (s : GS) (w : World) : Prop where
  gen : GenAt D B mb s.1 (abs pre s.2) (pre.length : Int) w
  keep : GKeep B mb w0 w
  box0 : w.heap[N]? = some (.cells #[.pointer (some ⟨mb, 0, none⟩)] 23 (0, 0))
  box1 : w.heap[N + 1]? = some (.cells #[.int .i64 d] 3 (0, 0))
  ne0 : N ≠ mb
  ne1 : N + 1 ≠ mb
  all : ∀ b o, (b, o) ∈ X → w.heap[b]? = some o ∧ b ≠ mb ∧ notIns o = true

section
variable {D B mb N : Nat} {d : Int} {pre : List (Int × Int)} {w0 : World} {X : List (Nat × Obj)} {s : GS} {w : World}

theorem StAt.begin (h : GenAt D B mb s.1 (abs pre s.2) (pre.length : Int) w) :
    StAt D B mb w.heap.size d pre w [] s ((w.alloc (.cells #[.pointer (some ⟨mb, 0, none⟩)] 23)).alloc (.cells #[.int .i64 d] 3)) := by
  have := h.lt
  refine ⟨(h.alloc _).alloc _, ((GKeep.refl _ _ _).alloc _).alloc _, ?_, ?_, by omega, by omega, fun b o hb => by cases hb⟩
  · rw [Below.heap_alloc _ _ _ (by simp)]; exact heap_alloc_new _ _
  · exact heap_alloc2_new _ _ _

theorem StAt.drewN (h : StAt D B mb N d pre w0 X s w) (n : Nat) : StAt D B mb N d pre w0 X s (w.drewN n) := ⟨h.gen.drewN n, h.keep.drewN n, h.box0, h.box1, h.ne0, h.ne1, h.all⟩
theorem StAt.drew (h : StAt D B mb N d pre w0 X s w) : StAt D B mb N d pre w0 X s w.drew := h.drewN 1
theorem StAt.alloc (h : StAt D B mb N d pre w0 X s w) (cs : Array Value) : StAt D B mb N d pre w0 ((w.heap.size, .cells cs 3) :: X) s (w.alloc (.cells cs 3)) :=
  ⟨h.gen.alloc _, h.keep.alloc _, by rw [Below.heap_alloc _ _ _ (lt_of_block h.box0)]; exact h.box0, by rw [Below.heap_alloc _ _ _ (lt_of_block h.box1)]; exact h.box1, h.ne0, h.ne1, fun b o hb => by
    rcases List.mem_cons.1 hb with e | hb
    · cases e
      exact ⟨heap_alloc_new _ _, by have := h.gen.lt; omega, rfl⟩
    · obtain ⟨h1, h2, h3⟩ := h.all b o hb
      exact ⟨by rw [Below.heap_alloc _ _ _ (lt_of_block h1)]; exact h1, h2, h3⟩⟩
theorem StAt.c0 (h : StAt D B mb N d pre w0 X s w) : w.cell? ⟨N, 0, none⟩ = some (.pointer (some ⟨mb, 0, none⟩)) := by rw [cell_of_row _ _ _ _ _ _ h.box0]; rfl
theorem StAt.c1 (h : StAt D B mb N d pre w0 X s w) : w.cell? ⟨N + 1, 0, none⟩ = some (.int .i64 d) := by rw [cell_of_row _ _ _ _ _ _ h.box1]; rfl
theorem StAt.cx {b : Nat} {cs : Array Value} {k : Nat} {y : Int} (h : StAt D B mb N d pre w0 ((b, .cells cs 3) :: X) s w) (hk : cs[k]? = some (.int .i64 y)) : w.cell? ⟨b, k, none⟩ = some (.int .i64 y) := by
  rw [cell_of_row _ _ _ _ _ _ (h.all _ _ (List.mem_cons_self ..)).1]; exact hk

theorem StAt.step {w' : World} {s' : GS} (h : StAt D B mb N d pre w0 X s w) (g : GenAt D B mb s'.1 (abs pre s'.2) (pre.length : Int) w') (k : GKeep B mb w w') : StAt D B mb N d pre w0 X s' w' :=
  ⟨g, h.keep.trans k, k.keep _ _ h.box0 h.ne0 (.inr rfl), k.keep _ _ h.box1 h.ne1 (.inr rfl), h.ne0, h.ne1, fun b o hb => by
    obtain ⟨h1, h2, h3⟩ := h.all b o hb
    exact ⟨k.keep _ _ h1 h2 (.inr h3), h2, h3⟩⟩

/-- The end of a part of a statement. -/
def StEnd (D B mb N : Nat) (d : Int) (pre : List (Int × Int)) (w0 : World) (X : List (Nat × Obj)) (s : GS) (v : Value) (e : Ending) (w' : World) : Prop := e = .returned v ∧ StAt D B mb N d pre w0 X s w'

theorem StAt.put (h : StAt D B mb N d pre w0 X s w) (hp : pre.length ≤ 100) (hl : s.2.length < 50000) (op x : Int) :
    Calls Tryd.prog 4 #[.pointer (some ⟨mb, 0, none⟩), .int .i64 op, .int .i64 x] w (StEnd D B mb N d pre w0 X (s.1, s.2 ++ [⟨op, x, false⟩]) (.tuple #[])) := by
  refine (put_any h.gen (by rw [abs_length]; omega) op x).mono ?_
  rintro e w' ⟨rfl, g, k⟩
  exact ⟨rfl, h.step (s' := (s.1, s.2 ++ [⟨op, x, false⟩])) (by rw [abs_snoc]; exact g) k⟩
theorem StAt.byte (h : StAt D B mb N d pre w0 X s w) :
    Calls Tryd.prog 13 #[.pointer (some ⟨mb, 0, none⟩)] w (StEnd D B mb N d pre w0 X (s.1.tail, s.2) (.int .i64 (gByte s.1))) := by
  refine (byte_any h.gen).mono ?_
  rintro e w' ⟨rfl, g, k⟩
  exact ⟨rfl, h.step (s' := (s.1.tail, s.2)) g k⟩
theorem StAt.kind (h : StAt D B mb N d pre w0 X s w) :
    Calls Tryd.prog 20 #[.pointer (some ⟨mb, 0, none⟩)] w (StEnd D B mb N d pre w0 X (s.1.tail, s.2) (.int .i64 (gKind (gByte s.1)))) := by
  refine (kind_any h.gen).mono ?_
  rintro e w' ⟨rfl, g, k⟩
  exact ⟨rfl, h.step (s' := (s.1.tail, s.2)) g k⟩
theorem StAt.body (h : StAt D B mb N d pre w0 X s w) (hp : pre.length ≤ 100) (hl : s.2.length ≤ 1000) {d' : Int} {body : GS → GS} (hb : BodyCalls d' body) :
    Calls Tryd.prog 7 #[.pointer (some ⟨mb, 0, none⟩), .int .i64 d'] w (StEnd D B mb N d pre w0 X (body s) (.tuple #[])) := by
  refine (hb D B mb pre s w h.gen hp hl).mono ?_
  rintro e w' ⟨rfl, g, k⟩
  exact ⟨rfl, h.step g k⟩
end

/-- A body only adds, and no more than so much. -/
def Ext (M : Nat) (body : GS → GS) : Prop := ∀ s, ∃ ys, (body s).2 = s.2 ++ ys ∧ ys.length ≤ M

theorem Ext.le {M : Nat} {body : GS → GS} (h : Ext M body) (s : GS) : (body s).2.length ≤ s.2.length + M := by
  obtain ⟨ys, h1, h2⟩ := h s
  rw [h1, List.length_append]; omega

end Go.Proofs.YtkhicabfmkldpaaDoor
