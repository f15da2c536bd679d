/- The methods of the noting field: each call is noted. -/
import Derived.Test.YtkhicabfmkldpaaDoorRd
import Derived.Deep.RegionHeld3
import Derived.Deep.AppendLies
namespace Go.Proofs.YtkhicabfmkldpaaDoor
open Go.RowKit

/-- The builtin append onto what the call owns, as one step of a region that draws its order. -/
theorem step_append_mine {P : Program} {ops : Array Oper} {o : Oper} {a : Act} {w : World} {K : Act → World → Prop} {Q : Exit → Act → World → Prop} {E : Prop} (hg : o.guard = none)
    (s x : Operand) (t : TypeId) (hop : o.op = Op.call { callee := Callee.builtin Builtin.append, args := #[s, x], argTypes := #[t, t] })
    (base : Nat) (e : TypeId) (i : TypeInfo) (z : Value) (size bytes : Nat) (ht : P.underlying t = some (.slice e)) (hi : P.info? e = some i) (hz : i.zero = some z)
    (hsize : i.size = size) (hby : i.bytes = bytes) (hzs : z.cells.size = size) (hsz : 0 < size)
    (v : Value) (n : Nat) (xs : List Value) (hs : a.eval s = v) (hown : w.ownsRow base e size v n xs)
    (ad : Addr) (m c : Nat) (news : List Value) (hx : a.eval x = .slice (some ad) m c) (hl : news.length = m * size) (hnews : ∀ j u, news[j]? = some u → w.cell? (ad.add j) = some u) (h1 : ∀ u ∈ news, u.oneCell' = true)
    (h63 : n + m ≤ maxLen) (hbytes : (n + m) * bytes ≤ 140737488355328) (hbase : base ≤ w.heap.size)
    (h : ∀ p l c w', w'.ownsRow base e size (.slice p l c) (n + m) (xs ++ news) → w.grownBy w' v.ownBlock → K (a.put o.dst (.slice p l c)) w') :
    if Region.wanted o (yielded ops a.tmps) = true then Oper.wp P o a w K Q else E := by
  have hw : Region.wanted o (yielded ops a.tmps) = true := by simp [Region.wanted, hg]
  rw [if_pos hw]
  refine wp_append_own w s x t hop base e i z size bytes ht hi hz hsize hby hzs hsz v n xs hs hown ad m c news hx hl hnews h1 h63 hbytes hbase fun v' w' h2 h3 _ => ?_
  rcases h2.2 with ⟨rfl, _⟩ | ⟨g, cap, cur, rfl, _⟩
  · exact h _ _ _ w' h2 h3
  · exact h _ _ _ w' h2 h3

theorem info52 : (Tryd.prog.info? 52).map (fun i => (i.zero, i.size, i.bytes)) = some (some (.agg #[.string ByteArray.empty, .int .i64 0, .string ByteArray.empty, .int .i64 0]), 4, 48) := by kernel_rfl

theorem ownsRow_drew {w : World} {base : Nat} {e : TypeId} {size : Nat} {v : Value} {n : Nat} {xs : List Value} (h : w.ownsRow base e size v n xs) : w.drew.ownsRow base e size v n xs := h

theorem four_new (w : World) (a b c d : Value) (t : TypeId) : ∀ j u, [a, b, c, d][j]? = some u → (w.alloc (.cells #[a, b, c, d] t)).cell? ((⟨w.heap.size, 0, none⟩ : Addr).add j) = some u := by
  intro j u hj
  match j, hj with
  | 0, hj => simp at hj; subst hj; simp [Addr.add]
  | 1, hj => simp at hj; subst hj; simp [Addr.add]
  | 2, hj => simp at hj; subst hj; simp [Addr.add]
  | 3, hj => simp at hj; subst hj; simp [Addr.add]
  | j + 4, hj => simp at hj

/-- What stands behind the append and the store. -/
theorem note_close {R : Rig} {s : St} {w w1 : World} {v p1 : Value} {A B : Obj} {x : Note} (hR : R.Ok) (h : Inv R s w)
    (hv : w.heap[R.nb]? = some (.cells #[v, .int .i64 (s.fields : Int)] 56 (0, 0)))
    (ho : w.ownsRow R.base 52 4 v s.notes.length (notesCells s.notes)) (hfew : s.notes.length < 4194304)
    (hown1 : w1.ownsRow R.base 52 4 p1 (s.notes.length + 1) (notesCells s.notes ++ x.cells)) (hgrow : ((w.alloc A).alloc B).drew.grownBy w1 v.ownBlock) :
    RdPost R { s with notes := s.notes ++ [x] } (.tuple #[]) w (.returned (.tuple #[])) (w1.setCell ⟨R.nb, 0, none⟩ p1) := by
  have hbs := h.base hR
  have gg : w.grownBy w1 v.ownBlock :=
    ((World.grownBy_alloc w A _).trans ((World.grownBy_alloc _ B _).trans (⟨rfl, rfl, rfl, Nat.le_refl _, fun _ _ _ => rfl⟩ : World.grownBy ((w.alloc A).alloc B) ((w.alloc A).alloc B).drew _))).trans hgrow
  refine ⟨rfl, h.addNote hR hv ho hown1 gg hfew, ?_⟩
  have k1 : Keeps R w w1 := (Keeps.refl R w).grown gg hbs (fun k hk => by
    rcases ho.2 with ⟨rfl, _⟩ | ⟨g, cap, cur, rfl, h1, h2, _⟩
    · cases hk
    · simp [Value.ownBlock] at hk
      subst hk
      exact ⟨h1, _, _, h2⟩)
  exact k1.setCell hR.n (.inl (by simp [Rig.own])) _

set_option maxRecDepth 100000 in
set_option maxHeartbeats 3200000 in
theorem note_any {R : Rig} {s : St} {w : World} (hR : R.Ok) (h : Inv R s w) (name str : ByteArray) (n tg : Int) (hfew : s.notes.length < 4194304) :
    Calls Tryd.prog 85 #[.agg #[.pointer (some ⟨R.nb, 0, none⟩), .int .i64 tg], .string name, .int .i64 n, .string str] w (RdPost R { s with notes := s.notes ++ [⟨name, n, str, tg⟩] } (.tuple #[]) w) := by
  obtain ⟨v, hv, ho⟩ := h.notes
  obtain ⟨i0, hi0, hz0, hz1, hz2⟩ := info_parts info52
  have hnb := lt_of_block hv
  have hbs := h.base hR
  have h0 : w.cell? ⟨R.nb, 0, none⟩ = some v := by rw [cell_of_row _ _ _ _ _ _ hv]; rfl
  have f0 : w.frozen? ⟨R.nb, 0, none⟩ = false := frozen_of_row _ _ _ _ _ hv
  have Hp := Go.Lib.hid h
  have Hv := Go.Lib.hid hv
  have hnw := owns_not ho hv (by decide)
  have hnb2 : v.ownBlock ≠ some w.heap.size := fun e => by have := (ho.lt _ e).2; omega
  clear h hv
  have hfz : ∀ (A B : Obj), ((w.alloc A).alloc B).drew.frozen? ⟨R.nb, 0, none⟩ = false := fun A B => by
    show ((w.alloc A).alloc B).frozen? _ = false
    rw [World.frozen?_alloc_old _ _ _ (by simp; omega), World.frozen?_alloc_old _ _ _ (by simp; omega)]; exact f0
  have hcl : ∀ (A B : Obj), ((w.alloc A).alloc B).drew.cell? ⟨R.nb, 0, none⟩ = some v := fun A B => by
    show ((w.alloc A).alloc B).cell? _ = _
    rw [World.cell?_alloc_old _ _ _ (by simp; omega), World.cell?_alloc_old _ _ _ (by simp; omega)]; exact h0
  have hbx : ∀ (x y : Value) (B : Obj), ((w.alloc (.cells #[x, y] 69)).alloc B).drew.cell? ⟨w.heap.size, 0, none⟩ = some x := fun x y B => by
    show ((w.alloc _).alloc B).cell? _ = _
    rw [World.cell?_alloc_old _ _ _ (by simp)]; simp
  have hmx : s.notes.length + 1 ≤ maxLen := by unfold maxLen; omega
  have hbs2 : ∀ (A B : Obj), R.base ≤ ((w.alloc A).alloc B).drew.heap.size := fun A B => by simp; omega
  go_enter Tryd.func85, Tryd.ntmps85
  go_wp2
  go_region_law
    (((refine step_append_mine (by rfl) (.tmp 14) (.tmp 21) 32 (by rfl) R.base 52 i0 _ 4 48 Tryd.underlying32 hi0 hz0 hz1 hz2 rfl (by omega) v _ _ (by rfl) (ownsRow_drew ((ho.alloc _).alloc _)) ⟨w.heap.size + 1, 0, none⟩ 1 1 [.string name, .int .i64 n, .string str, .int .i64 tg] (by rfl) (by rfl) (World.news_of_block (cs := #[.string name, .int .i64 n, .string str, .int .i64 tg]) (t := 52) (fr := (0, 0)) (heap_alloc2_new w _ _)) (by simp [Value.oneCell']) hmx (by omega) (hbs2 _ _) ?_); intro p1 l1 c1 w1 hown1 hgrow; have cl1 : w1.cell? ⟨R.nb, 0, none⟩ = some v := (hgrow.cell_far _ (by simp; omega) (Ne.symm hnw)).trans (hcl _ _); have bx1 : w1.cell? ⟨w.heap.size, 0, none⟩ = some (.pointer (some ⟨R.nb, 0, none⟩)) := (hgrow.cell_far _ (by simp <;> omega) (Ne.symm hnb2)).trans (hbx _ _ _); have fz1 : w1.frozen? ⟨R.nb, 0, none⟩ = false := (hgrow.frozen_far _ (by simp; omega) (Ne.symm hnw)).trans (hfz _ _)))
  all_goals
    go_wp2
    go_end0
    exact note_close hR Hp.out Hv.out ho hfew hown1 hgrow
end Go.Proofs.YtkhicabfmkldpaaDoor

namespace Go.Proofs.YtkhicabfmkldpaaDoor
open Go.RowKit

/-- The target with a number, as a value and as an interface value. -/
def fldV (R : Rig) (tg : Int) : Value := .agg #[.pointer (some ⟨R.nb, 0, none⟩), .int .i64 tg]
def fldI (R : Rig) (tg : Int) : Value := .iface 69 (fldV R tg)

/-- Another call is noted. -/
def St.note (s : St) (name : ByteArray) (n : Int) (str : ByteArray) (tg : Int) : St := { s with notes := s.notes ++ [⟨name, n, str, tg⟩] }

theorem note_in {R : Rig} {s : St} {w : World} (hR : R.Ok) (h : Inv R s w) (name str : ByteArray) (n tg : Int) (hfew : s.notes.length < 4194304) :
    Calls Tryd.prog 85 #[.agg #[.pointer (some ⟨R.nb, 0, none⟩), .int .i64 tg], .string name, .int .i64 n, .string str] w (RdPost R (s.note name n str tg) (.tuple #[]) w) :=
  note_any hR h name str n tg hfew

theorem cell_box0 (w : World) (o : Array Value) (t : TypeId) : (w.alloc (.cells o t)).cell? ⟨w.heap.size, 0, none⟩ = o[0]? := by simp

theorem next_facts {R : Rig} {s : St} {w w1 : World} {b : Nat} {x y : Value} (f : Nat) (hfe : s.fields = f) (hf : ¬ R.own b) (hb : w.heap[b]? = some (.cells #[x, y] 69 (0, 0))) (hi : Inv R s w1) (hk : Keeps R w w1) :
    w1.cell? ⟨b, 0, none⟩ = some x ∧ w1.cell? ⟨R.nb, 1, none⟩ = some (.int .i64 (f : Int)) ∧ w1.frozen? ⟨R.nb, 1, none⟩ = false := by
  subst hfe
  have b1 := hk.keep _ _ hb hf rfl
  obtain ⟨v, hv, _⟩ := hi.notes
  exact ⟨by rw [cell_of_row _ _ _ _ _ _ b1]; rfl, by rw [cell_of_row _ _ _ _ _ _ hv]; rfl, frozen_of_row _ _ _ _ _ hv⟩
set_option maxRecDepth 100000 in
set_option maxHeartbeats 1600000 in
theorem next_any {R : Rig} {s : St} {w : World} (hR : R.Ok) (h : Inv R s w) (name str : ByteArray) (n tg : Int) (hfew : s.notes.length < 4194304) (hff : s.fields < 4194304) :
    Calls Tryd.prog 84 #[.agg #[.pointer (some ⟨R.nb, 0, none⟩), .int .i64 tg], .string name, .int .i64 n, .string str] w
      (RdPost R { s.note name n str tg with fields := s.fields + 1 } (.iface 69 (.agg #[.pointer (some ⟨R.nb, 0, none⟩), .int .i64 ((s.fields + 1 : Nat) : Int)])) w) := by
  have ha := h.alloc hR (.cells #[.pointer (some ⟨R.nb, 0, none⟩), .int .i64 tg] 69)
  have hfr := h.fresh
  have ka := (Keeps.refl R w).alloc (h.base hR) (.cells #[.pointer (some ⟨R.nb, 0, none⟩), .int .i64 tg] 69)
  have hbx : (w.alloc (.cells #[.pointer (some ⟨R.nb, 0, none⟩), .int .i64 tg] 69)).heap[w.heap.size]? = some (.cells #[.pointer (some ⟨R.nb, 0, none⟩), .int .i64 tg] 69 (0, 0)) := heap_alloc_new _ _
  have hne : ¬ w.heap.size = R.nb := fun e => hfr (by simp [Rig.own, e])
  have Hfr := Go.Lib.hid hfr
  have Hbx := Go.Lib.hid hbx
  clear hbx hfr h
  go_enter Tryd.func84, Tryd.ntmps84
  go_wp2_with (go_at_call 85; refine (note_in hR ha name str n tg hfew).mono ?_; rintro e w1 ⟨rfl, hi1, hk1⟩; obtain ⟨c1, n1, f1⟩ := next_facts (s := s.note name n str tg) s.fields rfl Hfr.out Hbx.out hi1 hk1)
  have i2 := hi1.setFields hR (s.fields + 1) (by omega)
  have k2 := (Keeps.refl R w1).setCell (p := ⟨R.nb, 1, none⟩) hR.n (.inl (by simp [Rig.own])) (.int .i64 ((s.fields + 1 : Nat) : Int))
  go_quiet (fail)
  go_wp2
  go_ret
  exact ⟨rfl, i2.drewN _, ((ka.trans hk1).trans k2).drewN _⟩

set_option maxRecDepth 100000 in
set_option maxHeartbeats 1600000 in
theorem mFinalize_any {R : Rig} {s : St} {w : World} (hR : R.Ok) (h : Inv R s w) (tg : Int)  (hfew : s.notes.length < 4194304) :
    Calls Tryd.prog 72 #[.agg #[.pointer (some ⟨R.nb, 0, none⟩), .int .i64 tg]] w (RdPost R (s.note ⟨#[70, 105, 110, 97, 108, 105, 122, 101]⟩ 0 ⟨#[]⟩ tg) (.tuple #[]) w) := by
  have ha := h.alloc hR (.cells #[.pointer (some ⟨R.nb, 0, none⟩), .int .i64 tg] 69)
  have ka := (Keeps.refl R w).alloc (h.base hR) (.cells #[.pointer (some ⟨R.nb, 0, none⟩), .int .i64 tg] 69)
  clear h
  go_enter Tryd.func72, Tryd.ntmps72
  go_wp2_with (go_at_call 85; refine (note_in hR ha _ _ _ tg hfew).mono ?_; rintro e w1 ⟨rfl, hi1, hk1⟩)
  go_end0
  exact ⟨rfl, hi1, ka.trans hk1⟩

set_option maxRecDepth 100000 in
set_option maxHeartbeats 1600000 in
theorem mHintSize_any {R : Rig} {s : St} {w : World} (hR : R.Ok) (h : Inv R s w) (tg : Int) (n : Int) (hfew : s.notes.length < 4194304) :
    Calls Tryd.prog 74 #[.agg #[.pointer (some ⟨R.nb, 0, none⟩), .int .i64 tg], .int .i64 n] w (RdPost R (s.note ⟨#[72, 105, 110, 116, 83, 105, 122, 101]⟩ n ⟨#[]⟩ tg) (.tuple #[]) w) := by
  have ha := h.alloc hR (.cells #[.pointer (some ⟨R.nb, 0, none⟩), .int .i64 tg] 69)
  have ka := (Keeps.refl R w).alloc (h.base hR) (.cells #[.pointer (some ⟨R.nb, 0, none⟩), .int .i64 tg] 69)
  clear h
  go_enter Tryd.func74, Tryd.ntmps74
  go_wp2_with (go_at_call 85; refine (note_in hR ha _ _ _ tg hfew).mono ?_; rintro e w1 ⟨rfl, hi1, hk1⟩)
  go_end0
  exact ⟨rfl, hi1, ka.trans hk1⟩

set_option maxRecDepth 100000 in
set_option maxHeartbeats 1600000 in
theorem mNullField_any {R : Rig} {s : St} {w : World} (hR : R.Ok) (h : Inv R s w) (tg : Int) (n : Int) (hfew : s.notes.length < 4194304) :
    Calls Tryd.prog 75 #[.agg #[.pointer (some ⟨R.nb, 0, none⟩), .int .i64 tg], .int .i64 n] w (RdPost R (s.note ⟨#[78, 117, 108, 108, 70, 105, 101, 108, 100]⟩ n ⟨#[]⟩ tg) (.tuple #[]) w) := by
  have ha := h.alloc hR (.cells #[.pointer (some ⟨R.nb, 0, none⟩), .int .i64 tg] 69)
  have ka := (Keeps.refl R w).alloc (h.base hR) (.cells #[.pointer (some ⟨R.nb, 0, none⟩), .int .i64 tg] 69)
  clear h
  go_enter Tryd.func75, Tryd.ntmps75
  go_wp2_with (go_at_call 85; refine (note_in hR ha _ _ _ tg hfew).mono ?_; rintro e w1 ⟨rfl, hi1, hk1⟩)
  go_end0
  exact ⟨rfl, hi1, ka.trans hk1⟩

set_option maxRecDepth 100000 in
set_option maxHeartbeats 1600000 in
theorem mSetDefault_any {R : Rig} {s : St} {w : World} (hR : R.Ok) (h : Inv R s w) (tg : Int) (n : Int) (hfew : s.notes.length < 4194304) :
    Calls Tryd.prog 78 #[.agg #[.pointer (some ⟨R.nb, 0, none⟩), .int .i64 tg], .int .i64 n] w (RdPost R (s.note ⟨#[83, 101, 116, 68, 101, 102, 97, 117, 108, 116]⟩ n ⟨#[]⟩ tg) (.tuple #[]) w) := by
  have ha := h.alloc hR (.cells #[.pointer (some ⟨R.nb, 0, none⟩), .int .i64 tg] 69)
  have ka := (Keeps.refl R w).alloc (h.base hR) (.cells #[.pointer (some ⟨R.nb, 0, none⟩), .int .i64 tg] 69)
  clear h
  go_enter Tryd.func78, Tryd.ntmps78
  go_wp2_with (go_at_call 85; refine (note_in hR ha _ _ _ tg hfew).mono ?_; rintro e w1 ⟨rfl, hi1, hk1⟩)
  go_end0
  exact ⟨rfl, hi1, ka.trans hk1⟩

set_option maxRecDepth 100000 in
set_option maxHeartbeats 1600000 in
theorem mSetInt_any {R : Rig} {s : St} {w : World} (hR : R.Ok) (h : Inv R s w) (tg : Int) (n : Int) (hfew : s.notes.length < 4194304) :
    Calls Tryd.prog 81 #[.agg #[.pointer (some ⟨R.nb, 0, none⟩), .int .i64 tg], .int .i32 n] w (RdPost R (s.note ⟨#[83, 101, 116, 73, 110, 116]⟩ (wrap64 n) ⟨#[]⟩ tg) (.tuple #[]) w) := by
  have ha := h.alloc hR (.cells #[.pointer (some ⟨R.nb, 0, none⟩), .int .i64 tg] 69)
  have ka := (Keeps.refl R w).alloc (h.base hR) (.cells #[.pointer (some ⟨R.nb, 0, none⟩), .int .i64 tg] 69)
  clear h
  go_enter Tryd.func81, Tryd.ntmps81
  go_wp2_with (go_at_call 85; refine (note_in hR ha _ _ _ tg hfew).mono ?_; rintro e w1 ⟨rfl, hi1, hk1⟩)
  go_end0
  exact ⟨rfl, hi1, ka.trans hk1⟩

set_option maxRecDepth 100000 in
set_option maxHeartbeats 1600000 in
theorem mSetLong_any {R : Rig} {s : St} {w : World} (hR : R.Ok) (h : Inv R s w) (tg : Int) (n : Int) (hfew : s.notes.length < 4194304) :
    Calls Tryd.prog 82 #[.agg #[.pointer (some ⟨R.nb, 0, none⟩), .int .i64 tg], .int .i64 n] w (RdPost R (s.note ⟨#[83, 101, 116, 76, 111, 110, 103]⟩ n ⟨#[]⟩ tg) (.tuple #[]) w) := by
  have ha := h.alloc hR (.cells #[.pointer (some ⟨R.nb, 0, none⟩), .int .i64 tg] 69)
  have ka := (Keeps.refl R w).alloc (h.base hR) (.cells #[.pointer (some ⟨R.nb, 0, none⟩), .int .i64 tg] 69)
  clear h
  go_enter Tryd.func82, Tryd.ntmps82
  go_wp2_with (go_at_call 85; refine (note_in hR ha _ _ _ tg hfew).mono ?_; rintro e w1 ⟨rfl, hi1, hk1⟩)
  go_end0
  exact ⟨rfl, hi1, ka.trans hk1⟩

set_option maxRecDepth 100000 in
set_option maxHeartbeats 1600000 in
theorem mSetString_any {R : Rig} {s : St} {w : World} (hR : R.Ok) (h : Inv R s w) (tg : Int) (t : ByteArray) (hfew : s.notes.length < 4194304) :
    Calls Tryd.prog 83 #[.agg #[.pointer (some ⟨R.nb, 0, none⟩), .int .i64 tg], .string t] w (RdPost R (s.note ⟨#[83, 101, 116, 83, 116, 114, 105, 110, 103]⟩ 0 t tg) (.tuple #[]) w) := by
  have ha := h.alloc hR (.cells #[.pointer (some ⟨R.nb, 0, none⟩), .int .i64 tg] 69)
  have ka := (Keeps.refl R w).alloc (h.base hR) (.cells #[.pointer (some ⟨R.nb, 0, none⟩), .int .i64 tg] 69)
  clear h
  go_enter Tryd.func83, Tryd.ntmps83
  go_wp2_with (go_at_call 85; refine (note_in hR ha _ _ _ tg hfew).mono ?_; rintro e w1 ⟨rfl, hi1, hk1⟩)
  go_end0
  exact ⟨rfl, hi1, ka.trans hk1⟩

set_option maxRecDepth 100000 in
set_option maxHeartbeats 1600000 in
theorem mAppendArray_any {R : Rig} {s : St} {w : World} (hR : R.Ok) (h : Inv R s w) (tg : Int)  (hfew : s.notes.length < 4194304) (hff : s.fields < 4194304) :
    Calls Tryd.prog 70 #[.agg #[.pointer (some ⟨R.nb, 0, none⟩), .int .i64 tg]] w (RdPost R { s.note ⟨#[65, 112, 112, 101, 110, 100, 65, 114, 114, 97, 121]⟩ 0 ⟨#[]⟩ tg with fields := s.fields + 1 } (.iface 69 (.agg #[.pointer (some ⟨R.nb, 0, none⟩), .int .i64 ((s.fields + 1 : Nat) : Int)])) w) := by
  have ha := h.alloc hR (.cells #[.pointer (some ⟨R.nb, 0, none⟩), .int .i64 tg] 69)
  have ka := (Keeps.refl R w).alloc (h.base hR) (.cells #[.pointer (some ⟨R.nb, 0, none⟩), .int .i64 tg] 69)
  clear h
  go_enter Tryd.func70, Tryd.ntmps70
  go_wp2_with (go_at_call 84; refine (next_any hR ha _ _ _ tg hfew hff).mono ?_; rintro e w1 ⟨rfl, hi1, hk1⟩)
  go_ret
  exact ⟨rfl, hi1, ka.trans hk1⟩

set_option maxRecDepth 100000 in
set_option maxHeartbeats 1600000 in
theorem mAppendMap_any {R : Rig} {s : St} {w : World} (hR : R.Ok) (h : Inv R s w) (tg : Int) (t : ByteArray) (hfew : s.notes.length < 4194304) (hff : s.fields < 4194304) :
    Calls Tryd.prog 71 #[.agg #[.pointer (some ⟨R.nb, 0, none⟩), .int .i64 tg], .string t] w (RdPost R { s.note ⟨#[65, 112, 112, 101, 110, 100, 77, 97, 112]⟩ 0 t tg with fields := s.fields + 1 } (.iface 69 (.agg #[.pointer (some ⟨R.nb, 0, none⟩), .int .i64 ((s.fields + 1 : Nat) : Int)])) w) := by
  have ha := h.alloc hR (.cells #[.pointer (some ⟨R.nb, 0, none⟩), .int .i64 tg] 69)
  have ka := (Keeps.refl R w).alloc (h.base hR) (.cells #[.pointer (some ⟨R.nb, 0, none⟩), .int .i64 tg] 69)
  clear h
  go_enter Tryd.func71, Tryd.ntmps71
  go_wp2_with (go_at_call 84; refine (next_any hR ha _ _ _ tg hfew hff).mono ?_; rintro e w1 ⟨rfl, hi1, hk1⟩)
  go_ret
  exact ⟨rfl, hi1, ka.trans hk1⟩

set_option maxRecDepth 100000 in
set_option maxHeartbeats 1600000 in
theorem mGet_any {R : Rig} {s : St} {w : World} (hR : R.Ok) (h : Inv R s w) (tg : Int) (n : Int) (hfew : s.notes.length < 4194304) (hff : s.fields < 4194304) :
    Calls Tryd.prog 73 #[.agg #[.pointer (some ⟨R.nb, 0, none⟩), .int .i64 tg], .int .i64 n] w (RdPost R { s.note ⟨#[71, 101, 116]⟩ n ⟨#[]⟩ tg with fields := s.fields + 1 } (.iface 69 (.agg #[.pointer (some ⟨R.nb, 0, none⟩), .int .i64 ((s.fields + 1 : Nat) : Int)])) w) := by
  have ha := h.alloc hR (.cells #[.pointer (some ⟨R.nb, 0, none⟩), .int .i64 tg] 69)
  have ka := (Keeps.refl R w).alloc (h.base hR) (.cells #[.pointer (some ⟨R.nb, 0, none⟩), .int .i64 tg] 69)
  clear h
  go_enter Tryd.func73, Tryd.ntmps73
  go_wp2_with (go_at_call 84; refine (next_any hR ha _ _ _ tg hfew hff).mono ?_; rintro e w1 ⟨rfl, hi1, hk1⟩)
  go_ret
  exact ⟨rfl, hi1, ka.trans hk1⟩

set_option maxRecDepth 100000 in
set_option maxHeartbeats 1600000 in
theorem mSetBoolean_any {R : Rig} {s : St} {w : World} (hR : R.Ok) (h : Inv R s w) (tg : Int) (b : Bool) (hfew : s.notes.length < 4194304) :
    Calls Tryd.prog 76 #[.agg #[.pointer (some ⟨R.nb, 0, none⟩), .int .i64 tg], .bool b] w (RdPost R (s.note ⟨#[83, 101, 116, 66, 111, 111, 108, 101, 97, 110]⟩ (if b then 1 else 0) ⟨#[]⟩ tg) (.tuple #[]) w) := by
  have ha := h.alloc hR (.cells #[.pointer (some ⟨R.nb, 0, none⟩), .int .i64 tg] 69)
  have ka := (Keeps.refl R w).alloc (h.base hR) (.cells #[.pointer (some ⟨R.nb, 0, none⟩), .int .i64 tg] 69)
  clear h
  cases b
  · go_enter Tryd.func76, Tryd.ntmps76
    go_wp2_with (go_at_call 85; refine (note_in hR ha _ _ _ tg hfew).mono ?_; rintro e w1 ⟨rfl, hi1, hk1⟩)
    go_end0
    exact ⟨rfl, hi1, ka.trans hk1⟩
  · go_enter Tryd.func76, Tryd.ntmps76
    go_wp2_with (go_at_call 85; refine (note_in hR ha _ _ _ tg hfew).mono ?_; rintro e w1 ⟨rfl, hi1, hk1⟩)
    refine bodyPost_ret (results_none rfl _ _ _) rfl ?_
    exact ⟨rfl, hi1, ka.trans hk1⟩

set_option maxRecDepth 100000 in
set_option maxHeartbeats 1600000 in
theorem mSetBytes_any {R : Rig} {s : St} {w : World} (hR : R.Ok) (h : Inv R s w) (tg : Int) (v : Value) (l : List Int) (hv : BytesAt R w v l) (hfew : s.notes.length < 4194304) :
    Calls Tryd.prog 77 #[.agg #[.pointer (some ⟨R.nb, 0, none⟩), .int .i64 tg], v] w (RdPost R (s.note ⟨#[83, 101, 116, 66, 121, 116, 101, 115]⟩ 0 (strOfNums l) tg) (.tuple #[]) w) := by
  have ha := h.alloc hR (.cells #[.pointer (some ⟨R.nb, 0, none⟩), .int .i64 tg] 69)
  have ka := (Keeps.refl R w).alloc (h.base hR) (.cells #[.pointer (some ⟨R.nb, 0, none⟩), .int .i64 tg] 69)
  have hv' := hv.keep ka
  rcases hv' with ⟨rfl, rfl⟩ | ⟨g, n, cap, cs, rfl, h2, h3, h4, h5, h6⟩
  · have hcv := run_convert_bytes_nil (P := Tryd.prog) (w.alloc (.cells #[.pointer (some ⟨R.nb, 0, none⟩), .int .i64 tg] 69)) 22 5 Tryd.underlying22 Tryd.underlying5 0 0 9 Tryd.underlying9
    clear h hv
    go_enter Tryd.func77, Tryd.ntmps77
    go_wp2_with (go_at_call 85; refine (note_in hR ha _ _ _ tg hfew).mono ?_; rintro e w1 ⟨rfl, hi1, hk1⟩)
    go_end0
    exact ⟨rfl, hi1, ka.trans hk1⟩
  · have hcv := run_convert_bytes_arg (P := Tryd.prog) (w.alloc (.cells #[.pointer (some ⟨R.nb, 0, none⟩), .int .i64 tg] 69)) 22 5 Tryd.underlying22 Tryd.underlying5 g 0 n cap l h2 (fun i hi => by
      rw [cell_of_row _ _ _ _ _ _ h5, Nat.zero_add]
      have h9 : (cs.toList.take n)[i]? = (bytesV l)[i]? := by rw [h6]
      rw [List.getElem?_take, if_pos hi, Array.getElem?_toList] at h9
      rw [h9, bytesV, List.getElem?_map, List.getElem?_eq_getElem (by omega), List.getD, List.getElem?_eq_getElem (by omega)]
      rfl) 9 Tryd.underlying9
    clear h hv h2 h3 h4 h5 h6
    go_enter Tryd.func77, Tryd.ntmps77
    go_wp2_with (go_at_call 85; refine (note_in hR ha _ _ _ tg hfew).mono ?_; rintro e w1 ⟨rfl, hi1, hk1⟩)
    go_end0
    exact ⟨rfl, hi1, ka.trans hk1⟩

set_option maxRecDepth 100000 in
set_option maxHeartbeats 1600000 in
theorem mSetDouble_any {R : Rig} {s : St} {w : World} (hR : R.Ok) (h : Inv R s w) (tg : Int) (n : Nat) (hfew : s.notes.length < 4194304) :
    Calls Tryd.prog 79 #[.agg #[.pointer (some ⟨R.nb, 0, none⟩), .int .i64 tg], .float .f64 n] w (RdPost R (s.note ⟨#[83, 101, 116, 68, 111, 117, 98, 108, 101]⟩ (IntKind.i64.wrap (n : Int)) ⟨#[]⟩ tg) (.tuple #[]) w) := by
  have ha := h.alloc hR (.cells #[.pointer (some ⟨R.nb, 0, none⟩), .int .i64 tg] 69)
  have ka := (Keeps.refl R w).alloc (h.base hR) (.cells #[.pointer (some ⟨R.nb, 0, none⟩), .int .i64 tg] 69)
  have cf := cf86
  clear h
  go_enter Tryd.func79, Tryd.ntmps79
  go_wp2
  go_region_with (go_at_call 85; refine (note_in hR (ha.drewN 1) _ _ _ tg hfew).mono ?_; rintro e w1 ⟨rfl, hi1, hk1⟩)
  all_goals
    go_wp2
    go_end0
    exact ⟨rfl, hi1, (ka.drewN 1).trans hk1⟩

set_option maxRecDepth 100000 in
set_option maxHeartbeats 1600000 in
theorem mSetFloat_any {R : Rig} {s : St} {w : World} (hR : R.Ok) (h : Inv R s w) (tg : Int) (n : Nat) (hfew : s.notes.length < 4194304) :
    Calls Tryd.prog 80 #[.agg #[.pointer (some ⟨R.nb, 0, none⟩), .int .i64 tg], .float .f32 n] w (RdPost R (s.note ⟨#[83, 101, 116, 70, 108, 111, 97, 116]⟩ (IntKind.i64.wrap (n : Int)) ⟨#[]⟩ tg) (.tuple #[]) w) := by
  have ha := h.alloc hR (.cells #[.pointer (some ⟨R.nb, 0, none⟩), .int .i64 tg] 69)
  have ka := (Keeps.refl R w).alloc (h.base hR) (.cells #[.pointer (some ⟨R.nb, 0, none⟩), .int .i64 tg] 69)
  have cf := cf87
  clear h
  go_enter Tryd.func80, Tryd.ntmps80
  go_wp2
  go_region_with (go_at_call 85; refine (note_in hR (ha.drewN 1) _ _ _ tg hfew).mono ?_; rintro e w1 ⟨rfl, hi1, hk1⟩)
  all_goals
    go_wp2
    go_end0
    exact ⟨rfl, hi1, (ka.drewN 1).trans hk1⟩

end Go.Proofs.YtkhicabfmkldpaaDoor
