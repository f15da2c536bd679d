/- The reference's machine: its words, note, take, long, bits, the registers. -/
import Derived.Test.YtkhicabfmkldpaaDoorBase
import Derived.Deep.OwnRows
import Derived.Deep.AppendLies
import Derived.Deep.LoopGhost
namespace Go.Proofs.YtkhicabfmkldpaaDoor
open Go.RowKit

/-- What the reference works over: blocks below B are old; the machine lies at mb. -/
structure VRig where
  B : Nat
  mb : Nat
  ib : Nat
  icap : Nat
  ins : List (Int × Int)

/-- The state of the reference's machine: how many notes, and so on. -/
structure VSt where
  data : List Int
  n : Nat
  bad : Bool
  odd : Bool
  left : Int
  pc : Int
  tg : Int

/-- Bytes that a slice holds. -/
structure VBytes (B : Nat) (da : Option Addr) (cap : Nat) (l : List Int) (w : World) : Prop where
  at' : ∀ k c, l[k]? = some c → ∃ b o, da = some ⟨b, o, none⟩ ∧ b < B ∧ w.cell? ⟨b, o + k, none⟩ = some (.int .u8 c) ∧ 0 ≤ c ∧ c < 256
  few : l.length ≤ 1000
  cap : l.length ≤ cap

structure VIns (V : VRig) (w : World) : Prop where
  at' : ∀ (k : Nat) (op x : Int), V.ins[k]? = some (op, x) → w.cell? ⟨V.ib, k * 2, none⟩ = some (.int .i64 op) ∧ w.cell? ⟨V.ib, k * 2 + 1, none⟩ = some (.int .i64 x)
  old : V.ib < V.B
  few : V.ins.length ≤ 100000
  cap : V.ins.length ≤ V.icap
  calls : ∀ (k : Nat) (x : Int), V.ins[k]? = some (8, x) → 0 ≤ x ∧ x ≤ 1000000

structure VAt (V : VRig) (s : VSt) (w : World) : Prop where
  box : ∃ da cap nv xs, w.heap[V.mb]? = some (.cells #[.slice (some ⟨V.ib, 0, none⟩) V.ins.length V.icap, .slice da s.data.length cap, nv, .bool s.bad, .bool s.odd, .int .i64 s.left, .int .i64 s.pc, .int .i64 s.tg] 45 (0, 0)) ∧
    VBytes V.B da cap s.data w ∧ w.ownsRow V.B 52 4 nv s.n xs
  ins : VIns V w
  mb : V.B ≤ V.mb
  size : V.B ≤ w.heap.size

/-- What stays: all old blocks; of the younger ones all but the machine, one level's registers, and the notes. -/
structure VKeep (V : VRig) (rb : Nat) (w w' : World) : Prop where
  os : w'.os = w.os
  tape : w'.tape = w.tape
  output : w'.output = w.output
  size : w.heap.size ≤ w'.heap.size
  keep : ∀ i o, w.heap[i]? = some o → i ≠ V.mb → i ≠ rb → (i < V.B ∨ notCall o = true) → w'.heap[i]? = some o

section
variable {V : VRig} {rb : Nat} {a b c w w' : World}

theorem VKeep.refl (V : VRig) (rb : Nat) (w : World) : VKeep V rb w w := ⟨rfl, rfl, rfl, Nat.le_refl _, fun _ _ h _ _ _ => h⟩
theorem VKeep.trans (h : VKeep V rb a b) (k : VKeep V rb b c) : VKeep V rb a c :=
  ⟨k.os.trans h.os, k.tape.trans h.tape, k.output.trans h.output, Nat.le_trans h.size k.size, fun i o h1 h2 h3 h4 => k.keep i o (h.keep i o h1 h2 h3 h4) h2 h3 h4⟩
theorem VKeep.alloc (h : VKeep V rb a w) (o : Obj) : VKeep V rb a (w.alloc o) :=
  ⟨h.os, h.tape, h.output, by have := h.size; simp; omega, fun i o' h1 h2 h3 h4 => by
    have := h.keep i o' h1 h2 h3 h4
    rw [Below.heap_alloc _ _ _ (lt_of_block this)]; exact this⟩
theorem VKeep.drewN (h : VKeep V rb a w) (n : Nat) : VKeep V rb a (w.drewN n) := ⟨h.os, h.tape, h.output, h.size, h.keep⟩
theorem VKeep.drew (h : VKeep V rb a w) : VKeep V rb a w.drew := h.drewN 1
theorem VKeep.set (h : VKeep V rb a w) {p : Addr} (hp : p.block = V.mb ∨ p.block = rb) (u : Value) : VKeep V rb a (w.setCell p u) :=
  ⟨h.os, h.tape, h.output, by have := h.size; simp; omega, fun i o h1 h2 h3 h4 => by
    have := h.keep i o h1 h2 h3 h4
    rw [Below.heap_setCell _ _ _ _ (by omega)]; exact this⟩
theorem VKeep.grown (h : VKeep V rb a w) {row : Option Nat} (hg : w.grownBy w' row)
    (hr : ∀ k, row = some k → V.B ≤ k ∧ ∃ cs f, w.heap[k]? = some (.cells cs 52 f)) : VKeep V rb a w' :=
  ⟨hg.os.trans h.os, hg.tape.trans h.tape, hg.output.trans h.output, Nat.le_trans h.size hg.size, fun i o h1 h2 h3 h4 => by
    have h5 := h.keep i o h1 h2 h3 h4
    rw [hg.block i (lt_of_block h5) (fun e => ?_)]
    · exact h5
    · obtain ⟨hb, cs, f, hc⟩ := hr i e.symm
      rw [h5] at hc
      cases hc
      rcases h4 with h4 | h4
      · omega
      · simp [notCall] at h4⟩
/-- Of a block that is younger than the first world nothing is asked. -/
theorem VKeep.other {rb' : Nat} (h : VKeep V rb a w) (k : VKeep V rb' w w') (hr : a.heap.size ≤ rb') : VKeep V rb a w' :=
  ⟨k.os.trans h.os, k.tape.trans h.tape, k.output.trans h.output, Nat.le_trans h.size k.size, fun i o h1 h2 h3 h4 => k.keep i o (h.keep i o h1 h2 h3 h4) h2 (by have := lt_of_block h1; omega) h4⟩

theorem cell_keep {p : Addr} {v : Value} (h : w.cell? p = some v) (hk : ∀ o, w.heap[p.block]? = some o → w'.heap[p.block]? = some o) : w'.cell? p = some v := by
  obtain ⟨ob, hob⟩ : ∃ ob, w.heap[p.block]? = some ob := by
    cases hh : w.heap[p.block]? with
    | none => simp [World.cell?, hh] at h
    | some ob => exact ⟨ob, rfl⟩
  have := hk ob hob
  unfold World.cell? at h ⊢
  simp only [hob, this] at h ⊢
  exact h

theorem VBytes.keep {B : Nat} {da : Option Addr} {cap : Nat} {l : List Int} (h : VBytes B da cap l w) (hk : ∀ i o, i < B → w.heap[i]? = some o → w'.heap[i]? = some o) : VBytes B da cap l w' :=
  ⟨fun k c hc => by
    obtain ⟨b, o, h1, h2, h3, h4⟩ := h.at' k c hc
    exact ⟨b, o, h1, h2, cell_keep h3 (fun ob hob => hk _ _ h2 hob), h4⟩, h.few, h.cap⟩
theorem VIns.keep (h : VIns V w) (hk : ∀ i o, i < V.B → w.heap[i]? = some o → w'.heap[i]? = some o) : VIns V w' :=
  ⟨fun k op x hx => by
    obtain ⟨h1, h2⟩ := h.at' k op x hx
    exact ⟨cell_keep h1 (fun ob hob => hk _ _ h.old hob), cell_keep h2 (fun ob hob => hk _ _ h.old hob)⟩, h.old, h.few, h.cap, h.calls⟩
theorem VKeep.below (h : VKeep V rb w w') (hm : V.B ≤ V.mb) (hr : V.B ≤ rb) : ∀ i o, i < V.B → w.heap[i]? = some o → w'.heap[i]? = some o :=
  fun i o hi ho => h.keep i o ho (by omega) (by omega) (.inl hi)
end

section
variable {V : VRig} {s : VSt} {w : World} {rb : Nat}

theorem VAt.lt (h : VAt V s w) : V.mb < w.heap.size := by
  obtain ⟨_, _, _, _, h1, _⟩ := h.box
  exact lt_of_block h1
theorem VAt.drewN (h : VAt V s w) (n : Nat) : VAt V s (w.drewN n) := by
  obtain ⟨da, cap, nv, xs, h1, h2, h3⟩ := h.box
  exact ⟨⟨da, cap, nv, xs, h1, ⟨h2.at', h2.few, h2.cap⟩, h3⟩, ⟨h.ins.at', h.ins.old, h.ins.few, h.ins.cap, h.ins.calls⟩, h.mb, h.size⟩
theorem VAt.drew (h : VAt V s w) : VAt V s w.drew := h.drewN 1
theorem VAt.alloc (h : VAt V s w) (o : Obj) : VAt V s (w.alloc o) := by
  obtain ⟨da, cap, nv, xs, h1, h2, h3⟩ := h.box
  have k : ∀ i o', i < V.B → w.heap[i]? = some o' → (w.alloc o).heap[i]? = some o' := fun i o' _ ho => by rw [Below.heap_alloc _ _ _ (lt_of_block ho)]; exact ho
  exact ⟨⟨da, cap, nv, xs, by rw [Below.heap_alloc _ _ _ (lt_of_block h1)]; exact h1, h2.keep k, h3.alloc o⟩, h.ins.keep k, h.mb, by have := h.size; simp; omega⟩

theorem vowns_ne {B : Nat} {v : Value} {n : Nat} {xs : List Value} {b : Nat} {cs : Array Value} {t : TypeId} {f : Nat × Nat}
    (h : w.ownsRow B 52 4 v n xs) (hb : w.heap[b]? = some (.cells cs t f)) (ht : t ≠ 52) : v.ownBlock ≠ some b := by
  intro e
  rcases h.2 with ⟨rfl, _⟩ | ⟨g, cap, cur, rfl, _, hg, _⟩
  · simp [Value.ownBlock] at e
  · simp [Value.ownBlock] at e
    subst e
    rw [hb] at hg
    cases hg
    exact ht rfl

/-- Another block, of another type than the notes', is written. -/
theorem VAt.setOther (h : VAt V s w) {b i : Nat} {cs : Array Value} {t : TypeId} {f : Nat × Nat} (hb : w.heap[b]? = some (.cells cs t f)) (ht : t ≠ 52) (hm : b ≠ V.mb) (hB : V.B ≤ b) (u : Value) :
    VAt V s (w.setCell ⟨b, i, none⟩ u) := by
  obtain ⟨da, cap, nv, xs, h1, h2, h3⟩ := h.box
  have k : ∀ j o', j < V.B → w.heap[j]? = some o' → (w.setCell ⟨b, i, none⟩ u).heap[j]? = some o' := fun j o' hj ho => by rw [Below.heap_setCell _ _ _ _ (show j ≠ b by omega)]; exact ho
  exact ⟨⟨da, cap, nv, xs, by rw [Below.heap_setCell _ _ _ _ (Ne.symm hm)]; exact h1, h2.keep k, ownsRow_setCell_other h3 (vowns_ne h3 hb ht) u⟩, h.ins.keep k, h.mb, by have := h.size; simp; omega⟩

/-- A field of the machine is written. -/
theorem VAt.setField (h : VAt V s w) {s' : VSt} {i : Nat} {u : Value} (hn : s'.n = s.n) (hf : ∀ da cap nv, VBytes V.B da cap s.data w → ∃ da' cap', (#[.slice (some ⟨V.ib, 0, none⟩) V.ins.length V.icap, .slice da s.data.length cap, nv, .bool s.bad, .bool s.odd, .int .i64 s.left, .int .i64 s.pc, .int .i64 s.tg] : Array Value).setIfInBounds i u =
      #[.slice (some ⟨V.ib, 0, none⟩) V.ins.length V.icap, .slice da' s'.data.length cap', nv, .bool s'.bad, .bool s'.odd, .int .i64 s'.left, .int .i64 s'.pc, .int .i64 s'.tg] ∧ VBytes V.B da' cap' s'.data w) :
    VAt V s' (w.setCell ⟨V.mb, i, none⟩ u) ∧ VKeep V rb w (w.setCell ⟨V.mb, i, none⟩ u) := by
  obtain ⟨da, cap, nv, xs, h1, h2, h3⟩ := h.box
  obtain ⟨da', cap', e, h2'⟩ := hf da cap nv h2
  have hm := h.mb
  have k : ∀ j o', j < V.B → w.heap[j]? = some o' → (w.setCell ⟨V.mb, i, none⟩ u).heap[j]? = some o' := fun j o' hj ho => by rw [Below.heap_setCell _ _ _ _ (show j ≠ V.mb by omega)]; exact ho
  refine ⟨⟨⟨da', cap', nv, xs, ?_, h2'.keep k, ?_⟩, h.ins.keep k, h.mb, by have := h.size; simp; omega⟩, (VKeep.refl V rb w).set (p := ⟨V.mb, i, none⟩) (.inl rfl) u⟩
  · rw [← e]; exact blk_set _ h1
  · rw [hn]; exact ownsRow_setCell_other h3 (vowns_ne h3 h1 (by decide)) u

theorem VAt.cells (h : VAt V s w) : w.cell? ⟨V.mb, 0, none⟩ = some (.slice (some ⟨V.ib, 0, none⟩) V.ins.length V.icap) ∧ (∃ da cap, w.cell? ⟨V.mb, 1, none⟩ = some (.slice da s.data.length cap) ∧ VBytes V.B da cap s.data w) ∧
    w.cell? ⟨V.mb, 3, none⟩ = some (.bool s.bad) ∧ w.cell? ⟨V.mb, 4, none⟩ = some (.bool s.odd) ∧ w.cell? ⟨V.mb, 5, none⟩ = some (.int .i64 s.left) ∧ w.cell? ⟨V.mb, 6, none⟩ = some (.int .i64 s.pc) ∧ w.cell? ⟨V.mb, 7, none⟩ = some (.int .i64 s.tg) := by
  obtain ⟨da, cap, nv, xs, h1, h2, h3⟩ := h.box
  refine ⟨?_, ⟨da, cap, ?_, h2⟩, ?_, ?_, ?_, ?_, ?_⟩ <;> (rw [cell_of_row _ _ _ _ _ _ h1]; rfl)
theorem VAt.fz (h : VAt V s w) (i : Nat) : w.frozen? ⟨V.mb, i, none⟩ = false := by
  obtain ⟨da, cap, nv, xs, h1, _⟩ := h.box
  exact frozen_of_row _ _ _ _ _ h1

theorem VAt.setOdd (h : VAt V s w) (rb : Nat) (v : Bool) : VAt V { s with odd := v } (w.setCell ⟨V.mb, 4, none⟩ (.bool v)) ∧ VKeep V rb w (w.setCell ⟨V.mb, 4, none⟩ (.bool v)) := h.setField rfl (fun da cap _ hb => ⟨da, cap, rfl, hb⟩)
theorem VAt.setBad (h : VAt V s w) (rb : Nat) (v : Bool) : VAt V { s with bad := v } (w.setCell ⟨V.mb, 3, none⟩ (.bool v)) ∧ VKeep V rb w (w.setCell ⟨V.mb, 3, none⟩ (.bool v)) := h.setField rfl (fun da cap _ hb => ⟨da, cap, rfl, hb⟩)
theorem VAt.setLeft (h : VAt V s w) (rb : Nat) (v : Int) : VAt V { s with left := v } (w.setCell ⟨V.mb, 5, none⟩ (.int .i64 v)) ∧ VKeep V rb w (w.setCell ⟨V.mb, 5, none⟩ (.int .i64 v)) := h.setField rfl (fun da cap _ hb => ⟨da, cap, rfl, hb⟩)
theorem VAt.setPc (h : VAt V s w) (rb : Nat) (v : Int) : VAt V { s with pc := v } (w.setCell ⟨V.mb, 6, none⟩ (.int .i64 v)) ∧ VKeep V rb w (w.setCell ⟨V.mb, 6, none⟩ (.int .i64 v)) := h.setField rfl (fun da cap _ hb => ⟨da, cap, rfl, hb⟩)
theorem VAt.setTg (h : VAt V s w) (rb : Nat) (v : Int) : VAt V { s with tg := v } (w.setCell ⟨V.mb, 7, none⟩ (.int .i64 v)) ∧ VKeep V rb w (w.setCell ⟨V.mb, 7, none⟩ (.int .i64 v)) := h.setField rfl (fun da cap _ hb => ⟨da, cap, rfl, hb⟩)
theorem VAt.setData (h : VAt V s w) (rb : Nat) {da : Option Addr} {cap : Nat} {l : List Int} (hb : VBytes V.B da cap l w) :
    VAt V { s with data := l } (w.setCell ⟨V.mb, 1, none⟩ (.slice da l.length cap)) ∧ VKeep V rb w (w.setCell ⟨V.mb, 1, none⟩ (.slice da l.length cap)) := h.setField rfl (fun _ _ _ _ => ⟨da, cap, rfl, hb⟩)

theorem vAppend {P : Program} {ops : Array Oper} {rest : List Oper} {o : Oper} {a : Act} {w : World} {Q : Exit → Act → World → Prop} (hgd : o.guard = none) (s x : Operand) (t : TypeId)
    (ho : o.op = .call { callee := .builtin .append, args := #[s, x], argTypes := #[t, t] })
    (base : Nat) (e : TypeId) (i : TypeInfo) (z : Value) (size bytes : Nat) (ht : P.underlying t = some (.slice e)) (hi : P.info? e = some i) (hz : i.zero = some z)
    (hsize : i.size = size) (hby : i.bytes = bytes) (hzs : z.cells.size = size) (hsz : 0 < size)
    (v : Value) (n : Nat) (xs : List Value) (hs : a.eval s = v) (hown : w.ownsRow base e size v n xs)
    (ad : Addr) (m c : Nat) (news : List Value) (hx : a.eval x = .slice (some ad) m c) (hl : news.length = m * size) (hnews : ∀ j u, news[j]? = some u → w.cell? (ad.add j) = some u) (h1 : ∀ u ∈ news, u.oneCell' = true)
    (h63 : n + m ≤ maxLen) (hbytes : (n + m) * bytes ≤ 140737488355328) (hbase : base ≤ w.heap.size)
    (h : ∀ p l c w', w'.ownsRow base e size (.slice p l c) (n + m) (xs ++ news) → w.grownBy w' v.ownBlock → wpList P ops Q rest (a.put o.dst (.slice p l c)) w') :
    wpList P ops Q (o :: rest) a w := by
  refine wpList_append_own w hgd s x t ho base e i z size bytes ht hi hz hsize hby hzs hsz v n xs hs hown ad m c news hx hl hnews h1 h63 hbytes hbase fun v' w' h2 h3 _ => ?_
  rcases h2.2 with ⟨rfl, _⟩ | ⟨g, cap, cur, rfl, _⟩
  · exact h _ _ _ w' h2 h3
  · exact h _ _ _ w' h2 h3

theorem vinfo52 : (Tryd.prog.info? 52).map (fun i => (i.zero, i.size, i.bytes)) = some (some (.agg #[.string ByteArray.empty, .int .i64 0, .string ByteArray.empty, .int .i64 0]), 4, 48) := by kernel_rfl

theorem VAt.noted {w1 : World} {A : Obj} {nv p1 : Value} {da : Option Addr} {cap : Nat} {xs ys : List Value} (h : VAt V s w) (rb : Nat)
    (hv : w.heap[V.mb]? = some (.cells #[.slice (some ⟨V.ib, 0, none⟩) V.ins.length V.icap, .slice da s.data.length cap, nv, .bool s.bad, .bool s.odd, .int .i64 s.left, .int .i64 s.pc, .int .i64 s.tg] 45 (0, 0)))
    (hb : VBytes V.B da cap s.data w) (ho : w.ownsRow V.B 52 4 nv s.n xs) (hown : w1.ownsRow V.B 52 4 p1 (s.n + 1) ys) (hg : (w.alloc A).grownBy w1 nv.ownBlock) :
    VAt V { s with n := s.n + 1 } (w1.setCell ⟨V.mb, 2, none⟩ p1) ∧ VKeep V rb w (w1.setCell ⟨V.mb, 2, none⟩ p1) := by
  have hm := lt_of_block hv
  have hmB := h.mb
  have gg : w.grownBy w1 nv.ownBlock := (World.grownBy_alloc w A _).trans hg
  have hne : nv.ownBlock ≠ some V.mb := vowns_ne ho hv (by decide)
  have h1 := (gg.block _ hm (Ne.symm hne)).trans hv
  have hne1 : p1.ownBlock ≠ some V.mb := vowns_ne hown h1 (by decide)
  have hrow : ∀ k, nv.ownBlock = some k → V.B ≤ k ∧ ∃ cs f, w.heap[k]? = some (.cells cs 52 f) := fun k hk => by
    rcases ho.2 with ⟨rfl, _⟩ | ⟨g, cap, cur, rfl, h1, h2, _⟩
    · cases hk
    · simp [Value.ownBlock] at hk
      subst hk
      exact ⟨h1, _, _, h2⟩
  have k1 : VKeep V rb w w1 := (VKeep.refl V rb w).grown gg hrow
  have k2 : VKeep V rb w (w1.setCell ⟨V.mb, 2, none⟩ p1) := k1.set (p := ⟨V.mb, 2, none⟩) (.inl rfl) _
  have k3 : ∀ j o', j < V.B → w.heap[j]? = some o' → (w1.setCell ⟨V.mb, 2, none⟩ p1).heap[j]? = some o' := fun j o' hj hoj => by
    rw [Below.heap_setCell _ _ _ _ (show j ≠ V.mb by omega), gg.block _ (lt_of_block hoj) (fun e => by have := (hrow j e.symm).1; omega)]; exact hoj
  exact ⟨⟨⟨da, cap, p1, ys, blk_set _ h1, hb.keep k3, ownsRow_setCell_other hown hne1 _⟩, h.ins.keep k3, h.mb, Nat.le_trans h.size k2.size⟩, k2⟩

/-- What an operation of the reference's ends in. -/
def VEnd (V : VRig) (rb : Nat) (v : Value) (R : VSt → Prop) (w : World) (e : Ending) (w' : World) : Prop := ∃ s', e = .returned v ∧ R s' ∧ VAt V s' w' ∧ VKeep V rb w w'

set_option maxRecDepth 100000 in
set_option maxHeartbeats 3200000 in
theorem vnote_any (h : VAt V s w) (hl : s.n < 100000) (rb : Nat) (name str : ByteArray) (t x : Int) :
    Calls Tryd.prog 24 #[.pointer (some ⟨V.mb, 0, none⟩), .string name, .int .i64 t, .int .i64 x, .string str] w (VEnd V rb (.tuple #[]) (fun s' => s' = { s with n := s.n + 1 }) w) := by
  obtain ⟨da, cap, nv, xs, hv, hb, ho⟩ := h.box
  obtain ⟨i0, hi0, hz0, hz1, hz2⟩ := info_parts vinfo52
  have hmb := lt_of_block hv
  have hbs := h.size
  have h0 : w.cell? ⟨V.mb, 2, none⟩ = some nv := by rw [cell_of_row _ _ _ _ _ _ hv]; rfl
  have f0 : w.frozen? ⟨V.mb, 2, none⟩ = false := frozen_of_row _ _ _ _ _ hv
  have hmx : s.n + 1 ≤ maxLen := by unfold maxLen; omega
  have hnw : nv.ownBlock ≠ some V.mb := vowns_ne ho hv (by decide)
  have Hp := Go.Lib.hid h
  have Hv := Go.Lib.hid hv
  have Hb := Go.Lib.hid hb
  clear h hv hb
  have hfz : ∀ (A : Obj), (w.alloc A).frozen? ⟨V.mb, 2, none⟩ = false := fun A => by
    show (w.alloc A).frozen? _ = false
    rw [World.frozen?_alloc_old _ _ _ (by simp; omega)]; exact f0
  have hcl : ∀ (A : Obj), (w.alloc A).cell? ⟨V.mb, 2, none⟩ = some nv := fun A => by
    show (w.alloc A).cell? _ = _
    rw [World.cell?_alloc_old _ _ _ (by simp; omega)]; exact h0
  have hbs1 : ∀ (A : Obj), V.B ≤ (w.alloc A).heap.size := fun A => by simp; omega
  go_enter Tryd.func24, Tryd.ntmps24
  go_wp2_with (at_builtin; refine vAppend (by rfl) (.tmp 14) (.tmp 20) 32 (by rfl) V.B 52 i0 _ 4 48 Tryd.underlying32 hi0 hz0 hz1 hz2 rfl (by omega) nv _ _ (by rfl) (ho.alloc _) ⟨w.heap.size, 0, none⟩ 1 1 [.string name, .int .i64 x, .string str, .int .i64 t] (by rfl) (by rfl) (World.news_of_block (cs := #[.string name, .int .i64 x, .string str, .int .i64 t]) (t := 52) (fr := (0, 0)) (heap_alloc_new w _)) (by simp [Value.oneCell']) hmx (by omega) (hbs1 _) ?_; intro p1 l1 c1 w1 hown1 hgrow; have cl1 : w1.cell? ⟨V.mb, 2, none⟩ = some nv := (hgrow.cell_far _ (by simp; omega) (Ne.symm hnw)).trans (hcl _); have fz1 : w1.frozen? ⟨V.mb, 2, none⟩ = false := (hgrow.frozen_far _ (by simp; omega) (Ne.symm hnw)).trans (hfz _))
  go_end0
  exact ⟨_, rfl, rfl, Hp.out.noted rb Hv.out Hb.out ho hown1 hgrow⟩

set_option maxRecDepth 100000 in
set_option maxHeartbeats 1600000 in
theorem vfurther_any (h : VAt V s w) (rb : Nat) :
    Calls Tryd.prog 25 #[.pointer (some ⟨V.mb, 0, none⟩)] w (fun e w' => ∃ t : Int, VEnd V rb (.int .i64 t) (fun s' => s' = { s with tg := t }) w e w') := by
  obtain ⟨_, _, _, _, _, _, c7⟩ := h.cells
  have f7 := h.fz 7
  have H := Go.Lib.hid h
  clear h
  go_enter Tryd.func25, Tryd.ntmps25
  go_wp2
  go_ret
  exact ⟨_, _, rfl, rfl, H.out.setTg rb _⟩
end
end Go.Proofs.YtkhicabfmkldpaaDoor

namespace Go.Proofs.YtkhicabfmkldpaaDoor
open Go.RowKit

/-- What reading leaves as it was. -/
structure VSame (s s' : VSt) : Prop where
  n : s'.n = s.n
  left : s'.left = s.left
  pc : s'.pc = s.pc
  odd : s.odd = true → s'.odd = true

theorem VSame.refl (s : VSt) : VSame s s := ⟨rfl, rfl, rfl, id⟩
theorem VSame.trans {a b c : VSt} (h : VSame a b) (k : VSame b c) : VSame a c := ⟨k.n.trans h.n, k.left.trans h.left, k.pc.trans h.pc, fun e => k.odd (h.odd e)⟩

def TakePost (V : VRig) (rb : Nat) (s : VSt) (n : Int) (w : World) (e : Ending) (w' : World) : Prop :=
  ∃ s' da cap l, e = .returned (.slice da (List.length l) cap) ∧ VAt V s' w' ∧ VKeep V rb w w' ∧ VBytes w'.heap.size da cap l w' ∧ VSame s s' ∧ s'.odd = s.odd ∧ (0 ≤ n → n ≤ 16 → ((List.length l : Nat) : Int) = n)

theorem vmade (w : World) (k : Nat) (hk : k ≤ 16) : VBytes (w.alloc (.cells (madeCells #[.int .u8 0] k) 5)).heap.size (some ⟨w.heap.size, 0, none⟩) k (List.replicate k 0) (w.alloc (.cells (madeCells #[.int .u8 0] k) 5)) := by
  refine ⟨fun i c hc => ?_, by simp; omega, by simp⟩
  obtain ⟨hi, rfl⟩ : i < k ∧ c = 0 := by
    rw [List.getElem?_replicate] at hc
    split at hc
    · rename_i h; exact ⟨h, by simpa using hc.symm⟩
    · cases hc
  refine ⟨_, _, rfl, by simp, ?_, by omega, by omega⟩
  rw [cell_of_row _ _ _ _ _ _ (heap_alloc_new w _)]
  rw [← Array.getElem?_toList, toList_madeCells_one, List.getElem?_replicate, if_pos (by simpa using hi)]

theorem vmk (k : Nat) (hk : k ≤ 16) (w : World) : (Instr.makeSlice 22 (.int .i64 (k : Int)) (.int .i64 (k : Int))).run Tryd.prog w = .ok (.slice (some ⟨w.heap.size, 0, none⟩) k k) (w.alloc (.cells (madeCells #[.int .u8 0] k) 5)) :=
  run_make_row' (P := Tryd.prog) 22 5 (.int .u8 0) 1 Tryd.underlying22 (by kernel_rfl) rfl .i64 .i64 k (by omega) (by omega) w

theorem VBytes.drop {B : Nat} {da da' : Option Addr} {cap cap' : Nat} {l : List Int} {w : World} (h : VBytes B da cap l w) (m : Nat) (hd : m < l.length → ∀ b o, da = some ⟨b, o, none⟩ → da' = some ⟨b, o + m, none⟩) (hc : l.length - m ≤ cap') :
    VBytes B da' cap' (l.drop m) w :=
  ⟨fun k c hk => by
    rw [List.getElem?_drop] at hk
    obtain ⟨b, o, h1, h2, h3, h4⟩ := h.at' _ _ hk
    have hlt := (List.getElem?_eq_some_iff.1 hk).1
    exact ⟨b, o + m, hd (by omega) b o h1, h2, by rw [Nat.add_assoc]; exact h3, h4⟩, by have := h.few; simp; omega, by simpa using hc⟩
theorem VBytes.take {B B' : Nat} {da : Option Addr} {cap : Nat} {l : List Int} {w : World} (h : VBytes B da cap l w) (m : Nat) (hB : B ≤ B') : VBytes B' da cap (l.take m) w :=
  ⟨(fun k c hk => by
    rw [List.getElem?_take] at hk
    split at hk
    · obtain ⟨b, o, h1, h2, h3, h4⟩ := h.at' _ _ hk
      exact ⟨b, o, h1, by omega, h3, h4⟩
    · cases hk), by have := h.few; simp; omega, by have := h.cap; simp; omega⟩

set_option maxRecDepth 100000 in
set_option maxHeartbeats 1600000 in
theorem vtake_any {V : VRig} {s : VSt} {w : World} (h : VAt V s w) (rb : Nat) (n : Int) :
    Calls Tryd.prog 32 #[.pointer (some ⟨V.mb, 0, none⟩), .int .i64 n] w (TakePost V rb s n w) := by
  obtain ⟨c0, ⟨da, cap, c1, hb⟩, c3, c4, c5, c6, c7⟩ := h.cells
  have f3 := h.fz 3
  have f1 := h.fz 1
  have hm := h.lt
  have H := Go.Lib.hid h
  have HB := Go.Lib.hid hb
  have hfew := hb.few
  have hcap := hb.cap
  have made : ∀ k : Nat, k ≤ 16 → (0 ≤ n → n ≤ 16 → (k : Int) = n) → TakePost V rb s n w (.returned (.slice (some ⟨w.heap.size, 0, none⟩) k k)) ((w.setCell ⟨V.mb, 3, none⟩ (.bool true)).alloc (.cells (madeCells #[.int .u8 0] k) 5)) := fun k hk hn => by
    have := vmade (w.setCell ⟨V.mb, 3, none⟩ (.bool true)) k hk
    rw [World.size_setCell] at this
    exact ⟨{ s with bad := true }, some ⟨w.heap.size, 0, none⟩, k, List.replicate k 0, by simp, (H.out.setBad rb true).1.alloc _, (H.out.setBad rb true).2.alloc _, this, ⟨rfl, rfl, rfl, id⟩, rfl, by simpa using hn⟩
  have M := Go.Lib.hid made
  clear made
  have fin : ∀ (m : Nat) (da' : Option Addr) (cap' : Nat), m ≤ s.data.length → n = (m : Int) → (m < s.data.length → ∀ b o, da = some ⟨b, o, none⟩ → da' = some ⟨b, o + m, none⟩) → s.data.length - m ≤ cap' →
      TakePost V rb s n w (.returned (.slice da m cap)) (w.setCell ⟨V.mb, 1, none⟩ (.slice da' (s.data.length - m) cap')) := fun m da' cap' hm hn hd hc => by
    have hb' := HB.out.drop m hd hc
    have hl : (s.data.take m).length = m := by simp; omega
    have hs := H.out.setData rb hb'
    rw [show (s.data.drop m).length = s.data.length - m by simp] at hs
    refine ⟨{ s with data := s.data.drop m }, da, cap, s.data.take m, by rw [hl], hs.1, hs.2, ?_, ⟨rfl, rfl, rfl, id⟩, rfl, fun _ _ => by rw [hl]; exact hn.symm⟩
    have hk := (HB.out.take m (Nat.le_refl _)).keep (w' := w.setCell ⟨V.mb, 1, none⟩ (.slice da' (s.data.length - m) cap')) (fun i o hi ho => by
      have := H.out.mb
      rw [Below.heap_setCell _ _ _ _ (show i ≠ V.mb by omega)]; exact ho)
    have := hk.take m (B' := (w.setCell ⟨V.mb, 1, none⟩ (.slice da' (s.data.length - m) cap')).heap.size) (by simp; exact H.out.size)
    rw [List.take_take, Nat.min_self] at this
    exact this
  have F := Go.Lib.hid fin
  clear fin
  by_cases hn0 : n < 0
  · have mk := vmk 0 (by omega)
    simp only [Int.natCast_zero] at mk
    clear h hb
    go_enter Tryd.func32, Tryd.ntmps32
    go_wp2
    go_ret
    exact M.out 0 (by omega) (by omega)
  · obtain ⟨m, rfl⟩ : ∃ m : Nat, n = (m : Int) := ⟨n.toNat, by omega⟩
    by_cases hn1 : s.data.length < m
    · by_cases h16 : m ≤ 16
      · have mk := vmk m h16
        clear h hb
        go_enter Tryd.func32, Tryd.ntmps32
        go_wp2
        go_ret
        exact M.out m h16 (by omega)
      · have mk := vmk 16 (by omega)
        simp only [show ((16 : Nat) : Int) = 16 from rfl] at mk
        clear h hb
        go_enter Tryd.func32, Tryd.ntmps32
        go_wp2
        go_ret
        exact M.out 16 (by omega) (by omega)
    · clear h hb
      cases da with
      | none =>
        go_enter Tryd.func32, Tryd.ntmps32
        go_wp2
        go_ret
        exact F.out m none _ (by omega) rfl (fun _ b o e => by cases e) (by omega)
      | some ad =>
        obtain ⟨b, o, p⟩ := ad
        go_enter Tryd.func32, Tryd.ntmps32
        go_wp2
        · have hcm : cap = m := by assumption
          subst hcm
          go_ret
          exact F.out cap _ _ (by omega) rfl (fun _ b o e => by omega) (by omega)
        · go_ret
          exact F.out m _ _ (by omega) rfl (fun _ b o e => by cases e; rw [Addr.add_lit]) (by omega)
end Go.Proofs.YtkhicabfmkldpaaDoor

namespace Go.Proofs.YtkhicabfmkldpaaDoor
open Go.RowKit

def VLong (V : VRig) (rb : Nat) (s : VSt) (k : IntKind) (w : World) (e : Ending) (w' : World) : Prop := ∃ (x : Int) (s' : VSt), e = .returned (.int k x) ∧ VAt V s' w' ∧ VKeep V rb w w' ∧ VSame s s'

theorem VBytes.one {B : Nat} {da : Option Addr} {cap : Nat} {l : List Int} {w : World} (h : VBytes B da cap l w) (hl : l.length = 1) :
    ∃ b o c, da = some ⟨b, o, none⟩ ∧ w.cell? ⟨b, o, none⟩ = some (.int .u8 c) ∧ 0 ≤ c ∧ c < 256 := by
  obtain ⟨c, rfl⟩ := List.length_eq_one_iff.1 hl
  obtain ⟨b, o, rfl, hb, hc, h0, h1⟩ := h.at' 0 c rfl
  exact ⟨b, o, c, rfl, hc, h0, h1⟩

set_option maxRecDepth 100000 in
set_option maxHeartbeats 3200000 in
theorem vlong_any {V : VRig} {s : VSt} {w : World} (h : VAt V s w) (rb : Nat) :
    Calls Tryd.prog 33 #[.pointer (some ⟨V.mb, 0, none⟩)] w (VLong V rb s .i64 w) := by
  have H := Go.Lib.hid h
  clear h
  go_enter Tryd.func33, Tryd.ntmps33
  go_wp2
  go_loopg [3, 4] 10 (fun g cu ci wr => ∃ (k : Nat) (u : Int) (s' : VSt), g + k = 10 ∧ k ≤ 9 ∧ cu = .int .u64 u ∧ ci = .int .u64 (k : Int) ∧ VAt V s' wr ∧ VKeep V rb w wr ∧ VSame s s')
  case atStart => exact ⟨0, 0, s, rfl, by omega, rfl, rfl, H.out, VKeep.refl _ _ _, VSame.refl _⟩
  case round =>
    obtain ⟨k, u, s', hg, hk, rfl, rfl, g1, k1, m1⟩ := hrel
    have Hg := Go.Lib.hid hg
    have G1 := Go.Lib.hid g1
    have K1 := Go.Lib.hid k1
    have M1 := Go.Lib.hid m1
    have hk0 : (0 : Int) ≤ (k : Int) := by omega
    have hk9 : (k : Int) ≤ 9 := by omega
    clear hg g1 k1 m1
    go_wp2_with (go_at_call 32; refine (vtake_any G1.out rb 1).mono ?_; rintro e w1 ⟨s1, da1, cap1, l1, rfl, g2, k2, b2, m2, o2, z2⟩; obtain ⟨b, o, c, rfl, hc, hc0, hc1⟩ := b2.one (by have := z2 (by omega) (by omega); omega); rw [show l1.length = 1 by have := z2 (by omega) (by omega); omega]; have q3 := g2.cells.2.2.1; have q5 := g2.cells.2.2.2.1; have q4 := g2.fz 4; have G2 := Go.Lib.hid g2; have K2 := Go.Lib.hid k2; have M2 := Go.Lib.hid m2; clear g2 k2 b2 m2 o2 z2)
    · go_ret
      exact ⟨_, s1, rfl, G2.out, K1.out.trans K2.out, M1.out.trans M2.out⟩
    · go_ret
      exact ⟨_, { s1 with odd := true }, rfl, (G2.out.setOdd rb true).1, (K1.out.trans K2.out).trans (G2.out.setOdd rb true).2, (M1.out.trans M2.out).trans ⟨rfl, rfl, rfl, fun _ => rfl⟩⟩
    · go_ret
      exact ⟨_, s1, rfl, G2.out, K1.out.trans K2.out, M1.out.trans M2.out⟩
    · go_roundg (gk - 1)
      case rel => exact ⟨k + 1, _, s1, by have := Hg.out; omega, by omega, rfl, by go_num, G2.out, K1.out.trans K2.out, M1.out.trans M2.out⟩
      case measure => have := Hg.out; omega
theorem VBytes.get {B : Nat} {da : Option Addr} {cap : Nat} {l : List Int} {w : World} (h : VBytes B da cap l w) {n : Nat} (hl : l.length = n) (hn : 0 < n) :
    ∃ b o, da = some ⟨b, o, none⟩ ∧ ∀ k, k < n → ∃ c, w.cell? ⟨b, o + k, none⟩ = some (.int .u8 c) ∧ 0 ≤ c ∧ c < 256 := by
  obtain ⟨b, o, e, _, _, _, _⟩ := h.at' 0 (l[0]'(by omega)) (List.getElem?_eq_getElem _)
  refine ⟨b, o, e, fun k hk => ?_⟩
  obtain ⟨b', o', e', _, h3, h4, h5⟩ := h.at' k (l[k]'(by omega)) (List.getElem?_eq_getElem _)
  rw [e] at e'
  cases e'
  exact ⟨_, h3, h4, h5⟩

set_option maxRecDepth 100000 in
set_option maxHeartbeats 3200000 in
theorem vbits_any {V : VRig} {s : VSt} {w : World} (h : VAt V s w) (rb : Nat) (n : Nat) (hn : 0 < n) (h16 : n ≤ 16) :
    Calls Tryd.prog 34 #[.pointer (some ⟨V.mb, 0, none⟩), .int .i64 (n : Int)] w (VLong V rb s .u64 w) := by
  have H := Go.Lib.hid h
  clear h
  go_enter Tryd.func34, Tryd.ntmps34
  go_wp2_with (go_at_call 32; refine (vtake_any H.out rb (n : Int)).mono ?_; rintro e w1 ⟨s1, da1, cap1, l1, rfl, g2, k2, b2, m2, o2, z2⟩; have hl1 : l1.length = n := (by have := z2 (by omega) (by omega); omega); obtain ⟨b, o, rfl, hcell⟩ := b2.get hl1 hn; rw [hl1]; have HC := Go.Lib.hid hcell; have G2 := Go.Lib.hid g2; have K2 := Go.Lib.hid k2; have M2 := Go.Lib.hid m2; clear g2 k2 b2 m2 o2 z2 hl1 hcell)
  go_loopg [6, 7] (n + 1) (fun g cu ci wr => ∃ (k : Nat) (u : Int), g = k + 1 ∧ k ≤ n ∧ cu = .int .u64 u ∧ ci = .int .i64 ((k : Int) - 1) ∧ w1 = wr)
  case atStart => exact ⟨n, 0, rfl, by omega, rfl, rfl, rfl⟩
  case round =>
    obtain ⟨k, u, hg, hk, rfl, rfl, rfl⟩ := hrel
    have Hg := Go.Lib.hid hg
    clear hg
    cases k with
    | zero =>
      have h0 : ¬ (((0 : Nat) : Int) - 1 ≥ 0) := by omega
      go_wp2
      go_ret
      exact ⟨_, s1, rfl, G2.out, K2.out, M2.out⟩
    | succ k =>
      obtain ⟨c, hc, hc0, hc1⟩ := HC.out k (by omega)
      have h0 : (0 : Int) ≤ (k : Int) := by omega
      have h1 : (k : Int) ≤ 100 := by omega
      have e : ((k + 1 : Nat) : Int) - 1 = (k : Int) := by omega
      rw [e]
      clear e
      go_wp2
      go_roundg (k + 1)
      case rel => exact ⟨k, _, rfl, by omega, rfl, rfl, rfl⟩
      case measure => have := Hg.out; omega
end Go.Proofs.YtkhicabfmkldpaaDoor

namespace Go.Proofs.YtkhicabfmkldpaaDoor
open Go.RowKit

/-- The registers of a level of the reference's. -/
def VRegs (rb : Nat) (w : World) : Prop := ∃ (a b : Bool) (c d e f : Int) (y z : ByteArray),
  w.heap[rb]? = some (.cells #[.bool a, .bool b, .int .i64 c, .int .i64 d, .int .u64 e, .int .u64 f, .string y, .string z] 50 (0, 0))

/-- The registers, and where they lie. -/
structure VLoc (V : VRig) (rb : Nat) (w : World) : Prop where
  regs : VRegs rb w
  ne : rb ≠ V.mb
  old : V.B ≤ rb

section
variable {V : VRig} {s : VSt} {w w' : World} {rb r2 : Nat}

theorem VKeep.mono (h : VKeep V V.mb w w') : VKeep V r2 w w' := ⟨h.os, h.tape, h.output, h.size, fun i o h1 h2 _ h4 => h.keep i o h1 h2 h2 h4⟩
theorem VLoc.keep (h : VLoc V rb w) (k : VKeep V r2 w w') (hr : rb ≠ r2) : VLoc V rb w' := by
  obtain ⟨a, b, c, d, e, f, y, z, hh⟩ := h.regs
  exact ⟨⟨a, b, c, d, e, f, y, z, k.keep _ _ hh h.ne hr (.inr rfl)⟩, h.ne, h.old⟩
theorem VLoc.drewN (h : VLoc V rb w) (n : Nat) : VLoc V rb (w.drewN n) := ⟨h.regs, h.ne, h.old⟩

theorem VLoc.cells (h : VLoc V rb w) : ∃ (a b : Bool) (c d e f : Int) (y z : ByteArray), w.cell? ⟨rb, 0, none⟩ = some (.bool a) ∧ w.cell? ⟨rb, 1, none⟩ = some (.bool b) ∧ w.cell? ⟨rb, 2, none⟩ = some (.int .i64 c) ∧
    w.cell? ⟨rb, 3, none⟩ = some (.int .i64 d) ∧ w.cell? ⟨rb, 4, none⟩ = some (.int .u64 e) ∧ w.cell? ⟨rb, 5, none⟩ = some (.int .u64 f) ∧ w.cell? ⟨rb, 6, none⟩ = some (.string y) ∧ w.cell? ⟨rb, 7, none⟩ = some (.string z) ∧
    ∀ i, w.frozen? ⟨rb, i, none⟩ = false := by
  obtain ⟨a, b, c, d, e, f, y, z, hh⟩ := h.regs
  refine ⟨a, b, c, d, e, f, y, z, ?_, ?_, ?_, ?_, ?_, ?_, ?_, ?_, fun i => frozen_of_row _ _ _ _ _ hh⟩ <;> (rw [cell_of_row _ _ _ _ _ _ hh]; rfl)

/-- What is stored into the registers. -/
def VFits (i : Nat) (u : Value) : Prop := (i < 2 ∧ ∃ b, u = .bool b) ∨ ((i = 2 ∨ i = 3) ∧ ∃ x, u = .int .i64 x) ∨ ((i = 4 ∨ i = 5) ∧ ∃ x, u = .int .u64 x) ∨ ((i = 6 ∨ i = 7) ∧ ∃ x, u = .string x)

theorem VLoc.set (h : VLoc V rb w) (g : VAt V s w) (i : Nat) (u : Value) (hu : VFits i u) :
    VAt V s (w.setCell ⟨rb, i, none⟩ u) ∧ VKeep V rb w (w.setCell ⟨rb, i, none⟩ u) ∧ VLoc V rb (w.setCell ⟨rb, i, none⟩ u) := by
  obtain ⟨a, b, c, d, e, f, y, z, hh⟩ := h.regs
  refine ⟨g.setOther hh (by decide) h.ne h.old u, (VKeep.refl V rb w).set (p := ⟨rb, i, none⟩) (.inr rfl) u, ⟨?_, h.ne, h.old⟩⟩
  have hs := blk_set (i := i) u hh
  rcases hu with ⟨hi, x, rfl⟩ | ⟨hi, x, rfl⟩ | ⟨hi, x, rfl⟩ | ⟨hi, x, rfl⟩
  · obtain rfl | rfl : i = 0 ∨ i = 1 := by omega
    · exact ⟨x, b, c, d, e, f, y, z, hs⟩
    · exact ⟨a, x, c, d, e, f, y, z, hs⟩
  · obtain rfl | rfl := hi
    · exact ⟨a, b, x, d, e, f, y, z, hs⟩
    · exact ⟨a, b, c, x, e, f, y, z, hs⟩
  · obtain rfl | rfl := hi
    · exact ⟨a, b, c, d, x, f, y, z, hs⟩
    · exact ⟨a, b, c, d, e, x, y, z, hs⟩
  · obtain rfl | rfl := hi
    · exact ⟨a, b, c, d, e, f, x, z, hs⟩
    · exact ⟨a, b, c, d, e, f, y, x, hs⟩

theorem vconv {B : Nat} {da : Option Addr} {cap : Nat} {l : List Int} (h : VBytes B da cap l w) : ∃ t, (convert 22 9 (.slice da l.length cap)).run Tryd.prog w = .ok (.string t) w := by
  cases hl : l with
  | nil =>
    refine ⟨ByteArray.empty, ?_⟩
    cases da with
    | none => exact run_convert_bytes_nil w 22 5 Tryd.underlying22 Tryd.underlying5 0 cap 9 Tryd.underlying9
    | some a =>
      rw [run_convert_bytes_string w 22 9 5 _ _ _ Tryd.underlying22 Tryd.underlying5 Tryd.underlying9]
      rfl
  | cons c r =>
    rw [← hl]
    obtain ⟨b, o, e, hh⟩ := h.get rfl (by rw [hl]; simp)
    rw [e]
    refine ⟨_, run_convert_bytes_arg w 22 5 Tryd.underlying22 Tryd.underlying5 b o _ cap l rfl (fun i hi => ?_) 9 Tryd.underlying9⟩
    obtain ⟨b', o', e', _, h3, _⟩ := h.at' i (l[i]'hi) (List.getElem?_eq_getElem _)
    rw [e] at e'
    cases e'
    rw [h3]
    simp [List.getD, hi]

/-- What one operation of the reference's leaves. -/
structure VStep (s s' : VSt) : Prop where
  n : s'.n ≤ s.n + 1
  left : s'.left = s.left
  pc : s'.odd = true ∨ 0 ≤ s'.pc

def VOp (V : VRig) (rb : Nat) (s : VSt) (w : World) (e : Ending) (w' : World) : Prop := ∃ s', e = .returned (.tuple #[]) ∧ VStep s s' ∧ VAt V s' w' ∧ VKeep V rb w w' ∧ VLoc V rb w'

theorem VSame.step {s s' : VSt} (h : VSame s s') (hp : s.odd = true ∨ 0 ≤ s.pc) : VStep s s' := ⟨by rw [h.n]; omega, h.left, hp.elim (fun e => .inl (h.odd e)) (fun e => .inr (by rw [h.pc]; exact e))⟩
end
end Go.Proofs.YtkhicabfmkldpaaDoor
