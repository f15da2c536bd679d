/- The words of this proof about worlds: which blocks a run of the machine owns, what they hold, what stays as it was. -/
import Derived.Test.YtkhicabfmkldpaaDoorChecked
import Derived.WalkKit
import Derived.WalkSpells
import Derived.WalkLawsBesides
import Derived.BigQuiet
import Derived.Deep.QuietTactic
import Derived.Lib.Hide
import Derived.Deep.RegionLaw
import Derived.Deep.RegionWith
import Derived.StillTailTactics
import Derived.Laws.CopyOwn
namespace Go.Proofs.YtkhicabfmkldpaaDoor
open Go.RowKit

/-- A call that was noted. -/
structure Note where
  name : ByteArray
  n : Int
  s : ByteArray
  tg : Int

def Note.cells (x : Note) : List Value := [.string x.name, .int .i64 x.n, .string x.s, .int .i64 x.tg]
def notesCells (l : List Note) : List Value := l.flatMap Note.cells

theorem notesCells_snoc (l : List Note) (x : Note) : notesCells (l ++ [x]) = notesCells l ++ x.cells := by
  simp [notesCells]

/-- The state of a run, but for the registers. -/
structure St where
  pc : Int
  pos : Nat
  notes : List Note
  fields : Nat
  steps : Nat
  depth : Nat

/-- What is fixed in a run: the blocks, the data, the instructions. -/
structure Rig where
  base : Nat
  rb : Nat
  pb : Nat
  qb : Nat
  nb : Nat
  bb : Nat
  ib : Nat
  da : Option Addr
  dcap : Nat
  data : List Int
  icap : Nat
  icells : Array Value
  ins : List (Int × Int)
  e0 : Addr
  e1 : Addr

structure Rig.Ok (R : Rig) : Prop where
  r : R.base ≤ R.rb
  p : R.base ≤ R.pb
  q : R.base ≤ R.qb
  n : R.base ≤ R.nb
  b : R.base ≤ R.bb
  i : R.base ≤ R.ib
  rp : R.rb ≠ R.pb
  rq : R.rb ≠ R.qb
  rn : R.rb ≠ R.nb
  rbb : R.rb ≠ R.bb
  ri : R.rb ≠ R.ib
  pq : R.pb ≠ R.qb
  pn : R.pb ≠ R.nb
  pbb : R.pb ≠ R.bb
  pi : R.pb ≠ R.ib
  qn : R.qb ≠ R.nb
  qbb : R.qb ≠ R.bb
  qi : R.qb ≠ R.ib
  nbb : R.nb ≠ R.bb
  ni : R.nb ≠ R.ib
  bi : R.bb ≠ R.ib
  two : 2 ≤ R.base
  e0b : R.e0.block < R.base
  e1b : R.e1.block < R.base
  few : R.data.length ≤ 1000
  dc : R.data.length ≤ R.dcap
  insFew : R.ins.length ≤ 100000
  insOk : ∀ (k : Nat) (op x : Int), R.ins[k]? = some (op, x) → R.icells[k * 2]? = some (.int .i64 op) ∧ R.icells[k * 2 + 1]? = some (.int .i64 x)

/-- A block of one of the run's five. -/
def Rig.own (R : Rig) (b : Nat) : Prop := b = R.rb ∨ b = R.pb ∨ b = R.qb ∨ b = R.nb ∨ b = R.bb

def notCall : Obj → Bool
  | .cells _ t _ => t != 52
  | _ => true

structure Keeps (R : Rig) (w w' : World) : Prop where
  below : Below R.base w w'
  keep : ∀ b o, w.heap[b]? = some o → ¬ R.own b → notCall o = true → w'.heap[b]? = some o

theorem Keeps.refl (R : Rig) (w : World) : Keeps R w w := ⟨Below.refl _ _, fun _ _ h _ _ => h⟩
theorem Keeps.trans {R : Rig} {a b c : World} (h : Keeps R a b) (k : Keeps R b c) : Keeps R a c :=
  ⟨h.below.trans k.below, fun i o ho hn hc => k.keep i o (h.keep i o ho hn hc) hn hc⟩
theorem Keeps.drewN {R : Rig} {a w : World} (h : Keeps R a w) (n : Nat) : Keeps R a (w.drewN n) :=
  ⟨⟨h.below.os, h.below.tape, h.below.output, h.below.size, h.below.block⟩, h.keep⟩
theorem Keeps.drew {R : Rig} {a w : World} (h : Keeps R a w) : Keeps R a w.drew := h.drewN 1
theorem Keeps.alloc {R : Rig} {a w : World} (h : Keeps R a w) (hb : R.base ≤ w.heap.size) (o : Obj) : Keeps R a (w.alloc o) :=
  ⟨h.below.alloc hb o, fun i x hx hn hc => by
    have h1 := h.keep i x hx hn hc
    rw [Below.heap_alloc _ _ _ (lt_of_block h1)]; exact h1⟩
theorem Keeps.setCell {R : Rig} {a w : World} (h : Keeps R a w) {p : Addr} (hb : R.base ≤ p.block) (hp : R.own p.block ∨ a.heap.size ≤ p.block) (u : Value) : Keeps R a (w.setCell p u) :=
  ⟨h.below.setCell hb u, fun i x hx hn hc => by
    have h1 := h.keep i x hx hn hc
    rw [Below.heap_setCell _ _ _ _ (by
      rintro rfl
      rcases hp with hp | hp
      · exact hn hp
      · have := lt_of_block hx; omega)]; exact h1⟩
theorem Keeps.grown {R : Rig} {a w w' : World} (h : Keeps R a w) {row : Option Nat} (hg : w.grownBy w' row) (hb : R.base ≤ w.heap.size)
    (hr : ∀ k, row = some k → R.base ≤ k ∧ ∃ cs f, w.heap[k]? = some (.cells cs 52 f)) : Keeps R a w' :=
  ⟨h.below.grown hg hb (fun k hk => (hr k hk).1), fun i x hx hn hc => by
    have h1 := h.keep i x hx hn hc
    rw [hg.block i (lt_of_block h1) (fun e => by
      obtain ⟨_, cs, f, h2⟩ := hr i e.symm
      rw [h1] at h2
      cases h2
      simp [notCall] at hc)]; exact h1⟩

structure Inv (R : Rig) (s : St) (w : World) : Prop where
  reader : w.heap[R.rb]? = some (.cells #[.slice R.da R.data.length R.dcap, .int .i64 (s.pos : Int)] 62 (0, 0))
  prog : w.heap[R.pb]? = some (.cells #[.slice (some ⟨R.ib, 0, none⟩) R.ins.length R.icap, .slice none 0 0, .int .i64 (s.steps : Int), .int .i64 (s.depth : Int)] 83 (0, 0))
  pc : w.heap[R.qb]? = some (.cells #[.int .i64 s.pc] 3 (0, 0))
  notes : ∃ v, w.heap[R.nb]? = some (.cells #[v, .int .i64 (s.fields : Int)] 56 (0, 0)) ∧ w.ownsRow R.base 52 4 v s.notes.length (notesCells s.notes)
  buf : ∃ cs : Array Value, cs.size = 8 ∧ w.heap[R.bb]? = some (.cells cs 5 (0, 0))
  ins : w.heap[R.ib]? = some (.cells R.icells 89 (0, 0))
  data : ∀ k c, R.data[k]? = some c → ∃ b o, R.da = some ⟨b, o, none⟩ ∧ b < R.base ∧ w.cell? ⟨b, o + k, none⟩ = some (.int .u8 c) ∧ 0 ≤ c ∧ c < 256
  pos : s.pos ≤ R.data.length
  eof : w.cell? ⟨0, 0, none⟩ = some (.iface 147 (.pointer (some R.e0)))
  ueof : w.cell? ⟨1, 0, none⟩ = some (.iface 147 (.pointer (some R.e1)))
  fewN : s.notes.length ≤ 4194304
  fewS : s.steps ≤ 1048576
  fewD : s.depth ≤ 10001
  fewF : s.fields ≤ 4194304

theorem Inv.base {R : Rig} {s : St} {w : World} (h : Inv R s w) (hR : R.Ok) : R.base ≤ w.heap.size := by
  have := lt_of_block h.reader; have := hR.r; omega

/-- A world in which each block of the run, and of its like, and the old ones are what they were. -/
theorem Inv.keep {R : Rig} {s : St} {w w' : World} (hR : R.Ok) (h : Inv R s w) (hb : Below R.base w w')
    (hk : ∀ b, R.base ≤ b → b < w.heap.size → w'.heap[b]? = w.heap[b]?) : Inv R s w' := by
  have k : ∀ {b o}, R.base ≤ b → w.heap[b]? = some o → w'.heap[b]? = some o := fun hb1 ho => by rw [hk _ hb1 (lt_of_block ho)]; exact ho
  refine ⟨k hR.r h.reader, k hR.p h.prog, k hR.q h.pc, ?_, ?_, k hR.i h.ins, ?_, h.pos, ?_, ?_, h.fewN, h.fewS, h.fewD, h.fewF⟩
  · obtain ⟨v, h1, h2⟩ := h.notes
    refine ⟨v, k hR.n h1, ⟨h2.1, ?_⟩⟩
    rcases h2.2 with h4 | ⟨g, cap, cur, e, hg, hh, r⟩
    · exact .inl h4
    · exact .inr ⟨g, cap, cur, e, hg, k hg hh, r⟩
  · obtain ⟨cs, h1, h2⟩ := h.buf
    exact ⟨cs, h1, k hR.b h2⟩
  · intro i c hc
    obtain ⟨b, o, h1, h2, h3, h4⟩ := h.data i c hc
    exact ⟨b, o, h1, h2, by rw [hb.cell (p := ⟨b, o + i, none⟩) h2]; exact h3, h4⟩
  · have := hR.two; rw [hb.cell (p := ⟨0, 0, none⟩) (by show 0 < _; omega)]; exact h.eof
  · have := hR.two; rw [hb.cell (p := ⟨1, 0, none⟩) (by show 1 < _; omega)]; exact h.ueof

theorem Inv.drewN {R : Rig} {s : St} {w : World} (h : Inv R s w) (n : Nat) : Inv R s (w.drewN n) :=
  ⟨h.reader, h.prog, h.pc, h.notes, h.buf, h.ins, h.data, h.pos, h.eof, h.ueof, h.fewN, h.fewS, h.fewD, h.fewF⟩
theorem Inv.drew {R : Rig} {s : St} {w : World} (h : Inv R s w) : Inv R s w.drew := h.drewN 1
theorem Inv.alloc {R : Rig} {s : St} {w : World} (hR : R.Ok) (h : Inv R s w) (o : Obj) : Inv R s (w.alloc o) :=
  h.keep hR ((Below.refl _ _).alloc (h.base hR) o) (fun _ _ hb => Below.heap_alloc _ _ _ hb)
/-- A store into a block that is none of the run's. -/
theorem Inv.setOther {R : Rig} {s : St} {w : World} (hR : R.Ok) (h : Inv R s w) {p : Addr} (hs : ∀ b o, w.heap[b]? = some o → b = p.block → notCall o = true) (hb : R.base ≤ p.block)
    (h5 : ¬ R.own p.block) (hi : p.block ≠ R.ib) (u : Value) : Inv R s (w.setCell p u) := by
  have k : ∀ {b o}, b ≠ p.block → w.heap[b]? = some o → (w.setCell p u).heap[b]? = some o := fun hb1 ho => by rw [Below.heap_setCell _ _ _ _ hb1]; exact ho
  unfold Rig.own at h5
  have hbl : Below R.base w (w.setCell p u) := (Below.refl _ _).setCell hb u
  refine ⟨k (by omega) h.reader, k (by omega) h.prog, k (by omega) h.pc, ?_, ?_, k (by omega) h.ins, ?_, h.pos, ?_, ?_, h.fewN, h.fewS, h.fewD, h.fewF⟩
  · obtain ⟨v, h1, h2⟩ := h.notes
    refine ⟨v, k (by omega) h1, ownsRow_setCell_other h2 (fun e => ?_) u⟩
    rcases h2.2 with ⟨rfl, _⟩ | ⟨g, cap, cur, rfl, _, hg, _⟩
    · simp [Value.ownBlock] at e
    · simp [Value.ownBlock] at e
      have := hs g _ hg e
      simp [notCall] at this
  · obtain ⟨cs, h1, h2⟩ := h.buf
    exact ⟨cs, h1, k (by omega) h2⟩
  · intro i c hc
    obtain ⟨b, o, h1, h2, h3, h4⟩ := h.data i c hc
    exact ⟨b, o, h1, h2, by rw [hbl.cell (p := ⟨b, o + i, none⟩) h2]; exact h3, h4⟩
  · have := hR.two; rw [hbl.cell (p := ⟨0, 0, none⟩) (by show 0 < _; omega)]; exact h.eof
  · have := hR.two; rw [hbl.cell (p := ⟨1, 0, none⟩) (by show 1 < _; omega)]; exact h.ueof


/-- A cell of a whole block behind a store. -/
theorem blk_set {w : World} {b i : Nat} {cs : Array Value} {t : TypeId} (u : Value) (h : w.heap[b]? = some (.cells cs t (0, 0))) :
    (w.setCell ⟨b, i, none⟩ u).heap[b]? = some (.cells (cs.setIfInBounds i u) t (0, 0)) := heap_setCell_same w b i cs t u h

theorem owns_not {w : World} {base : Nat} {v : Value} {n : Nat} {xs : List Value} {b : Nat} {cs : Array Value} {t : TypeId} {f : Nat × Nat}
    (h : w.ownsRow base 52 4 v n xs) (hb : w.heap[b]? = some (.cells cs t f)) (ht : t ≠ 52) : v.ownBlock ≠ some b := by
  intro e
  rcases h.2 with ⟨rfl, _⟩ | ⟨g, cap, cur, rfl, _, hg, _⟩
  · simp [Value.ownBlock] at e
  · simp [Value.ownBlock] at e
    subst e
    rw [hb] at hg
    cases hg
    exact ht rfl

/-- What stays when one of the run's own blocks is written: everything but that block. -/
structure Rest (R : Rig) (s : St) (w w' : World) (p : Nat) : Prop where
  below : Below R.base w w'
  other : ∀ {b o}, b ≠ p → w.heap[b]? = some o → w'.heap[b]? = some o
  notes : ∀ {v}, w.ownsRow R.base 52 4 v s.notes.length (notesCells s.notes) → w'.ownsRow R.base 52 4 v s.notes.length (notesCells s.notes)

theorem Inv.rest {R : Rig} {s : St} {w : World} {p : Nat} {cs : Array Value} {t : TypeId} {f : Nat × Nat} (hp : w.heap[p]? = some (.cells cs t f)) (ht : t ≠ 52) (hb : R.base ≤ p) (i : Nat) (u : Value) :
    Rest R s w (w.setCell ⟨p, i, none⟩ u) p :=
  ⟨(Below.refl _ _).setCell hb u, fun hne ho => by rw [Below.heap_setCell _ _ _ _ hne]; exact ho, fun h2 => ownsRow_setCell_other h2 (owns_not h2 hp ht) u⟩

theorem Inv.data_of {R : Rig} {s : St} {w w' : World} (h : Inv R s w) (hbl : Below R.base w w') : ∀ k c, R.data[k]? = some c → ∃ b o, R.da = some ⟨b, o, none⟩ ∧ b < R.base ∧ w'.cell? ⟨b, o + k, none⟩ = some (.int .u8 c) ∧ 0 ≤ c ∧ c < 256 := by
  intro i c hc
  obtain ⟨b, o, h1, h2, h3, h4⟩ := h.data i c hc
  exact ⟨b, o, h1, h2, by rw [hbl.cell (p := ⟨b, o + i, none⟩) h2]; exact h3, h4⟩
theorem Inv.eof_of {R : Rig} {s : St} {w w' : World} (hR : R.Ok) (h : Inv R s w) (hbl : Below R.base w w') : w'.cell? ⟨0, 0, none⟩ = some (.iface 147 (.pointer (some R.e0))) := by
  have := hR.two; rw [hbl.cell (p := ⟨0, 0, none⟩) (by show 0 < _; omega)]; exact h.eof
theorem Inv.ueof_of {R : Rig} {s : St} {w w' : World} (hR : R.Ok) (h : Inv R s w) (hbl : Below R.base w w') : w'.cell? ⟨1, 0, none⟩ = some (.iface 147 (.pointer (some R.e1))) := by
  have := hR.two; rw [hbl.cell (p := ⟨1, 0, none⟩) (by show 1 < _; omega)]; exact h.ueof

theorem Inv.setPos {R : Rig} {s : St} {w : World} (hR : R.Ok) (h : Inv R s w) (n : Nat) (hn : n ≤ R.data.length) :
    Inv R { s with pos := n } (w.setCell ⟨R.rb, 1, none⟩ (.int .i64 (n : Int))) := by
  have r := Inv.rest (s := s) h.reader (by decide) hR.r 1 (.int .i64 (n : Int))
  refine ⟨blk_set _ h.reader, r.other (Ne.symm hR.rp) h.prog, r.other (Ne.symm hR.rq) h.pc, ?_, ?_, r.other (Ne.symm hR.ri) h.ins, h.data_of r.below, hn, h.eof_of hR r.below, h.ueof_of hR r.below, h.fewN, h.fewS, h.fewD, h.fewF⟩
  · obtain ⟨v, h1, h2⟩ := h.notes
    exact ⟨v, r.other (Ne.symm hR.rn) h1, r.notes h2⟩
  · obtain ⟨cs, h1, h2⟩ := h.buf
    exact ⟨cs, h1, r.other (Ne.symm hR.rbb) h2⟩

theorem Inv.setPc {R : Rig} {s : St} {w : World} (hR : R.Ok) (h : Inv R s w) (n : Int) :
    Inv R { s with pc := n } (w.setCell ⟨R.qb, 0, none⟩ (.int .i64 n)) := by
  have r := Inv.rest (s := s) h.pc (by decide) hR.q 0 (.int .i64 n)
  refine ⟨r.other hR.rq h.reader, r.other hR.pq h.prog, blk_set _ h.pc, ?_, ?_, r.other (Ne.symm hR.qi) h.ins, h.data_of r.below, h.pos, h.eof_of hR r.below, h.ueof_of hR r.below, h.fewN, h.fewS, h.fewD, h.fewF⟩
  · obtain ⟨v, h1, h2⟩ := h.notes
    exact ⟨v, r.other (Ne.symm hR.qn) h1, r.notes h2⟩
  · obtain ⟨cs, h1, h2⟩ := h.buf
    exact ⟨cs, h1, r.other (Ne.symm hR.qbb) h2⟩

theorem Inv.setSteps {R : Rig} {s : St} {w : World} (hR : R.Ok) (h : Inv R s w) (n : Nat) (hn : n ≤ 1048576) :
    Inv R { s with steps := n } (w.setCell ⟨R.pb, 2, none⟩ (.int .i64 (n : Int))) := by
  have r := Inv.rest (s := s) h.prog (by decide) hR.p 2 (.int .i64 (n : Int))
  refine ⟨r.other hR.rp h.reader, blk_set _ h.prog, r.other (Ne.symm hR.pq) h.pc, ?_, ?_, r.other (Ne.symm hR.pi) h.ins, h.data_of r.below, h.pos, h.eof_of hR r.below, h.ueof_of hR r.below, h.fewN, hn, h.fewD, h.fewF⟩
  · obtain ⟨v, h1, h2⟩ := h.notes
    exact ⟨v, r.other (Ne.symm hR.pn) h1, r.notes h2⟩
  · obtain ⟨cs, h1, h2⟩ := h.buf
    exact ⟨cs, h1, r.other (Ne.symm hR.pbb) h2⟩

theorem Inv.setDepth {R : Rig} {s : St} {w : World} (hR : R.Ok) (h : Inv R s w) (n : Nat) (hn : n ≤ 10001) :
    Inv R { s with depth := n } (w.setCell ⟨R.pb, 3, none⟩ (.int .i64 (n : Int))) := by
  have r := Inv.rest (s := s) h.prog (by decide) hR.p 3 (.int .i64 (n : Int))
  refine ⟨r.other hR.rp h.reader, blk_set _ h.prog, r.other (Ne.symm hR.pq) h.pc, ?_, ?_, r.other (Ne.symm hR.pi) h.ins, h.data_of r.below, h.pos, h.eof_of hR r.below, h.ueof_of hR r.below, h.fewN, h.fewS, hn, h.fewF⟩
  · obtain ⟨v, h1, h2⟩ := h.notes
    exact ⟨v, r.other (Ne.symm hR.pn) h1, r.notes h2⟩
  · obtain ⟨cs, h1, h2⟩ := h.buf
    exact ⟨cs, h1, r.other (Ne.symm hR.pbb) h2⟩

theorem Inv.setFields {R : Rig} {s : St} {w : World} (hR : R.Ok) (h : Inv R s w) (n : Nat) (hn : n ≤ 4194304) :
    Inv R { s with fields := n } (w.setCell ⟨R.nb, 1, none⟩ (.int .i64 (n : Int))) := by
  obtain ⟨v, h1, h2⟩ := h.notes
  have r := Inv.rest (s := s) h1 (by decide) hR.n 1 (.int .i64 (n : Int))
  refine ⟨r.other hR.rn h.reader, r.other hR.pn h.prog, r.other hR.qn h.pc, ?_, ?_, r.other (Ne.symm hR.ni) h.ins, h.data_of r.below, h.pos, h.eof_of hR r.below, h.ueof_of hR r.below, h.fewN, h.fewS, h.fewD, hn⟩
  · exact ⟨v, blk_set _ h1, r.notes h2⟩
  · obtain ⟨cs, h1, h2⟩ := h.buf
    exact ⟨cs, h1, r.other (Ne.symm hR.nbb) h2⟩

/-- A cell of the buffer is written. -/
theorem Inv.setBuf {R : Rig} {s : St} {w : World} (hR : R.Ok) (h : Inv R s w) (i : Nat) (u : Value) :
    Inv R s (w.setCell ⟨R.bb, i, none⟩ u) := by
  obtain ⟨cs, h3, h4⟩ := h.buf
  have r := Inv.rest (s := s) h4 (by decide) hR.b i u
  refine ⟨r.other hR.rbb h.reader, r.other hR.pbb h.prog, r.other hR.qbb h.pc, ?_, ⟨_, by simp [h3], blk_set u h4⟩, r.other (Ne.symm hR.bi) h.ins, h.data_of r.below, h.pos, h.eof_of hR r.below, h.ueof_of hR r.below, h.fewN, h.fewS, h.fewD, h.fewF⟩
  · obtain ⟨v, h1, h2⟩ := h.notes
    exact ⟨v, r.other hR.nbb h1, r.notes h2⟩

/-- A note is appended: 'w1' is the world behind the append, 'v'' the slice. -/
theorem Inv.addNote {R : Rig} {s : St} {w w1 : World} (hR : R.Ok) (h : Inv R s w) {v v' : Value} {x : Note}
    (hv : w.heap[R.nb]? = some (.cells #[v, .int .i64 (s.fields : Int)] 56 (0, 0)))
    (ho : w.ownsRow R.base 52 4 v s.notes.length (notesCells s.notes))
    (ho' : w1.ownsRow R.base 52 4 v' (s.notes.length + 1) (notesCells s.notes ++ x.cells)) (hg : w.grownBy w1 v.ownBlock) (hf : s.notes.length < 4194304) :
    Inv R { s with notes := s.notes ++ [x] } (w1.setCell ⟨R.nb, 0, none⟩ v') := by
  have k : ∀ {b : Nat} {cs : Array Value} {t : TypeId} {f : Nat × Nat}, t ≠ 52 → w.heap[b]? = some (.cells cs t f) → w1.heap[b]? = some (.cells cs t f) := fun ht hb => by
    rw [hg.block _ (lt_of_block hb) (Ne.symm (owns_not ho hb ht))]; exact hb
  have hb1 : Below R.base w w1 := (Below.refl _ _).grown hg (h.base hR) (fun k hk => (ho.lt k hk).1)
  have h1 := k (by decide) hv
  have hne := owns_not ho' h1 (by decide)
  have hb2 : Below R.base w (w1.setCell ⟨R.nb, 0, none⟩ v') := hb1.setCell hR.n v'
  have o2 : ∀ {b : Nat} {o : Obj}, b ≠ R.nb → w1.heap[b]? = some o → (w1.setCell ⟨R.nb, 0, none⟩ v').heap[b]? = some o := fun hne ho => by rw [Below.heap_setCell _ _ _ _ hne]; exact ho
  refine ⟨o2 hR.rn (k (by decide) h.reader), o2 hR.pn (k (by decide) h.prog), o2 hR.qn (k (by decide) h.pc), ?_, ?_, o2 (Ne.symm hR.ni) (k (by decide) h.ins), h.data_of hb2, h.pos, h.eof_of hR hb2, h.ueof_of hR hb2, by simp; omega, h.fewS, h.fewD, h.fewF⟩
  · refine ⟨v', blk_set _ h1, ?_⟩
    rw [show ({ s with notes := s.notes ++ [x] } : St).notes.length = s.notes.length + 1 by simp, notesCells_snoc]
    exact ownsRow_setCell_other ho' hne _
  · obtain ⟨cs, h3, h4⟩ := h.buf
    exact ⟨cs, h3, o2 (Ne.symm hR.nbb) (k (by decide) h4)⟩


/-- One block is another one now; all else is as it was. -/
structure Swap (g : Nat) (w w' : World) : Prop where
  os : w'.os = w.os
  tape : w'.tape = w.tape
  output : w'.output = w.output
  size : w'.heap.size = w.heap.size
  other : ∀ k, k ≠ g → w'.heap[k]? = w.heap[k]?

theorem Swap.setRow (g : Nat) (w : World) (cs : Array Value) : Swap g w (w.setRow g cs) := ⟨rfl, rfl, rfl, by simp, fun k hk => setRow_other w g k cs hk⟩
theorem Swap.drewN {g : Nat} {w w' : World} (h : Swap g w w') (n : Nat) : Swap g w (w'.drewN n) := ⟨h.os, h.tape, h.output, h.size, h.other⟩
theorem Swap.below {g B : Nat} {w w' : World} (h : Swap g w w') (hB : B ≤ g) : Below B w w' := ⟨h.os, h.tape, h.output, by have := h.size; omega, fun k hk => h.other k (by omega)⟩

theorem Inv.swap {R : Rig} {s : St} {w w' : World} {g : Nat} {cs cs' : Array Value} (hR : R.Ok) (h : Inv R s w) (hs : Swap g w w') (hb : R.base ≤ g)
    (hg : w.heap[g]? = some (.cells cs 5 (0, 0))) (hg' : w'.heap[g]? = some (.cells cs' 5 (0, 0))) (hz : cs'.size = cs.size) : Inv R s w' := by
  have hbl := hs.below hb
  have ne : ∀ {b : Nat} {c : Array Value} {t : TypeId} {f : Nat × Nat}, t ≠ 5 → w.heap[b]? = some (.cells c t f) → w'.heap[b]? = some (.cells c t f) := fun ht hx => by
    rw [hs.other _ (by rintro rfl; rw [hg] at hx; cases hx; exact ht rfl)]; exact hx
  refine ⟨ne (by decide) h.reader, ne (by decide) h.prog, ne (by decide) h.pc, ?_, ?_, ne (by decide) h.ins, h.data_of hbl, h.pos, h.eof_of hR hbl, h.ueof_of hR hbl, h.fewN, h.fewS, h.fewD, h.fewF⟩
  · obtain ⟨v, h1, h2⟩ := h.notes
    refine ⟨v, ne (by decide) h1, h2.1, ?_⟩
    rcases h2.2 with h4 | ⟨g, cap, cur, e, hg, hh, r⟩
    · exact .inl h4
    · exact .inr ⟨g, cap, cur, e, hg, ne (by decide) hh, r⟩
  · obtain ⟨c, h1, h2⟩ := h.buf
    by_cases e : R.bb = g
    · subst e
      rw [hg] at h2
      cases h2
      exact ⟨cs', by omega, hg'⟩
    · exact ⟨c, h1, by rw [hs.other _ e]; exact h2⟩

/-- As 'Keeps', but for one block more. -/
structure KeepsG (R : Rig) (g : Nat) (w w' : World) : Prop where
  below : Below R.base w w'
  keep : ∀ b o, w.heap[b]? = some o → ¬ R.own b → b ≠ g → notCall o = true → w'.heap[b]? = some o

theorem Keeps.toG {R : Rig} {g : Nat} {w w' : World} (h : Keeps R w w') : KeepsG R g w w' := ⟨h.below, fun b o ho hn _ hc => h.keep b o ho hn hc⟩
theorem KeepsG.trans {R : Rig} {g : Nat} {a b c : World} (h : KeepsG R g a b) (k : KeepsG R g b c) : KeepsG R g a c :=
  ⟨h.below.trans k.below, fun i o ho hn hg hc => k.keep i o (h.keep i o ho hn hg hc) hn hg hc⟩
theorem KeepsG.of_swap {R : Rig} {g : Nat} {w w' : World} (h : Swap g w w') (hb : R.base ≤ g) : KeepsG R g w w' :=
  ⟨h.below hb, fun b o ho _ hg _ => by rw [h.other _ hg]; exact ho⟩
theorem KeepsG.own {R : Rig} {g : Nat} {w w' : World} (h : KeepsG R g w w') (hg : R.own g) : Keeps R w w' :=
  ⟨h.below, fun b o ho hn hc => h.keep b o ho hn (by rintro rfl; exact hn hg) hc⟩
theorem KeepsG.fresh {R : Rig} {g : Nat} {w0 w w' : World} (h0 : Keeps R w0 w) (h : KeepsG R g w w') (hg : w0.heap.size ≤ g) : Keeps R w0 w' :=
  ⟨h0.below.trans h.below, fun b o ho hn hc => h.keep b o (h0.keep b o ho hn hc) hn (by have := lt_of_block ho; omega) hc⟩
theorem KeepsG.drewN {R : Rig} {g : Nat} {a w : World} (h : KeepsG R g a w) (n : Nat) : KeepsG R g a (w.drewN n) :=
  ⟨⟨h.below.os, h.below.tape, h.below.output, h.below.size, h.below.block⟩, h.keep⟩

/-- The builtin copy between two slices of bytes as one step of a region that draws its order: one block is another one then, and all else is as it was. -/
theorem step_copy_swap {P : Program} {ops : Array Oper} {o : Oper} {a : Act} {w : World} {K : Act → World → Prop} {Q : Exit → Act → World → Prop} {E : Prop} (hgd : o.guard = none) (d s : Operand) (dT sT : TypeId)
    (ho : o.op = .call { callee := .builtin .copy, args := #[d, s], argTypes := #[dT, sT] }) (elem : TypeId) (hu : P.underlying dT = some (.slice elem)) (hsz : (P.info? elem).map (·.size) = some 1)
    (g off dLen dCap : Nat) (ad : Addr) (sLen sCap : Nat) (hd : a.eval d = .slice (some ⟨g, off, none⟩) dLen dCap) (hs : a.eval s = .slice (some ad) sLen sCap)
    (cur : List Value) (t : TypeId) (hg : w.heap[g]? = some (.cells cur.toArray t (0, 0))) (cs : List Value) (n : Nat) (hcn : cs.length = n) (hn : n = Nat.min sLen dLen)
    (hsrc : ∀ j v, cs[j]? = some v → w.cell? (ad.add j) = some v)
    (hfit : off + cs.length ≤ cur.length) (h1 : ∀ v ∈ cs, v.oneCell' = true)
    (h : ∀ w', Hid (w'.heap[g]? = some (.cells (splice cur off cs).toArray t (0, 0))) → Swap g w w' → K (a.put o.dst (goInt n)) w') :
    if Region.wanted o (yielded ops a.tmps) = true then Oper.wp P o a w K Q else E := by
  have hw : Region.wanted o (yielded ops a.tmps) = true := by simp [Region.wanted, hgd]
  rw [if_pos hw]
  subst hcn
  have hrun := run_copy_row (P := P) w dT sT o.type elem g off dLen dCap ad sLen sCap cur.toArray t cs hu hsz hg hn hsrc (by simpa using hfit) h1
  unfold Oper.wp
  simp [execOp, ho, resolve, invoke, builtin, hd, hs, hrun, Result.andThen]
  exact h _ (show _ = _ by simpa [splice] using setRow_heap w g _ _ t _ hg) (Swap.setRow _ _ _)

end Go.Proofs.YtkhicabfmkldpaaDoor
