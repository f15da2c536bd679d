/- The plain law: what a stretch of a program does, wherever it stands. -/
import Derived.Test.YtkhicabfmkldpaaDoorMach
namespace Go.Proofs.YtkhicabfmkldpaaDoor

theorem evalL_plain {data : List Int} {ins : List (Int × Int)} {k : Nat} {t : Int} {r : Regs} {nul : Bool} {s : St} {op x : Int} (h0 : 0 ≤ s.pc) (hi : ins[s.pc.toNat]? = some (op, x)) (hs : s.steps < 1048576)
    (h2 : op ≠ 2) (h5 : op ≠ 5) (h6 : op ≠ 6) (h8 : op ≠ 8) (h19 : op ≠ 19) :
    evalL data ins (k + 1) t r nul s = match step1 data op x t r nul { s with steps := s.steps + 1 } with
      | none => none
      | some (.go r' nul' s') => evalL data ins k t r' nul' s'.nextPc
      | some (.ret nl s') => some (.ok nl s')
      | some (.err s') => some (.err s') := by
  rw [evalL, if_neg (by omega), hi]
  dsimp only
  rw [if_neg (by omega), if_neg h2, if_neg h5, if_neg h6, if_neg h8, if_neg h19]
  rfl

/-- The states in which an inner level begins. -/
def St.inn (s : St) (name : ByteArray) (n : Int) (str : ByteArray) (t : Int) : St := ⟨s.pc + 1, s.pos, s.notes ++ [⟨name, n, str, t⟩], s.fields + 1, s.steps + 1, s.depth + 1⟩
def St.deep (s : St) (pc : Int) : St := ⟨pc, s.pos, s.notes, s.fields, s.steps + 1, s.depth + 1⟩

theorem evalL_push {data : List Int} {ins : List (Int × Int)} {k : Nat} {t : Int} {r : Regs} {nul : Bool} {s : St} {x : Int} (h0 : 0 ≤ s.pc) (hi : ins[s.pc.toNat]? = some (19, x)) (hs : s.steps < 1048576)
    (hd : s.depth < 10000) :
    evalL data ins (k + 1) t r nul s = match evalL data ins k t Regs.zero false (s.deep (s.pc + 1)) with
      | none => none
      | some (.err s2) => some (.err s2.up)
      | some (.ok _ s2) => evalL data ins k t r nul s2.up.nextPc := by
  rw [evalL, if_neg (by omega), hi]
  dsimp only
  rw [if_neg (by omega), if_neg (by omega), if_neg (by omega), if_neg (by omega), if_neg (by omega), if_pos rfl, if_neg (by omega)]
  rfl

theorem evalL_call {data : List Int} {ins : List (Int × Int)} {k : Nat} {t : Int} {r : Regs} {nul : Bool} {s : St} {x : Int} (h0 : 0 ≤ s.pc) (hi : ins[s.pc.toNat]? = some (8, x)) (hs : s.steps < 1048576)
    (hd : s.depth < 10000) (hx0 : 0 ≤ x) (hx1 : x ≤ 1000000) :
    evalL data ins (k + 1) t r nul s = match evalL data ins k t Regs.zero false (s.deep x) with
      | none => none
      | some (.err s2) => some (.err { s2.up with pc := s.pc })
      | some (.ok _ s2) => evalL data ins k t r nul { s2.up with pc := s.pc + 1 } := by
  rw [evalL, if_neg (by omega), hi]
  dsimp only
  rw [if_neg (by omega), if_neg (by omega), if_neg (by omega), if_neg (by omega), if_pos rfl, if_neg (by omega)]
  rfl

theorem evalL_enter {data : List Int} {ins : List (Int × Int)} {k : Nat} {t : Int} {r : Regs} {nul : Bool} {s : St} {op x n z : Int} {name str : ByteArray} (h0 : 0 ≤ s.pc) (hi : ins[s.pc.toNat]? = some (op, x)) (hs : s.steps < 1048576)
    (he : (op = 2 ∧ name = nameGet ∧ n = x ∧ str = noText ∧ z = x) ∨ (op = 5 ∧ name = nameAppendArray ∧ n = 0 ∧ str = noText ∧ z = -1) ∨ (op = 6 ∧ name = nameAppendMap ∧ n = 0 ∧ str = r.s ∧ z = -1))
    (hd : s.depth < 10000) (hn : s.notes.length < 4194304) (hf : s.fields < 4194304) :
    evalL data ins (k + 1) t r nul s = match evalL data ins k ((s.fields + 1 : Nat) : Int) Regs.zero false (s.inn name n str t) with
      | none => none
      | some (.err s2) => some (.err s2.up)
      | some (.ok nl s2) => if nl then (if few s2 then evalL data ins k t r nul (s2.up.note nameNullField z noText t).nextPc else none) else evalL data ins k t r nul s2.up.nextPc := by
  have hfew : ¬ (few { s with steps := s.steps + 1 } = false ∨ 4194304 ≤ s.fields ∨ 10000 ≤ s.depth) := by
    simp [few]; omega
  rw [evalL, if_neg (by omega), hi]
  dsimp only
  rw [if_neg (by omega)]
  rcases he with ⟨rfl, rfl, rfl, rfl, rfl⟩ | ⟨rfl, rfl, rfl, rfl, rfl⟩ | ⟨rfl, rfl, rfl, rfl, rfl⟩
  · rw [if_pos rfl, if_neg hfew]; rfl
  · rw [if_neg (by omega), if_pos rfl, if_neg hfew]; rfl
  · rw [if_neg (by omega), if_neg (by omega), if_pos rfl, if_neg hfew]; rfl

/-- What of a state matters. -/
structure Core where
  pos : Nat
  notes : List Note
  fields : Nat

def St.core (s : St) : Core := ⟨s.pos, s.notes, s.fields⟩

/-- What a stretch comes to: it goes on, j units of fuel and so many steps later, or there is an error. -/
inductive Out where
  | on (j g : Nat) (r : Regs) (nul : Bool) (c : Core)
  | err (c : Core)

def Out.add (j g : Nat) : Out → Out
  | .on j' g' r nul c => .on (j + j') (g + g') r nul c
  | .err c => .err c

/-- There is room for so much more. -/
structure Fit (m h : Nat) (s : St) : Prop where
  steps : s.steps + m ≤ 1048576
  notes : s.notes.length + m ≤ 4194304
  fields : s.fields + m ≤ 4194304
  depth : s.depth + h ≤ 10000

theorem Fit.mono {m m' h h' : Nat} {s : St} (f : Fit m h s) (hm : m' ≤ m) (hh : h' ≤ h) : Fit m' h' s :=
  ⟨by have := f.steps; omega, by have := f.notes; omega, by have := f.fields; omega, by have := f.depth; omega⟩

def St.put (s : St) (pc : Int) (g : Nat) (c : Core) : St := ⟨pc, c.pos, c.notes, c.fields, s.steps + g, s.depth⟩

theorem St.put_core (s : St) (pc : Int) (g : Nat) (c : Core) : (s.put pc g c).core = c := rfl

/-- From place x of a part to place y: what is done, whatever part of whatever program it is. -/
def Goes (data : List Int) (H : List (Int × Int) → Nat → Prop) (m h x y : Nat) (t : Int) (r : Regs) (nul : Bool) (c : Core) : Out → Prop
  | .on j g r' nul' c' => j ≤ m ∧ g ≤ m ∧ c'.notes.length ≤ c.notes.length + m ∧ c'.fields ≤ c.fields + m ∧
      ∀ ins p s k, H ins p → p ≤ 1000 → s.pc = ((p + x : Nat) : Int) → s.core = c → Fit m h s → m ≤ k →
        evalL data ins k t r nul s = evalL data ins (k - j) t r' nul' (s.put ((p + y : Nat) : Int) g c')
  | .err c' => ∀ ins p s k, H ins p → p ≤ 1000 → s.pc = ((p + x : Nat) : Int) → s.core = c → Fit m h s → m ≤ k →
        ∃ s', s'.core = c' ∧ evalL data ins k t r nul s = some (.err s')

/-- From every state. -/
def Good (data : List Int) (H : List (Int × Int) → Nat → Prop) (m h x y : Nat) : Prop := ∀ t r nul c, ∃ o, Goes data H m h x y t r nul c o

variable {data : List Int} {H H' : List (Int × Int) → Nat → Prop}

theorem Goes.mono {m m' h h' x y : Nat} {t : Int} {r : Regs} {nul : Bool} {c : Core} {o : Out} (g : Goes data H m h x y t r nul c o) (hm : m ≤ m') (hh : h ≤ h') (hH : ∀ ins p, H' ins p → H ins p) :
    Goes data H' m' h' x y t r nul c o := by
  cases o with
  | on j s r' nul' c' =>
    obtain ⟨h1, h2, h3, h4, h5⟩ := g
    exact ⟨by omega, by omega, by omega, by omega, fun ins p s k a b e f i l => h5 ins p s k (hH _ _ a) b e f (i.mono hm hh) (by omega)⟩
  | err c' => exact fun ins p s k a b e f i l => g ins p s k (hH _ _ a) b e f (i.mono hm hh) (by omega)

theorem Good.mono {m m' h h' x y : Nat} (g : Good data H m h x y) (hm : m ≤ m') (hh : h ≤ h') (hH : ∀ ins p, H' ins p → H ins p) : Good data H' m' h' x y := fun t r nul c => by
  obtain ⟨o, ho⟩ := g t r nul c
  exact ⟨o, ho.mono hm hh hH⟩

theorem Goes.trans {m1 m2 h x y z : Nat} {t : Int} {r r1 : Regs} {nul nul1 : Bool} {c c1 : Core} {j g : Nat} {o : Out} (g1 : Goes data H m1 h x y t r nul c (.on j g r1 nul1 c1))
    (g2 : Goes data H m2 h y z t r1 nul1 c1 o) : Goes data H (m1 + m2) h x z t r nul c (o.add j g) := by
  obtain ⟨a1, a2, a3, a4, a5⟩ := g1
  have fit : ∀ {s : St} (pc : Int), s.core = c → Fit (m1 + m2) h s → Fit m2 h (s.put pc g c1) := fun {s} pc e f => by
    have e2 : s.notes = c.notes := by rw [← e]; rfl
    have e3 : s.fields = c.fields := by rw [← e]; rfl
    refine ⟨?_, ?_, ?_, ?_⟩ <;> simp only [St.put]
    · have := f.steps; omega
    · have := f.notes; rw [e2] at this; omega
    · have := f.fields; rw [e3] at this; omega
    · exact f.depth
  cases o with
  | on j' s' r' nul' c' =>
    obtain ⟨b1, b2, b3, b4, b5⟩ := g2
    refine ⟨by omega, by omega, by omega, by omega, fun ins p s k hH hp he hc hf hk => ?_⟩
    rw [a5 ins p s k hH hp he hc (hf.mono (by omega) (Nat.le_refl _)) (by omega), b5 ins p _ (k - j) hH hp rfl rfl (fit _ hc hf) (by omega), Nat.sub_sub]
    simp only [St.put, Nat.add_assoc]
  | err c' =>
    intro ins p s k hH hp he hc hf hk
    rw [a5 ins p s k hH hp he hc (hf.mono (by omega) (Nat.le_refl _)) (by omega)]
    exact g2 ins p _ (k - j) hH hp rfl rfl (fit _ hc hf) (by omega)

theorem Good.trans {m1 m2 h x y z : Nat} (g1 : Good data H m1 h x y) (g2 : Good data H m2 h y z) : Good data H (m1 + m2) h x z := fun t r nul c => by
  obtain ⟨o, ho⟩ := g1 t r nul c
  cases o with
  | on j g r' nul' c' =>
    obtain ⟨o2, ho2⟩ := g2 t r' nul' c'
    exact ⟨_, ho.trans ho2⟩
  | err c' =>
    exact ⟨.err c', fun ins p s k a b e f i l => ho ins p s k a b e f (i.mono (by omega) (Nat.le_refl _)) (by omega)⟩

/-- An error ends it, whatever would stand behind. -/
theorem Goes.stop {m m' h x y z : Nat} {t : Int} {r : Regs} {nul : Bool} {c c' : Core} (g : Goes data H m h x y t r nul c (.err c')) (hm : m ≤ m') : Goes data H m' h x z t r nul c (.err c') :=
  fun ins p s k a b e f i l => g ins p s k a b e f (i.mono hm (Nat.le_refl _)) (by omega)

theorem Good.refl {h x : Nat} : Good data H 0 h x x := fun t r nul c => ⟨.on 0 0 r nul c, by omega, by omega, by omega, by omega, fun ins p s k _ _ hp hc _ _ => by
  obtain ⟨pc, pos, notes, fields, steps, depth⟩ := s
  subst hc
  dsimp only at hp
  subst hp
  rfl⟩

/-- One operation that neither enters nor leaves nor jumps. -/
theorem Goes.one {op v : Int} {h x : Nat} {t : Int} {r r' : Regs} {nul nul' : Bool} {c c' : Core} (hH : ∀ ins p, H ins p → ins[p + x]? = some (op, v)) (h2 : op ≠ 2) (h5 : op ≠ 5) (h6 : op ≠ 6) (h8 : op ≠ 8) (h19 : op ≠ 19)
    (hst : ∀ s : St, s.core = c → s.notes.length < 4194304 → step1 data op v t r nul s = some (.go r' nul' (s.put s.pc 0 c'))) (hn : c'.notes.length ≤ c.notes.length + 1) (hf : c'.fields ≤ c.fields) :
    Goes data H 1 h x (x + 1) t r nul c (.on 1 1 r' nul' c') :=
  ⟨by omega, by omega, hn, by omega, fun ins p s k hh hp he hc hfit hk => by
    have hi := hH _ _ hh
    obtain ⟨k, rfl⟩ : ∃ k', k = k' + 1 := ⟨k - 1, by omega⟩
    have := hfit.steps
    have := hfit.notes
    rw [evalL_plain (op := op) (x := v) (by omega) (by rw [he]; exact hi) (by omega) h2 h5 h6 h8 h19, hst { s with steps := s.steps + 1 } hc (by show s.notes.length < _; omega)]
    dsimp only
    rw [Nat.add_sub_cancel]
    congr 1
    simp only [St.put, St.nextPc, he]
    congr 1⟩

theorem Goes.oneErr {op v : Int} {h x y : Nat} {t : Int} {r : Regs} {nul : Bool} {c c' : Core} (hH : ∀ ins p, H ins p → ins[p + x]? = some (op, v)) (h2 : op ≠ 2) (h5 : op ≠ 5) (h6 : op ≠ 6) (h8 : op ≠ 8) (h19 : op ≠ 19)
    (hst : ∀ s : St, s.core = c → ∃ s', s'.core = c' ∧ step1 data op v t r nul s = some (.err s')) : Goes data H 1 h x y t r nul c (.err c') :=
  fun ins p s k hh hp he hc hfit hk => by
    have hi := hH _ _ hh
    obtain ⟨k, rfl⟩ : ∃ k', k = k' + 1 := ⟨k - 1, by omega⟩
    have := hfit.steps
    obtain ⟨s', h1, h3⟩ := hst { s with steps := s.steps + 1 } hc
    refine ⟨s', h1, ?_⟩
    rw [evalL_plain (op := op) (x := v) (by omega) (by rw [he]; exact hi) (by omega) h2 h5 h6 h8 h19, h3]

/-- A jump, or one that is not taken. -/
theorem Goes.jump {h x y : Nat} {t : Int} {r : Regs} {nul : Bool} {c : Core} (hH : ∀ ins p, H ins p → ins[p + x]? = some (11, (y : Int) + p)) (hy : y ≤ 900000) :
    Goes data H 1 h x y t r nul c (.on 1 1 r nul c) :=
  ⟨by omega, by omega, by omega, by omega, fun ins p s k hh hp he hc hfit hk => by
    have hi := hH _ _ hh
    obtain ⟨k, rfl⟩ : ∃ k', k = k' + 1 := ⟨k - 1, by omega⟩
    have := hfit.steps
    have hst : step1 data 11 ((y : Int) + p) t r nul { s with steps := s.steps + 1 } = some (.go r nul { s with steps := s.steps + 1, pc := (y : Int) + p - 1 }) := by
      show (if (0 ≤ (y : Int) + p ∧ (y : Int) + p ≤ 1000000) then _ else _) = _
      rw [if_pos (by omega)]
    rw [evalL_plain (op := 11) (x := (y : Int) + p) (by omega) (by rw [he]; exact hi) (by omega) (by omega) (by omega) (by omega) (by omega) (by omega), hst]
    dsimp only
    rw [Nat.add_sub_cancel]
    congr 1
    subst hc
    simp only [St.put, St.nextPc, St.core]
    congr 1
    omega⟩

theorem Goes.cond {h x y : Nat} {t : Int} {r : Regs} {nul : Bool} {c : Core} (hH : ∀ ins p, H ins p → ins[p + x]? = some (14, (y : Int) + p)) (hy : y ≤ 900000) (hr : r.c = true) :
    Goes data H 1 h x y t r nul c (.on 1 1 r nul c) :=
  ⟨by omega, by omega, by omega, by omega, fun ins p s k hh hp he hc hfit hk => by
    have hi := hH _ _ hh
    obtain ⟨k, rfl⟩ : ∃ k', k = k' + 1 := ⟨k - 1, by omega⟩
    have := hfit.steps
    have hst : step1 data 14 ((y : Int) + p) t r nul { s with steps := s.steps + 1 } = some (.go r nul { s with steps := s.steps + 1, pc := (y : Int) + p - 1 }) := by
      show (if (0 ≤ (y : Int) + p ∧ (y : Int) + p ≤ 1000000) then some (Nxt.go r nul (if r.c = true then _ else _)) else _) = _
      rw [if_pos (by omega), if_pos hr]
    rw [evalL_plain (op := 14) (x := (y : Int) + p) (by omega) (by rw [he]; exact hi) (by omega) (by omega) (by omega) (by omega) (by omega) (by omega), hst]
    dsimp only
    rw [Nat.add_sub_cancel]
    congr 1
    subst hc
    simp only [St.put, St.nextPc, St.core]
    congr 1
    omega⟩

theorem Goes.condNot {h x y : Nat} {t : Int} {r : Regs} {nul : Bool} {c : Core} (hH : ∀ ins p, H ins p → ins[p + x]? = some (14, (y : Int) + p)) (hy : y ≤ 900000) (hr : r.c = false) :
    Goes data H 1 h x (x + 1) t r nul c (.on 1 1 r nul c) :=
  ⟨by omega, by omega, by omega, by omega, fun ins p s k hh hp he hc hfit hk => by
    have hi := hH _ _ hh
    obtain ⟨k, rfl⟩ : ∃ k', k = k' + 1 := ⟨k - 1, by omega⟩
    have := hfit.steps
    have hst : step1 data 14 ((y : Int) + p) t r nul { s with steps := s.steps + 1 } = some (.go r nul { s with steps := s.steps + 1 }) := by
      show (if (0 ≤ (y : Int) + p ∧ (y : Int) + p ≤ 1000000) then some (Nxt.go r nul (if r.c = true then _ else _)) else _) = _
      rw [if_pos (by omega), if_neg (by rw [hr]; simp)]
    rw [evalL_plain (op := 14) (x := (y : Int) + p) (by omega) (by rw [he]; exact hi) (by omega) (by omega) (by omega) (by omega) (by omega) (by omega), hst]
    dsimp only
    rw [Nat.add_sub_cancel]
    congr 1
    subst hc
    simp only [St.put, St.nextPc, St.core, he]
    congr 1⟩

end Go.Proofs.YtkhicabfmkldpaaDoor

namespace Go.Proofs.YtkhicabfmkldpaaDoor
open Go.RowKit

variable {data : List Int} {H : List (Int × Int) → Nat → Prop}

/-- A state fits behind what an inner level begins with. -/
theorem Fit.inner {m h : Nat} {s s1 : St} (f : Fit (m + 3) (h + 1) s) (h1 : s1.steps ≤ s.steps + 1) (h2 : s1.notes.length ≤ s.notes.length + 1) (h3 : s1.fields ≤ s.fields + 1) (h4 : s1.depth ≤ s.depth + 1) : Fit (m + 2) h s1 :=
  ⟨by have := f.steps; omega, by have := f.notes; omega, by have := f.fields; omega, by have := f.depth; omega⟩

theorem step1_exit {data : List Int} {v t : Int} {r : Regs} {nul : Bool} {s : St} (h : s.notes.length < 4194304) : step1 data 3 v t r nul s = some (.ret nul (s.note nameFinalize 0 noText t)) := by
  show (if few s = true then _ else _) = _
  rw [if_pos (by simpa [few] using h)]

/-- What is entered, and left by its Exit. -/
theorem Good.enter {mb h x y : Nat} {op n z v : Int} {name : ByteArray} (he : (op = 2 ∧ name = nameGet ∧ n = v ∧ z = v) ∨ (op = 5 ∧ name = nameAppendArray ∧ n = 0 ∧ z = -1) ∨ (op = 6 ∧ name = nameAppendMap ∧ n = 0 ∧ z = -1))
    (h0 : ∀ ins p, H ins p → ins[p + x]? = some (op, v)) (h1 : ∀ ins p, H ins p → ins[p + y]? = some (3, 0)) (hb : Good data H mb h (x + 1) y) : Good data H (mb + 3) (h + 1) x (y + 1) := fun t r nul c => by
  let str : ByteArray := if op = 6 then r.s else noText
  have he' : (op = 2 ∧ name = nameGet ∧ n = v ∧ str = noText ∧ z = v) ∨ (op = 5 ∧ name = nameAppendArray ∧ n = 0 ∧ str = noText ∧ z = -1) ∨ (op = 6 ∧ name = nameAppendMap ∧ n = 0 ∧ str = r.s ∧ z = -1) := by
    rcases he with ⟨rfl, a, b, c⟩ | ⟨rfl, a, b, c⟩ | ⟨rfl, a, b, c⟩
    · exact .inl ⟨rfl, a, b, rfl, c⟩
    · exact .inr (.inl ⟨rfl, a, b, rfl, c⟩)
    · exact .inr (.inr ⟨rfl, a, b, rfl, c⟩)
  have hc1 : ∀ s : St, s.core = c → (s.inn name n str t).core = ⟨c.pos, c.notes ++ [⟨name, n, str, t⟩], c.fields + 1⟩ := fun s e => by subst e; rfl
  obtain ⟨o, ho⟩ := hb ((c.fields + 1 : Nat) : Int) Regs.zero false ⟨c.pos, c.notes ++ [⟨name, n, str, t⟩], c.fields + 1⟩
  cases o with
  | err c' =>
    refine ⟨.err c', fun ins p s k hh hp hs hc hf hk => ?_⟩
    obtain ⟨k, rfl⟩ : ∃ k', k = k' + 1 := ⟨k - 1, by omega⟩
    have f1 := hf.steps
    have f2 := hf.notes
    have f3 := hf.fields
    have f4 := hf.depth
    have e3 : s.fields = c.fields := by rw [← hc]; rfl
    obtain ⟨s', e1, e2⟩ := ho ins p (s.inn name n str t) k hh hp (by show s.pc + 1 = _; rw [hs]; omega) (hc1 s hc)
      ((hf.inner (by simp [St.inn]) (by simp [St.inn]) (by simp [St.inn]) (by simp [St.inn])).mono (by omega) (Nat.le_refl _)) (by omega)
    refine ⟨s'.up, e1, ?_⟩
    rw [evalL_enter (by omega) (by rw [hs]; exact h0 _ _ hh) (by omega) he' (by omega) (by omega) (by omega)]
    rw [show ((s.fields + 1 : Nat) : Int) = ((c.fields + 1 : Nat) : Int) by rw [e3], e2]
  | on j g r' nul' c' =>
    obtain ⟨b1, b2, b3, b4, b5⟩ := ho
    simp only [List.length_append, List.length_cons, List.length_nil] at b3
    dsimp only at b4
    -- behind the inner level
    have key : ∀ ins p s k, H ins p → p ≤ 1000 → s.pc = ((p + x : Nat) : Int) → s.core = c → Fit (mb + 3) (h + 1) s → mb + 2 ≤ k →
        evalL data ins (k + 1) t r nul s = evalL data ins k t r nul (s.put ((p + (y + 1) : Nat) : Int) (g + 2)
          (if nul' then ⟨c'.pos, c'.notes ++ [⟨nameFinalize, 0, noText, ((c.fields + 1 : Nat) : Int)⟩] ++ [⟨nameNullField, z, noText, t⟩], c'.fields⟩ else ⟨c'.pos, c'.notes ++ [⟨nameFinalize, 0, noText, ((c.fields + 1 : Nat) : Int)⟩], c'.fields⟩)) := by
      intro ins p s k hh hp hs hc hf hk
      have f1 := hf.steps
      have f2 := hf.notes
      have f3 := hf.fields
      have f4 := hf.depth
      have e2 : s.notes = c.notes := by rw [← hc]; rfl
      have e3 : s.fields = c.fields := by rw [← hc]; rfl
      rw [e2] at f2
      have e := b5 ins p (s.inn name n str t) k hh hp (by show s.pc + 1 = _; rw [hs]; omega) (hc1 s hc)
        ((hf.inner (by simp [St.inn]) (by simp [St.inn]) (by simp [St.inn]) (by simp [St.inn])).mono (by omega) (Nat.le_refl _)) (by omega)
      obtain ⟨k2, hk2⟩ : ∃ k2, k - j = k2 + 1 := ⟨k - j - 1, by omega⟩
      rw [hk2, evalL_plain (op := 3) (x := 0) (by simp only [St.put]; omega) (by simp only [St.put]; exact h1 _ _ hh) (by simp only [St.put, St.inn]; omega) (by omega) (by omega) (by omega) (by omega) (by omega),
        step1_exit (by simp only [St.put, St.inn]; omega)] at e
      rw [evalL_enter (by omega) (by rw [hs]; exact h0 _ _ hh) (by omega) he' (by omega) (by rw [e2]; omega) (by omega)]
      rw [show ((s.fields + 1 : Nat) : Int) = ((c.fields + 1 : Nat) : Int) by rw [e3], e]
      dsimp only
      cases nul' with
      | true =>
        rw [if_pos rfl, if_pos (by simp only [few, St.put, St.note, List.length_append, List.length_cons, List.length_nil]; simp; omega), if_pos rfl]
        congr 1
        simp only [St.put, St.inn, St.nextPc, St.up, St.note]
        congr 1
        omega
      | false =>
        rw [if_neg (by simp), if_neg (by simp)]
        congr 1
        simp only [St.put, St.inn, St.nextPc, St.up, St.note]
        congr 1
        omega
    refine ⟨.on 1 (g + 2) r nul (if nul' then ⟨c'.pos, c'.notes ++ [⟨nameFinalize, 0, noText, ((c.fields + 1 : Nat) : Int)⟩] ++ [⟨nameNullField, z, noText, t⟩], c'.fields⟩ else ⟨c'.pos, c'.notes ++ [⟨nameFinalize, 0, noText, ((c.fields + 1 : Nat) : Int)⟩], c'.fields⟩), by omega, by omega, ?_, ?_, fun ins p s k hh hp hs hc hf hk => ?_⟩
    rotate_left 2
    · obtain ⟨k, rfl⟩ : ∃ k', k = k' + 1 := ⟨k - 1, by omega⟩
      rw [Nat.add_sub_cancel]
      exact key ins p s k hh hp hs hc hf (by omega)
    · cases nul' <;> simp <;> omega
    · cases nul' <;> simp <;> omega

/-- Behind an inner level: the outer one goes on with its own registers. -/
def Out.back (r : Regs) (nul : Bool) : Out → Out
  | .on _ g _ _ c => .on 1 (g + 2) r nul c
  | .err c => .err c

/-- A level that is entered by PushLoop and left by PopLoop. -/
theorem Goes.push {mb h x y : Nat} (h0 : ∀ ins p, H ins p → ins[p + x]? = some (19, 0)) (h1 : ∀ ins p, H ins p → ins[p + y]? = some (20, 0)) {t : Int} {c : Core} {o : Out} (ho : Goes data H mb h (x + 1) y t Regs.zero false c o)
    (r : Regs) (nul : Bool) : Goes data H (mb + 3) (h + 1) x (y + 1) t r nul c (o.back r nul) := by
  have hc1 : ∀ s : St, s.core = c → (s.deep (s.pc + 1)).core = c := fun s e => by subst e; rfl
  cases o with
  | err c' =>
    intro ins p s k hh hp hs hc hf hk
    obtain ⟨k, rfl⟩ : ∃ k', k = k' + 1 := ⟨k - 1, by omega⟩
    have f1 := hf.steps
    have f4 := hf.depth
    obtain ⟨s', e1, e2⟩ := ho ins p (s.deep (s.pc + 1)) k hh hp (by show s.pc + 1 = _; rw [hs]; omega) (hc1 s hc)
      ((hf.inner (by simp [St.deep]) (by simp [St.deep]) (by simp [St.deep]) (by simp [St.deep])).mono (by omega) (Nat.le_refl _)) (by omega)
    refine ⟨s'.up, e1, ?_⟩
    rw [evalL_push (by omega) (by rw [hs]; exact h0 _ _ hh) (by omega) (by omega), e2]
  | on j g r' nul' c' =>
    obtain ⟨b1, b2, b3, b4, b5⟩ := ho
    refine ⟨by omega, by omega, by omega, by omega, fun ins p s k hh hp hs hc hf hk => ?_⟩
    obtain ⟨k, rfl⟩ : ∃ k', k = k' + 1 := ⟨k - 1, by omega⟩
    have f1 := hf.steps
    have f4 := hf.depth
    have e := b5 ins p (s.deep (s.pc + 1)) k hh hp (by show s.pc + 1 = _; rw [hs]; omega) (hc1 s hc)
      ((hf.inner (by simp [St.deep]) (by simp [St.deep]) (by simp [St.deep]) (by simp [St.deep])).mono (by omega) (Nat.le_refl _)) (by omega)
    obtain ⟨k2, hk2⟩ : ∃ k2, k - j = k2 + 1 := ⟨k - j - 1, by omega⟩
    rw [hk2, evalL_plain (op := 20) (x := 0) (by simp only [St.put]; omega) (by simp only [St.put]; exact h1 _ _ hh) (by simp only [St.put, St.deep]; omega) (by omega) (by omega) (by omega) (by omega) (by omega)] at e
    rw [evalL_push (by omega) (by rw [hs]; exact h0 _ _ hh) (by omega) (by omega), e, Nat.add_sub_cancel]
    show evalL data ins k t r nul _ = _
    congr 1
    simp only [St.put, St.deep, St.nextPc, St.up]
    congr 1
    omega

/-- A call of a part that is left by Return. -/
theorem Goes.call {mb h x y z : Nat} (hz : z ≤ 900000) (h0 : ∀ ins p, H ins p → ins[p + x]? = some (8, (z : Int) + p)) (h1 : ∀ ins p, H ins p → ins[p + y]? = some (9, 0)) {t : Int} {c : Core} {o : Out}
    (ho : Goes data H mb h z y t Regs.zero false c o) (r : Regs) (nul : Bool) : Goes data H (mb + 3) (h + 1) x (x + 1) t r nul c (o.back r nul) := by
  have hc1 : ∀ (s : St) (pc : Int), s.core = c → (s.deep pc).core = c := fun s _ e => by subst e; rfl
  cases o with
  | err c' =>
    intro ins p s k hh hp hs hc hf hk
    obtain ⟨k, rfl⟩ : ∃ k', k = k' + 1 := ⟨k - 1, by omega⟩
    have f1 := hf.steps
    have f4 := hf.depth
    obtain ⟨s', e1, e2⟩ := ho ins p (s.deep ((z : Int) + p)) k hh hp (by show (z : Int) + p = _; omega) (hc1 s _ hc)
      ((hf.inner (by simp [St.deep]) (by simp [St.deep]) (by simp [St.deep]) (by simp [St.deep])).mono (by omega) (Nat.le_refl _)) (by omega)
    refine ⟨{ s'.up with pc := s.pc }, e1, ?_⟩
    rw [evalL_call (by omega) (by rw [hs]; exact h0 _ _ hh) (by omega) (by omega) (by omega) (by omega), e2]
  | on j g r' nul' c' =>
    obtain ⟨b1, b2, b3, b4, b5⟩ := ho
    refine ⟨by omega, by omega, by omega, by omega, fun ins p s k hh hp hs hc hf hk => ?_⟩
    obtain ⟨k, rfl⟩ : ∃ k', k = k' + 1 := ⟨k - 1, by omega⟩
    have f1 := hf.steps
    have f4 := hf.depth
    have e := b5 ins p (s.deep ((z : Int) + p)) k hh hp (by show (z : Int) + p = _; omega) (hc1 s _ hc)
      ((hf.inner (by simp [St.deep]) (by simp [St.deep]) (by simp [St.deep]) (by simp [St.deep])).mono (by omega) (Nat.le_refl _)) (by omega)
    obtain ⟨k2, hk2⟩ : ∃ k2, k - j = k2 + 1 := ⟨k - j - 1, by omega⟩
    rw [hk2, evalL_plain (op := 9) (x := 0) (by simp only [St.put]; omega) (by simp only [St.put]; exact h1 _ _ hh) (by simp only [St.put, St.deep]; omega) (by omega) (by omega) (by omega) (by omega) (by omega)] at e
    rw [evalL_call (by omega) (by rw [hs]; exact h0 _ _ hh) (by omega) (by omega) (by omega) (by omega), e, Nat.add_sub_cancel]
    show evalL data ins k t r nul _ = _
    congr 1
    simp only [St.put, St.deep, St.up, hs]
    congr 1
    omega

/-- A loop: Equal 0, CondJump, PushLoop, a body, PopLoop, AddLong -1, Jump. -/
structure LoopAt (H : List (Int × Int) → Nat → Prop) (x y : Nat) : Prop where
  eq : ∀ ins p, H ins p → ins[p + x]? = some (12, 0)
  cj : ∀ ins p, H ins p → ins[p + (x + 1)]? = some (14, ((y + 3 : Nat) : Int) + p)
  push : ∀ ins p, H ins p → ins[p + (x + 2)]? = some (19, 0)
  pop : ∀ ins p, H ins p → ins[p + y]? = some (20, 0)
  add : ∀ ins p, H ins p → ins[p + (y + 1)]? = some (16, -1)
  jmp : ∀ ins p, H ins p → ins[p + (y + 2)]? = some (11, (x : Int) + p)

theorem loop_equal {h x : Nat} (h0 : ∀ ins p, H ins p → ins[p + x]? = some (12, 0)) (t : Int) (r : Regs) (nul : Bool) (c : Core) :
    Goes data H 1 h x (x + 1) t r nul c (.on 1 1 { r with c := r.l == 0 } nul c) :=
  Goes.one h0 (by omega) (by omega) (by omega) (by omega) (by omega) (fun s e _ => by subst e; rfl) (by omega) (by omega)

theorem loop_goes {mb h x y : Nat} (L : LoopAt H x y) (hb : Good data H mb h (x + 3) y) (hx : x ≤ 10000) (hy : y ≤ 10000) : ∀ (v : Nat), v ≤ 1000 → ∀ (t : Int) (r : Regs) (nul : Bool) (c : Core), r.l = (v : Int) →
    ∃ o, Goes data H (2 + v * (mb + 7)) (h + 1) x (y + 3) t r nul c o
  | 0, _, t, r, nul, c, hr => by
    have a1 := loop_equal (data := data) (h := h + 1) L.eq t r nul c
    have a2 := Goes.cond (data := data) (h := h + 1) (t := t) (r := { r with c := r.l == 0 }) (nul := nul) (c := c) L.cj (by omega) (by simp [hr])
    exact ⟨_, (a1.trans a2).mono (by omega) (Nat.le_refl _) (fun _ _ h => h)⟩
  | v + 1, hv, t, r, nul, c, hr => by
    have a1 := loop_equal (data := data) (h := h + 1) L.eq t r nul c
    have a2 := Goes.condNot (data := data) (h := h + 1) (t := t) (r := { r with c := r.l == 0 }) (nul := nul) (c := c) L.cj (by omega) (by
      simp only [hr, beq_eq_false_iff_ne]; omega)
    have a12 := a1.trans a2
    obtain ⟨ob, hob⟩ := hb t Regs.zero false c
    have a3 := Goes.push L.push L.pop hob { r with c := r.l == 0 } nul
    cases ob with
    | on j g r1 nul1 c' =>
      have a4 : Goes data H 1 (h + 1) (y + 1) (y + 1 + 1) t { r with c := r.l == 0 } nul c' (.on 1 1 { r with c := r.l == 0, l := (v : Int) } nul c') :=
        Goes.one L.add (by omega) (by omega) (by omega) (by omega) (by omega) (fun s e _ => by
          subst e
          show some (Nxt.go { r with c := r.l == 0, l := wrap64 (r.l + -1) } nul s) = _
          rw [show wrap64 (r.l + -1) = (v : Int) by rw [hr, show ((v + 1 : Nat) : Int) + -1 = (v : Int) by omega]; exact Go.IntWalk.wrap64_in _ (by omega)]
          rfl) (by omega) (by omega)
      have a5 := Goes.jump (data := data) (h := h + 1) (t := t) (r := { r with c := r.l == 0, l := (v : Int) }) (nul := nul) (c := c') L.jmp (by omega)
      obtain ⟨o, a6⟩ := loop_goes L hb hx hy v (by omega) t { r with c := r.l == 0, l := (v : Int) } nul c' rfl
      have := (((a12.trans a3).trans a4).trans a5).trans a6
      refine ⟨_, this.mono (m' := 2 + (v + 1) * (mb + 7)) ?_ (Nat.le_refl _) (fun _ _ h => h)⟩
      rw [Nat.add_mul]; omega
    | err c' =>
      refine ⟨_, ((a12.trans a3).mono (m' := 2 + (v + 1) * (mb + 7)) ?_ (Nat.le_refl _) (fun _ _ h => h)).stop (Nat.le_refl _)⟩
      rw [Nat.add_mul]; omega
  termination_by v => v

end Go.Proofs.YtkhicabfmkldpaaDoor
