/- The machine as a plain function, and how far its counter can come. -/
import Derived.Test.YtkhicabfmkldpaaDoorNt
namespace Go.Proofs.YtkhicabfmkldpaaDoor
open Go.RowKit

/-- The registers of a level. -/
structure Regs where
  b : Bool
  i : Int
  l : Int
  f : Nat
  d : Nat
  y : List Int
  s : ByteArray
  c : Bool

def Regs.zero : Regs := ⟨false, 0, 0, 0, 0, [], ⟨#[]⟩, false⟩

/-- What an operation that neither enters nor calls comes to. -/
inductive Nxt where
  | go (r : Regs) (nul : Bool) (s : St)
  | ret (nul : Bool) (s : St)
  | err (s : St)

/-- What a level comes to. -/
inductive Res where
  | ok (nul : Bool) (s : St)
  | err (s : St)

def nameSetBoolean : ByteArray := ⟨#[83, 101, 116, 66, 111, 111, 108, 101, 97, 110]⟩
def nameSetInt : ByteArray := ⟨#[83, 101, 116, 73, 110, 116]⟩
def nameSetLong : ByteArray := ⟨#[83, 101, 116, 76, 111, 110, 103]⟩
def nameSetFloat : ByteArray := ⟨#[83, 101, 116, 70, 108, 111, 97, 116]⟩
def nameSetDouble : ByteArray := ⟨#[83, 101, 116, 68, 111, 117, 98, 108, 101]⟩
def nameSetBytes : ByteArray := ⟨#[83, 101, 116, 66, 121, 116, 101, 115]⟩
def nameSetString : ByteArray := ⟨#[83, 101, 116, 83, 116, 114, 105, 110, 103]⟩
def nameSetDefault : ByteArray := ⟨#[83, 101, 116, 68, 101, 102, 97, 117, 108, 116]⟩
def nameNullField : ByteArray := ⟨#[78, 117, 108, 108, 70, 105, 101, 108, 100]⟩
def nameHintSize : ByteArray := ⟨#[72, 105, 110, 116, 83, 105, 122, 101]⟩
def nameFinalize : ByteArray := ⟨#[70, 105, 110, 97, 108, 105, 122, 101]⟩
def nameGet : ByteArray := ⟨#[71, 101, 116]⟩
def nameAppendArray : ByteArray := ⟨#[65, 112, 112, 101, 110, 100, 65, 114, 114, 97, 121]⟩
def nameAppendMap : ByteArray := ⟨#[65, 112, 112, 101, 110, 100, 77, 97, 112]⟩
def noText : ByteArray := ⟨#[]⟩

/-- A value of a kind is read into its register. -/
def doRead (data : List Int) (x : Int) (r : Regs) (nul : Bool) (s : St) : Option Nxt :=
  if x = 1 then some (.go r nul s)
  else if x = 2 then some (.go { r with b := (boolOf data s.pos).1 } nul { s with pos := (boolOf data s.pos).2 })
  else if x = 3 then match rdInt data s.pos with | some (v, p) => some (.go { r with i := v } nul { s with pos := p }) | none => some (.err s)
  else if x = 4 then match rdLong data s.pos with | some (v, p) => some (.go { r with l := v } nul { s with pos := p }) | none => some (.err s)
  else if x = 10 then match rdLong data s.pos with | some (_, p) => some (.go r nul { s with pos := p }) | none => some (.err s)
  else if x = 5 then match rdFloat data s.pos with | some (v, p) => some (.go { r with f := v } nul { s with pos := p }) | none => some (.err s)
  else if x = 6 then match rdDouble data s.pos with | some (v, p) => some (.go { r with d := v } nul { s with pos := p }) | none => some (.err s)
  else if x = 7 then match rdBytes data s.pos with | some (v, p) => some (.go { r with y := v } nul { s with pos := p }) | none => some (.err s)
  else if x = 8 then match rdBytes data s.pos with | some (v, p) => some (.go { r with s := strOfNums v } nul { s with pos := p }) | none => some (.err s)
  else if 11 ≤ x ∧ x ≤ 1011 then match rdFixed data s.pos (x - 11).toNat with | some (v, p) => some (.go { r with y := v } nul { s with pos := p }) | none => some (.err s)
  else none

def few (s : St) : Bool := decide (s.notes.length < 4194304)

def boolN (b : Bool) : Int := if b then 1 else 0

theorem mSetBooleanN_any {R : Rig} {s : St} {w : World} (hR : R.Ok) (h : Inv R s w) (tg : Int) (b : Bool) (hfew : s.notes.length < 4194304) :
    Calls Tryd.prog 76 #[.agg #[.pointer (some ⟨R.nb, 0, none⟩), .int .i64 tg], .bool b] w (RdPost R (s.note nameSetBoolean (boolN b) noText tg) (.tuple #[]) w) := mSetBoolean_any hR h tg b hfew

/-- A register is handed on. -/
def doSet (x t : Int) (r : Regs) (s : St) : St :=
  if x = 2 then s.note nameSetBoolean (boolN r.b) noText t
  else if x = 3 then s.note nameSetInt (wrap64 r.i) noText t
  else if x = 4 then s.note nameSetLong r.l noText t
  else if x = 5 then s.note nameSetFloat (IntKind.i64.wrap (r.f : Int)) noText t
  else if x = 6 then s.note nameSetDouble (IntKind.i64.wrap (r.d : Int)) noText t
  else if x = 7 then s.note nameSetBytes 0 (strOfNums r.y) t
  else if x = 8 then s.note nameSetString 0 r.s t
  else s

/-- An operation that neither enters nor calls. -/
def step1 (data : List Int) (op x t : Int) (r : Regs) (nul : Bool) (s : St) : Option Nxt :=
  if op = 0 then doRead data x r nul s
  else if op = 1 then (if few s then some (.go r nul (doSet x t r s)) else none)
  else if op = 7 then (if few s then some (.go r nul (s.note nameSetDefault x noText t)) else none)
  else if op = 3 then (if few s then some (.ret nul (s.note nameFinalize 0 noText t)) else none)
  else if op = 4 then some (.go r true s)
  else if op = 9 then some (.ret false s)
  else if op = 11 then (if 0 ≤ x ∧ x ≤ 1000000 then some (.go r nul { s with pc := x - 1 }) else none)
  else if op = 13 then some (.go { r with c := decide (r.l > x) } nul s)
  else if op = 12 then some (.go { r with c := r.l == x } nul s)
  else if op = 14 then (if 0 ≤ x ∧ x ≤ 1000000 then some (.go r nul (if r.c then { s with pc := x - 1 } else s)) else none)
  else if op = 16 then some (.go { r with l := wrap64 (r.l + x) } nul s)
  else if op = 15 then some (.go { r with l := x } nul s)
  else if op = 18 then some (.go { r with i := wrap32 x } nul s)
  else if op = 17 then some (.go { r with l := wrap64 (r.l * x) } nul s)
  else if op = 22 then (if few s then some (.go r nul (s.note nameHintSize r.l noText t)) else none)
  else if op = 20 then some (.ret false s)
  else if op = 10 then (if x = 0 then some (.ret false s) else none)
  else if op = 21 then (if few s then some (.go r nul (s.note nameNullField x noText t)) else none)
  else none

/-- Behind an inner level: the outer goes on, notes the null, or hands the error on. -/
def St.up (s : St) : St := { s with depth := s.depth - 1 }
def St.nextPc (s : St) : St := { s with pc := s.pc + 1 }

def evalL (data : List Int) (ins : List (Int × Int)) : Nat → Int → Regs → Bool → St → Option Res
  | 0, _, _, _, _ => none
  | k + 1, t, r, nul, s =>
    if s.pc < 0 then none
    else match ins[s.pc.toNat]? with
    | none => some (.ok false s)
    | some (op, x) =>
      if 1048576 ≤ s.steps then none
      else
        let s := { s with steps := s.steps + 1 }
        let inner (name : ByteArray) (n : Int) (str : ByteArray) (z : Int) : Option Res :=
          if few s = false ∨ 4194304 ≤ s.fields ∨ 10000 ≤ s.depth then none
          else match evalL data ins k ((s.fields + 1 : Nat) : Int) Regs.zero false { s.note name n str t with pc := s.pc + 1, fields := s.fields + 1, depth := s.depth + 1 } with
            | none => none
            | some (.err s2) => some (.err s2.up)
            | some (.ok nl s2) =>
              if nl then (if few s2 then evalL data ins k t r nul (s2.up.note nameNullField z noText t).nextPc else none)
              else evalL data ins k t r nul s2.up.nextPc
        if op = 2 then inner nameGet x noText x
        else if op = 5 then inner nameAppendArray 0 noText (-1)
        else if op = 6 then inner nameAppendMap 0 r.s (-1)
        else if op = 8 then
          if 10000 ≤ s.depth ∨ x < 0 ∨ 1000000 < x then none
          else match evalL data ins k t Regs.zero false { s with pc := x, depth := s.depth + 1 } with
            | none => none
            | some (.err s2) => some (.err { s2.up with pc := s.pc })
            | some (.ok _ s2) => evalL data ins k t r nul { s2.up with pc := s.pc + 1 }
        else if op = 19 then
          if 10000 ≤ s.depth then none
          else match evalL data ins k t Regs.zero false { s with pc := s.pc + 1, depth := s.depth + 1 } with
            | none => none
            | some (.err s2) => some (.err s2.up)
            | some (.ok _ s2) => evalL data ins k t r nul s2.up.nextPc
        else match step1 data op x t r nul s with
          | none => none
          | some (.go r' nul' s') => evalL data ins k t r' nul' s'.nextPc
          | some (.ret nl s') => some (.ok nl s')
          | some (.err s') => some (.err s')

end Go.Proofs.YtkhicabfmkldpaaDoor

namespace Go.Proofs.YtkhicabfmkldpaaDoor

def Nxt.PcOk (x pc : Int) : Nxt → Prop
  | .go _ _ s => s.pc = pc ∨ (s.pc = x - 1 ∧ 0 ≤ x ∧ x ≤ 1000000)
  | .ret _ s => s.pc = pc
  | .err _ => True

def OPcOk (x pc : Int) : Option Nxt → Prop
  | none => True
  | some n => n.PcOk x pc

theorem opc_ite {x pc : Int} {c : Prop} [Decidable c] {a b : Option Nxt} (ha : c → OPcOk x pc a) (hb : OPcOk x pc b) : OPcOk x pc (if c then a else b) := by
  split
  · rename_i h; exact ha h
  · exact hb

theorem doSet_pc (x t : Int) (r : Regs) (s : St) : (doSet x t r s).pc = s.pc := by
  unfold doSet
  repeat' split
  all_goals rfl

theorem doRead_pc (data : List Int) (x y : Int) (r : Regs) (nul : Bool) (s : St) : OPcOk y s.pc (doRead data x r nul s) := by
  unfold doRead
  repeat' (first | refine opc_ite (fun _ => ?_) ?_ | split)
  all_goals first | exact Or.inl rfl | trivial

theorem step1_pc (data : List Int) (op x t : Int) (r : Regs) (nul : Bool) (s : St) : OPcOk x s.pc (step1 data op x t r nul s) := by
  unfold step1
  refine opc_ite (fun _ => doRead_pc _ _ _ _ _ _) ?_
  refine opc_ite (fun _ => opc_ite (fun _ => Or.inl (doSet_pc _ _ _ _)) trivial) ?_
  refine opc_ite (fun _ => opc_ite (fun _ => Or.inl rfl) trivial) ?_
  refine opc_ite (fun _ => opc_ite (fun _ => rfl) trivial) ?_
  refine opc_ite (fun _ => Or.inl rfl) ?_
  refine opc_ite (fun _ => rfl) ?_
  refine opc_ite (fun _ => opc_ite (fun h => Or.inr ⟨rfl, h.1, h.2⟩) trivial) ?_
  refine opc_ite (fun _ => Or.inl rfl) ?_
  refine opc_ite (fun _ => Or.inl rfl) ?_
  refine opc_ite (fun _ => opc_ite (fun h => ?_) trivial) ?_
  · show (if r.c = true then { s with pc := x - 1 } else s).pc = s.pc ∨ _
    split
    · exact Or.inr ⟨by simp_all, h.1, h.2⟩
    · exact Or.inl rfl
  refine opc_ite (fun _ => Or.inl rfl) ?_
  refine opc_ite (fun _ => Or.inl rfl) ?_
  refine opc_ite (fun _ => Or.inl rfl) ?_
  refine opc_ite (fun _ => Or.inl rfl) ?_
  refine opc_ite (fun _ => opc_ite (fun _ => Or.inl rfl) trivial) ?_
  refine opc_ite (fun _ => rfl) ?_
  refine opc_ite (fun _ => opc_ite (fun _ => rfl) trivial) ?_
  exact opc_ite (fun _ => opc_ite (fun _ => Or.inl rfl) trivial) trivial


/-- The three operations that enter a level on a further target. -/
def Ent (r : Regs) (op x : Int) (name : ByteArray) (n : Int) (str : ByteArray) (z : Int) : Prop :=
  (op = 2 ∧ name = nameGet ∧ n = x ∧ str = noText ∧ z = x) ∨ (op = 5 ∧ name = nameAppendArray ∧ n = 0 ∧ str = noText ∧ z = -1) ∨ (op = 6 ∧ name = nameAppendMap ∧ n = 0 ∧ str = r.s ∧ z = -1)

/-- One instruction of the plain machine, by cases. -/
inductive Rnd (data : List Int) (ins : List (Int × Int)) (k : Nat) (t : Int) (r : Regs) (nul : Bool) (s : St) (op x : Int) (res : Res) : Prop
  | enterE (name : ByteArray) (n : Int) (str : ByteArray) (z : Int) (s2 : St) (hc : Ent r op x name n str z) (hf : s.notes.length < 4194304) (hff : s.fields < 4194304) (hd : s.depth < 10000)
      (he : evalL data ins k ((s.fields + 1 : Nat) : Int) Regs.zero false { s.note name n str t with pc := s.pc + 1, fields := s.fields + 1, depth := s.depth + 1 } = some (.err s2)) (hr : res = .err s2.up)
  | enterF (name : ByteArray) (n : Int) (str : ByteArray) (z : Int) (s2 : St) (hc : Ent r op x name n str z) (hf : s.notes.length < 4194304) (hff : s.fields < 4194304) (hd : s.depth < 10000)
      (he : evalL data ins k ((s.fields + 1 : Nat) : Int) Regs.zero false { s.note name n str t with pc := s.pc + 1, fields := s.fields + 1, depth := s.depth + 1 } = some (.ok false s2))
      (hr : evalL data ins k t r nul s2.up.nextPc = some res)
  | enterT (name : ByteArray) (n : Int) (str : ByteArray) (z : Int) (s2 : St) (hc : Ent r op x name n str z) (hf : s.notes.length < 4194304) (hff : s.fields < 4194304) (hd : s.depth < 10000)
      (he : evalL data ins k ((s.fields + 1 : Nat) : Int) Regs.zero false { s.note name n str t with pc := s.pc + 1, fields := s.fields + 1, depth := s.depth + 1 } = some (.ok true s2))
      (hf2 : s2.notes.length < 4194304) (hr : evalL data ins k t r nul (s2.up.note nameNullField z noText t).nextPc = some res)
  | callE (s2 : St) (hop : op = 8) (hd : s.depth < 10000) (hx0 : 0 ≤ x) (hx1 : x ≤ 1000000)
      (he : evalL data ins k t Regs.zero false { s with pc := x, depth := s.depth + 1 } = some (.err s2)) (hr : res = .err { s2.up with pc := s.pc })
  | callF (nl : Bool) (s2 : St) (hop : op = 8) (hd : s.depth < 10000) (hx0 : 0 ≤ x) (hx1 : x ≤ 1000000)
      (he : evalL data ins k t Regs.zero false { s with pc := x, depth := s.depth + 1 } = some (.ok nl s2)) (hr : evalL data ins k t r nul { s2.up with pc := s.pc + 1 } = some res)
  | pushE (s2 : St) (hop : op = 19) (hd : s.depth < 10000)
      (he : evalL data ins k t Regs.zero false { s with pc := s.pc + 1, depth := s.depth + 1 } = some (.err s2)) (hr : res = .err s2.up)
  | pushF (nl : Bool) (s2 : St) (hop : op = 19) (hd : s.depth < 10000)
      (he : evalL data ins k t Regs.zero false { s with pc := s.pc + 1, depth := s.depth + 1 } = some (.ok nl s2)) (hr : evalL data ins k t r nul s2.up.nextPc = some res)
  | go (r' : Regs) (nul' : Bool) (s' : St) (h1 : step1 data op x t r nul s = some (.go r' nul' s')) (hr : evalL data ins k t r' nul' s'.nextPc = some res)
  | ret (nl : Bool) (s' : St) (h1 : step1 data op x t r nul s = some (.ret nl s')) (hr : res = .ok nl s')
  | err (s' : St) (h1 : step1 data op x t r nul s = some (.err s')) (hr : res = .err s')

theorem evalL_rnd {data : List Int} {ins : List (Int × Int)} {k : Nat} {t : Int} {r : Regs} {nul : Bool} {s : St} {res : Res} (h : evalL data ins (k + 1) t r nul s = some res) :
    0 ≤ s.pc ∧ ((ins[s.pc.toNat]? = none ∧ res = .ok false s) ∨
      ∃ op x, ins[s.pc.toNat]? = some (op, x) ∧ s.steps < 1048576 ∧ Rnd data ins k t r nul { s with steps := s.steps + 1 } op x res) := by
  rw [evalL] at h
  by_cases h0 : s.pc < 0
  · rw [if_pos h0] at h; cases h
  rw [if_neg h0] at h
  refine ⟨by omega, ?_⟩
  cases hi : ins[s.pc.toNat]? with
  | none => rw [hi] at h; exact .inl ⟨rfl, (Option.some.inj h).symm⟩
  | some ox =>
    obtain ⟨op, x⟩ := ox
    rw [hi] at h
    dsimp only at h
    refine .inr ⟨op, x, rfl, ?_⟩
    by_cases hs : 1048576 ≤ s.steps
    · rw [if_pos hs] at h; cases h
    rw [if_neg hs] at h
    refine ⟨by omega, ?_⟩
    have inner : ∀ (name : ByteArray) (n : Int) (str : ByteArray) (z : Int), Ent r op x name n str z →
        (if few { s with steps := s.steps + 1 } = false ∨ 4194304 ≤ s.fields ∨ 10000 ≤ s.depth then none
          else match evalL data ins k ((s.fields + 1 : Nat) : Int) Regs.zero false { ({ s with steps := s.steps + 1 } : St).note name n str t with pc := s.pc + 1, fields := s.fields + 1, depth := s.depth + 1 } with
            | none => none
            | some (.err s2) => some (.err s2.up)
            | some (.ok nl s2) =>
              if nl = true then (if few s2 = true then evalL data ins k t r nul (s2.up.note nameNullField z noText t).nextPc else none)
              else evalL data ins k t r nul s2.up.nextPc) = some res → Rnd data ins k t r nul { s with steps := s.steps + 1 } op x res := by
      intro name n str z hc h
      by_cases hb : few { s with steps := s.steps + 1 } = false ∨ 4194304 ≤ s.fields ∨ 10000 ≤ s.depth
      · rw [if_pos hb] at h; cases h
      rw [if_neg hb] at h
      have hf : ({ s with steps := s.steps + 1 } : St).notes.length < 4194304 := by
        have : ¬ few { s with steps := s.steps + 1 } = false := fun e => hb (.inl e)
        simpa [few] using this
      have hff : s.fields < 4194304 := by omega
      have hd : s.depth < 10000 := by omega
      cases he : evalL data ins k ((s.fields + 1 : Nat) : Int) Regs.zero false { ({ s with steps := s.steps + 1 } : St).note name n str t with pc := s.pc + 1, fields := s.fields + 1, depth := s.depth + 1 } with
      | none => rw [he] at h; cases h
      | some v =>
        rw [he] at h
        cases v with
        | err s2 => exact .enterE name n str z s2 hc hf hff hd he (Option.some.inj h).symm
        | ok nl s2 =>
          cases nl with
          | false => exact .enterF name n str z s2 hc hf hff hd he (by simpa using h)
          | true =>
            dsimp only at h
            rw [if_pos rfl] at h
            by_cases h2 : few s2 = true
            · rw [if_pos h2] at h
              exact .enterT name n str z s2 hc hf hff hd he (by simpa [few] using h2) h
            · rw [if_neg h2] at h; cases h
    by_cases c2 : op = 2
    · rw [if_pos c2] at h; exact inner _ _ _ _ (.inl ⟨c2, rfl, rfl, rfl, rfl⟩) h
    rw [if_neg c2] at h
    by_cases c5 : op = 5
    · rw [if_pos c5] at h; exact inner _ _ _ _ (.inr (.inl ⟨c5, rfl, rfl, rfl, rfl⟩)) h
    rw [if_neg c5] at h
    by_cases c6 : op = 6
    · rw [if_pos c6] at h; exact inner _ _ _ _ (.inr (.inr ⟨c6, rfl, rfl, rfl, rfl⟩)) h
    rw [if_neg c6] at h
    by_cases c8 : op = 8
    · rw [if_pos c8] at h
      by_cases hb : 10000 ≤ s.depth ∨ x < 0 ∨ 1000000 < x
      · rw [if_pos hb] at h; cases h
      rw [if_neg hb] at h
      cases he : evalL data ins k t Regs.zero false { s with steps := s.steps + 1, pc := x, depth := s.depth + 1 } with
      | none => rw [he] at h; cases h
      | some v =>
        rw [he] at h
        cases v with
        | err s2 => exact .callE s2 c8 (by show s.depth < 10000; omega) (by omega) (by omega) he (Option.some.inj h).symm
        | ok nl s2 => exact .callF nl s2 c8 (by show s.depth < 10000; omega) (by omega) (by omega) he h
    rw [if_neg c8] at h
    by_cases c19 : op = 19
    · rw [if_pos c19] at h
      by_cases hb : 10000 ≤ s.depth
      · rw [if_pos hb] at h; cases h
      rw [if_neg hb] at h
      cases he : evalL data ins k t Regs.zero false { s with steps := s.steps + 1, pc := s.pc + 1, depth := s.depth + 1 } with
      | none => rw [he] at h; cases h
      | some v =>
        rw [he] at h
        cases v with
        | err s2 => exact .pushE s2 c19 (by show s.depth < 10000; omega) he (Option.some.inj h).symm
        | ok nl s2 => exact .pushF nl s2 c19 (by show s.depth < 10000; omega) he h
    rw [if_neg c19] at h
    cases he : step1 data op x t r nul { s with steps := s.steps + 1 } with
    | none => rw [he] at h; cases h
    | some v =>
      rw [he] at h
      cases v with
      | go r' nul' s' => exact .go r' nul' s' he h
      | ret nl s' => exact .ret nl s' he (Option.some.inj h).symm
      | err s' => exact .err s' he (Option.some.inj h).symm

theorem evalL_pc {data : List Int} {ins : List (Int × Int)} (hl : ins.length ≤ 100000) : ∀ (k : Nat) (t : Int) (r : Regs) (nul : Bool) (s : St) (nl : Bool) (s2 : St),
    evalL data ins k t r nul s = some (.ok nl s2) → 0 ≤ s2.pc ∧ s2.pc ≤ max s.pc (1000000 + k)
  | 0, _, _, _, _, _, _, h => by cases h
  | k + 1, t, r, nul, s, nl, s2, h => by
    obtain ⟨h0, h1⟩ := evalL_rnd h
    rcases h1 with ⟨h1, h2⟩ | ⟨op, x, h1, hs, h2⟩
    · cases h2; omega
    have hlt : s.pc.toNat < ins.length := (List.getElem?_eq_some_iff.1 h1).1
    cases h2 with
    | enterE _ _ _ _ s3 hc hf hff hd he hr => cases hr
    | enterF _ _ _ _ s3 hc hf hff hd he hr =>
      have a := evalL_pc hl k _ _ _ _ _ _ he
      have b := evalL_pc hl k _ _ _ _ _ _ hr
      simp only [St.nextPc, St.up] at a b
      omega
    | enterT _ _ _ _ s3 hc hf hff hd he hf2 hr =>
      have a := evalL_pc hl k _ _ _ _ _ _ he
      have b := evalL_pc hl k _ _ _ _ _ _ hr
      simp only [St.nextPc, St.up, St.note] at a b
      omega
    | callE s3 hop hd hx0 hx1 he hr => cases hr
    | callF nl2 s3 hop hd hx0 hx1 he hr =>
      have b := evalL_pc hl k _ _ _ _ _ _ hr
      simp only at b
      omega
    | pushE s3 hop hd he hr => cases hr
    | pushF nl2 s3 hop hd he hr =>
      have a := evalL_pc hl k _ _ _ _ _ _ he
      have b := evalL_pc hl k _ _ _ _ _ _ hr
      simp only [St.nextPc, St.up] at a b
      omega
    | go r' nul' s' h1 hr =>
      have b := evalL_pc hl k _ _ _ _ _ _ hr
      have p := step1_pc data op x t r nul { s with steps := s.steps + 1 }
      rw [h1] at p
      simp only [OPcOk, Nxt.PcOk] at p
      simp only [St.nextPc] at b
      omega
    | ret nl' s' h1 hr =>
      have p := step1_pc data op x t r nul { s with steps := s.steps + 1 }
      rw [h1] at p
      simp only [OPcOk, Nxt.PcOk] at p
      cases hr
      omega
    | err s' h1 hr => cases hr

end Go.Proofs.YtkhicabfmkldpaaDoor
