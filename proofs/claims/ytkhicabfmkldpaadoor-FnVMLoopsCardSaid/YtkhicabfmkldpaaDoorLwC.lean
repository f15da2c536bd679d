/- The plain law: whatever the generator makes goes through, and a loop that is gone through so often does what as many calls do. -/
import Derived.Test.YtkhicabfmkldpaaDoorLwA
import Derived.Test.YtkhicabfmkldpaaDoorGn
namespace Go.Proofs.YtkhicabfmkldpaaDoor
open Go.RowKit

/-- A kind that is read. -/
def Kind (x : Int) : Prop := (1 ≤ x ∧ x ≤ 8) ∨ (10 ≤ x ∧ x ≤ 16)

theorem gKind_ok (c : Int) : Kind (gKind c) := by
  unfold gKind
  split
  · right; omega
  · have h0 : 0 ≤ c % 9 := by omega
    have h9 : (c % 9).toNat < 9 := by omega
    generalize (c % 9).toNat = k at h9
    match k, h9 with
    | 0, _ => left; decide
    | 1, _ => left; decide
    | 2, _ => left; decide
    | 3, _ => left; decide
    | 4, _ => left; decide
    | 5, _ => left; decide
    | 6, _ => left; decide
    | 7, _ => left; decide
    | 8, _ => right; decide
    | k + 9, h => omega

theorem St.put_pos {s : St} {c : Core} (h : s.core = c) (p : Nat) : { s with pos := p } = s.put s.pc 0 ⟨p, c.notes, c.fields⟩ := by
  subst h; rfl
theorem St.put_self {s : St} {c : Core} (h : s.core = c) : s = s.put s.pc 0 c := by
  subst h; rfl

theorem doRead_core (data : List Int) {x : Int} (hx : Kind x) (r : Regs) (nul : Bool) (c : Core) :
    (∃ r' p, ∀ s : St, s.core = c → doRead data x r nul s = some (.go r' nul (s.put s.pc 0 ⟨p, c.notes, c.fields⟩))) ∨ (∀ s : St, s.core = c → doRead data x r nul s = some (.err s)) := by
  have hpos : ∀ s : St, s.core = c → s.pos = c.pos := fun s h => by subst h; rfl
  by_cases c1 : x = 1
  · exact .inl ⟨r, c.pos, fun s h => by
      subst c1; show some (Nxt.go r nul s) = _
      rw [show s.put s.pc 0 ⟨c.pos, c.notes, c.fields⟩ = s from (St.put_self h).symm]⟩
  by_cases c2 : x = 2
  · subst c2
    exact .inl ⟨_, _, fun s h => by
      show some (Nxt.go { r with b := (boolOf data s.pos).1 } nul { s with pos := (boolOf data s.pos).2 }) = _
      rw [St.put_pos h, hpos s h]⟩
  by_cases c3 : x = 3
  · subst c3
    cases hrd : rdInt data c.pos with
    | none => exact .inr fun s h => by show (match rdInt data s.pos with | some (v, p) => _ | none => _) = _; rw [hpos s h, hrd]
    | some vp => exact .inl ⟨{ r with i := vp.1 }, vp.2, fun s h => by show (match rdInt data s.pos with | some (v, p) => _ | none => _) = _; rw [hpos s h, hrd]; exact congrArg (fun z => some (Nxt.go _ nul z)) (St.put_pos h _)⟩
  by_cases c4 : x = 4
  · subst c4
    cases hrd : rdLong data c.pos with
    | none => exact .inr fun s h => by show (match rdLong data s.pos with | some (v, p) => _ | none => _) = _; rw [hpos s h, hrd]
    | some vp => exact .inl ⟨{ r with l := vp.1 }, vp.2, fun s h => by show (match rdLong data s.pos with | some (v, p) => _ | none => _) = _; rw [hpos s h, hrd]; exact congrArg (fun z => some (Nxt.go _ nul z)) (St.put_pos h _)⟩
  by_cases c10 : x = 10
  · subst c10
    cases hrd : rdLong data c.pos with
    | none => exact .inr fun s h => by show (match rdLong data s.pos with | some (_, p) => _ | none => _) = _; rw [hpos s h, hrd]
    | some vp => exact .inl ⟨r, vp.2, fun s h => by show (match rdLong data s.pos with | some (_, p) => _ | none => _) = _; rw [hpos s h, hrd]; exact congrArg (fun z => some (Nxt.go _ nul z)) (St.put_pos h _)⟩
  by_cases c5 : x = 5
  · subst c5
    cases hrd : rdFloat data c.pos with
    | none => exact .inr fun s h => by show (match rdFloat data s.pos with | some (v, p) => _ | none => _) = _; rw [hpos s h, hrd]
    | some vp => exact .inl ⟨{ r with f := vp.1 }, vp.2, fun s h => by show (match rdFloat data s.pos with | some (v, p) => _ | none => _) = _; rw [hpos s h, hrd]; exact congrArg (fun z => some (Nxt.go _ nul z)) (St.put_pos h _)⟩
  by_cases c6 : x = 6
  · subst c6
    cases hrd : rdDouble data c.pos with
    | none => exact .inr fun s h => by show (match rdDouble data s.pos with | some (v, p) => _ | none => _) = _; rw [hpos s h, hrd]
    | some vp => exact .inl ⟨{ r with d := vp.1 }, vp.2, fun s h => by show (match rdDouble data s.pos with | some (v, p) => _ | none => _) = _; rw [hpos s h, hrd]; exact congrArg (fun z => some (Nxt.go _ nul z)) (St.put_pos h _)⟩
  by_cases c7 : x = 7
  · subst c7
    cases hrd : rdBytes data c.pos with
    | none => exact .inr fun s h => by show (match rdBytes data s.pos with | some (v, p) => _ | none => _) = _; rw [hpos s h, hrd]
    | some vp => exact .inl ⟨{ r with y := vp.1 }, vp.2, fun s h => by show (match rdBytes data s.pos with | some (v, p) => _ | none => _) = _; rw [hpos s h, hrd]; exact congrArg (fun z => some (Nxt.go _ nul z)) (St.put_pos h _)⟩
  by_cases c8 : x = 8
  · subst c8
    cases hrd : rdBytes data c.pos with
    | none => exact .inr fun s h => by show (match rdBytes data s.pos with | some (v, p) => _ | none => _) = _; rw [hpos s h, hrd]
    | some vp => exact .inl ⟨{ r with s := strOfNums vp.1 }, vp.2, fun s h => by show (match rdBytes data s.pos with | some (v, p) => _ | none => _) = _; rw [hpos s h, hrd]; exact congrArg (fun z => some (Nxt.go _ nul z)) (St.put_pos h _)⟩
  have hf : 11 ≤ x ∧ x ≤ 1011 := by unfold Kind at hx; omega
  have e : ∀ s : St, s.core = c → doRead data x r nul s = (match rdFixed data c.pos (x - 11).toNat with | some (v, p) => some (.go { r with y := v } nul { s with pos := p }) | none => some (.err s)) := fun s h => by
    unfold doRead
    rw [if_neg c1, if_neg c2, if_neg c3, if_neg c4, if_neg c10, if_neg c5, if_neg c6, if_neg c7, if_neg c8, if_pos hf, hpos s h]
    rfl
  cases hrd : rdFixed data c.pos (x - 11).toNat with
  | none => exact .inr fun s h => by rw [e s h, hrd]
  | some vp => exact .inl ⟨{ r with y := vp.1 }, vp.2, fun s h => by rw [e s h, hrd]; exact congrArg (fun z => some (Nxt.go _ nul z)) (St.put_pos h _)⟩

theorem St.put_note {s : St} {c : Core} (h : s.core = c) (name : ByteArray) (n : Int) (str : ByteArray) (t : Int) : s.note name n str t = s.put s.pc 0 ⟨c.pos, c.notes ++ [⟨name, n, str, t⟩], c.fields⟩ := by
  subst h; rfl

theorem doSet_core (x t : Int) (r : Regs) (c : Core) : ∃ c' : Core, c'.notes.length ≤ c.notes.length + 1 ∧ c'.fields ≤ c.fields ∧ ∀ s : St, s.core = c → doSet x t r s = s.put s.pc 0 c' := by
  have note : ∀ (name : ByteArray) (n : Int) (str : ByteArray), ∃ c' : Core, c'.notes.length ≤ c.notes.length + 1 ∧ c'.fields ≤ c.fields ∧ ∀ s : St, s.core = c → s.note name n str t = s.put s.pc 0 c' :=
    fun name n str => ⟨⟨c.pos, c.notes ++ [⟨name, n, str, t⟩], c.fields⟩, by simp, Nat.le_refl _, fun s h => St.put_note h name n str t⟩
  unfold doSet
  repeat' (first | (split; exact note _ _ _) | split)
  exact ⟨c, by omega, Nat.le_refl _, fun s h => St.put_self h⟩

/-- An operation that neither enters nor leaves nor jumps. -/
def Plain (op x : Int) : Prop := (op = 0 ∧ Kind x) ∨ op = 1 ∨ op = 4 ∨ op = 7 ∨ op = 12 ∨ op = 13 ∨ op = 15 ∨ op = 16 ∨ op = 17 ∨ op = 18 ∨ op = 21 ∨ op = 22

theorem few_of {s : St} (h : s.notes.length < 4194304) : few s = true := by simpa [few] using h

theorem Good.plain {data : List Int} {H : List (Int × Int) → Nat → Prop} {op v : Int} {h x : Nat} (hH : ∀ ins p, H ins p → ins[p + x]? = some (op, v)) (hp : Plain op v) : Good data H 1 h x (x + 1) := fun t r nul c => by
  have go : ∀ (r' : Regs) (nul' : Bool), (∀ s : St, s.core = c → step1 data op v t r nul s = some (.go r' nul' s)) → op ≠ 2 → op ≠ 5 → op ≠ 6 → op ≠ 8 → op ≠ 19 → ∃ o, Goes data H 1 h x (x + 1) t r nul c o :=
    fun r' nul' hs h2 h5 h6 h8 h19 => ⟨_, Goes.one hH h2 h5 h6 h8 h19 (fun s e _ => (hs s e).trans (congrArg (fun z => some (Nxt.go r' nul' z)) (St.put_self e))) (by omega) (Nat.le_refl _)⟩
  have nt : ∀ (name : ByteArray) (n : Int), (∀ s : St, s.core = c → s.notes.length < 4194304 → step1 data op v t r nul s = some (.go r nul (s.note name n noText t))) → op ≠ 2 → op ≠ 5 → op ≠ 6 → op ≠ 8 → op ≠ 19 → ∃ o, Goes data H 1 h x (x + 1) t r nul c o :=
    fun name n hs h2 h5 h6 h8 h19 => ⟨_, Goes.one hH h2 h5 h6 h8 h19 (fun s e l => (hs s e l).trans (congrArg (fun z => some (Nxt.go r nul z)) (St.put_note e name n noText t))) (by simp) (Nat.le_refl _)⟩
  rcases hp with ⟨rfl, hk⟩ | rfl | rfl | rfl | rfl | rfl | rfl | rfl | rfl | rfl | rfl | rfl
  · rcases doRead_core data hk r nul c with ⟨r', p, hd⟩ | hd
    · exact ⟨_, Goes.one hH (by omega) (by omega) (by omega) (by omega) (by omega) (fun s e _ => hd s e) (Nat.le_succ _) (Nat.le_refl _)⟩
    · exact ⟨.err c, Goes.oneErr hH (by omega) (by omega) (by omega) (by omega) (by omega) (fun s e => ⟨s, e, hd s e⟩)⟩
  · obtain ⟨c', h1, h2, hd⟩ := doSet_core v t r c
    exact ⟨_, Goes.one hH (by omega) (by omega) (by omega) (by omega) (by omega) (fun s e l => by
      show (if few s = true then some (Nxt.go r nul (doSet v t r s)) else none) = _
      rw [if_pos (few_of l), hd s e]) h1 h2⟩
  · exact go r true (fun s _ => rfl) (by omega) (by omega) (by omega) (by omega) (by omega)
  · exact nt nameSetDefault v (fun s _ l => by
      show (if few s = true then _ else none) = _
      rw [if_pos (few_of l)]) (by omega) (by omega) (by omega) (by omega) (by omega)
  · exact go { r with c := r.l == v } nul (fun s _ => rfl) (by omega) (by omega) (by omega) (by omega) (by omega)
  · exact go { r with c := decide (r.l > v) } nul (fun s _ => rfl) (by omega) (by omega) (by omega) (by omega) (by omega)
  · exact go { r with l := v } nul (fun s _ => rfl) (by omega) (by omega) (by omega) (by omega) (by omega)
  · exact go { r with l := wrap64 (r.l + v) } nul (fun s _ => rfl) (by omega) (by omega) (by omega) (by omega) (by omega)
  · exact go { r with l := wrap64 (r.l * v) } nul (fun s _ => rfl) (by omega) (by omega) (by omega) (by omega) (by omega)
  · exact go { r with i := wrap32 v } nul (fun s _ => rfl) (by omega) (by omega) (by omega) (by omega) (by omega)
  · exact nt nameNullField v (fun s _ l => by
      show (if few s = true then _ else none) = _
      rw [if_pos (few_of l)]) (by omega) (by omega) (by omega) (by omega) (by omega)
  · exact nt nameHintSize r.l (fun s _ l => by
      show (if few s = true then _ else none) = _
      rw [if_pos (few_of l)]) (by omega) (by omega) (by omega) (by omega) (by omega)

/-- The code l stands at place q of a part. -/
def Has (ins : List (Int × Int)) (p q : Nat) (l : List RI) : Prop := ∀ (i : Nat) (r : RI), l[i]? = some r → ins[p + (q + i)]? = some (reloc p r)

theorem Has.get {ins : List (Int × Int)} {p q : Nat} {l : List RI} (h : Has ins p q l) (i : Nat) (r : RI) (hr : l[i]? = some r) : ins[p + (q + i)]? = some (reloc p r) := h i r hr
theorem Has.left {ins : List (Int × Int)} {p q : Nat} {a b : List RI} (h : Has ins p q (a ++ b)) : Has ins p q a :=
  fun i r hr => h i r (by rw [List.getElem?_append_left (List.getElem?_eq_some_iff.1 hr).1]; exact hr)
theorem Has.right {ins : List (Int × Int)} {p q : Nat} {a b : List RI} (h : Has ins p q (a ++ b)) {q' : Nat} (hq : q' = q + a.length) : Has ins p q' b :=
  fun i r hr => by
    have := h (a.length + i) r (by rw [List.getElem?_append_right (by omega), Nat.add_sub_cancel_left]; exact hr)
    rw [hq, Nat.add_assoc q a.length i]
    exact this

end Go.Proofs.YtkhicabfmkldpaaDoor

namespace Go.Proofs.YtkhicabfmkldpaaDoor
open Go.RowKit

/-- What is added is a stretch that goes through, of at most so many instructions. -/
def OkAt (data : List Int) (M h L : Nat) (s t : GS) : Prop := ∃ ys, t.2 = s.2 ++ ys ∧ ys.length ≤ L ∧ (∀ r ∈ ys, r.op ≠ 8) ∧ (s.2.length ≤ 1000 → Good data (fun ins p => Has ins p s.2.length ys) M h s.2.length (s.2.length + ys.length))
def Ok (data : List Int) (M h L : Nat) (f : GS → GS) : Prop := ∀ s, OkAt data M h L s (f s)

variable {data : List Int}

theorem OkAt.refl {s : GS} {c : List Int} (h : Nat) : OkAt data 0 h 0 s (c, s.2) := ⟨[], by simp, Nat.le_refl _, by simp, fun _ => Good.refl⟩

theorem OkAt.mono {M M' h h' L L' : Nat} {s t : GS} (o : OkAt data M h L s t) (hM : M ≤ M') (hh : h ≤ h') (hL : L ≤ L') : OkAt data M' h' L' s t := by
  obtain ⟨ys, h1, h2, h3, h4⟩ := o
  exact ⟨ys, h1, by omega, h3, fun hs => (h4 hs).mono hM hh (fun _ _ a => a)⟩

theorem OkAt.trans {M1 M2 h L1 L2 : Nat} {s t u : GS} (a : OkAt data M1 h L1 s t) (b : OkAt data M2 h L2 t u) (ht : t.2.length ≤ 1000) : OkAt data (M1 + M2) h (L1 + L2) s u := by
  obtain ⟨ys, a1, a2, a3, a4⟩ := a
  obtain ⟨zs, b1, b2, b3, b4⟩ := b
  refine ⟨ys ++ zs, by rw [b1, a1, List.append_assoc], by rw [List.length_append]; omega, fun r hr => (List.mem_append.1 hr).elim (a3 r) (b3 r), fun hs => ?_⟩
  have e : t.2.length = s.2.length + ys.length := by rw [a1, List.length_append]
  have g2 := b4 ht
  rw [e] at g2
  have g1 := (a4 hs).mono (H' := fun ins p => Has ins p s.2.length (ys ++ zs)) (Nat.le_refl _) (Nat.le_refl _) (fun _ _ x => x.left)
  have g3 := g2.mono (H' := fun ins p => Has ins p s.2.length (ys ++ zs)) (Nat.le_refl _) (Nat.le_refl _) (fun _ _ x => x.right rfl)
  rw [List.length_append, ← Nat.add_assoc]
  exact g1.trans g3

theorem set_at (a l : List RI) (k : Nat) (r : RI) : (a ++ l).set (a.length + k) r = a ++ l.set k r := by simp

/-- One plain instruction. -/
theorem OkAt.plain {s : GS} {c : List Int} {op x : Int} (h : Nat) (hp : Plain op x) : OkAt data 1 h 1 s (c, s.2 ++ [⟨op, x, false⟩]) := by
  refine ⟨[⟨op, x, false⟩], rfl, Nat.le_refl _, ?_, fun _ => ?_⟩
  · intro r hr
    rw [List.mem_singleton.1 hr]
    show op ≠ 8
    rcases hp with ⟨rfl, _⟩ | rfl | rfl | rfl | rfl | rfl | rfl | rfl | rfl | rfl | rfl | rfl <;> omega
  · exact Good.plain (fun ins p hh => Has.get hh 0 _ rfl) hp

theorem OkAt.from {M h L : Nat} {s t : GS} {c : List Int} (a : OkAt data M h L (c, s.2) t) : OkAt data M h L s t := a

theorem ok_bodyN {M h L : Nat} {st : GS → GS} (hst : Ok data M h L st) (hL : L ≤ 800) : ∀ (n : Nat) (s : GS), OkAt data (n * M) h (n * L) s (gBodyN st n s)
  | 0, s => by
    rw [Nat.zero_mul, Nat.zero_mul]
    exact OkAt.refl (s := s) (c := s.1) h
  | n + 1, s => by
    show OkAt data _ h _ s (if s.1 ≠ [] ∧ s.2.length < 120 then gBodyN st n (st s) else s)
    split
    · rename_i hc
      have a := hst s
      have ht : (st s).2.length ≤ 1000 := by
        obtain ⟨ys, h1, h2, _, _⟩ := a
        rw [h1, List.length_append]; omega
      refine (a.trans (ok_bodyN hst hL n (st s)) ht).mono ?_ (Nat.le_refl _) ?_ <;> (rw [Nat.add_mul]; omega)
    · exact (OkAt.refl (s := s) (c := s.1) h).mono (Nat.zero_le _) (Nat.le_refl _) (Nat.zero_le _)

theorem ok_body {M h L : Nat} {st : GS → GS} (hst : Ok data M h L st) (hL : L ≤ 800) : Ok data (4 * M) h (4 * L) (gBody st) := fun s => by
  have hn : (gByte s.1 % 5).toNat ≤ 4 := by omega
  exact (OkAt.from (s := s) (ok_bodyN hst hL (gByte s.1 % 5).toNat (s.1.tail, s.2))).mono (Nat.mul_le_mul_right _ hn) (Nat.le_refl _) (Nat.mul_le_mul_right _ hn)

/-- What is entered, and left. -/
theorem OkAt.enter {M h L : Nat} {s t : GS} {op v : Int} {c c' : List Int} (he : op = 2 ∨ ((op = 5 ∨ op = 6) ∧ v = 0)) (b : OkAt data M h L (c, s.2 ++ [⟨op, v, false⟩]) t) (hs : s.2.length ≤ 900) :
    OkAt data (M + 3) (h + 1) (L + 2) s (c', t.2 ++ [⟨3, 0, false⟩]) := by
  obtain ⟨ys, b1, b2, b3, b4⟩ := b
  have hop : op ≠ 8 := by omega
  refine ⟨[⟨op, v, false⟩] ++ ys ++ [⟨3, 0, false⟩], by rw [b1]; simp, by simp; omega, ?_, fun _ => ?_⟩
  · intro r hr
    simp only [List.mem_append, List.mem_singleton] at hr
    rcases hr with (rfl | hr) | rfl
    · exact hop
    · exact b3 r hr
    · show (3 : Int) ≠ 8; omega
  · have g := b4 (by simp; omega)
    simp only [List.length_append, List.length_cons, List.length_nil, Nat.zero_add] at g
    have g2 := g.mono (H' := fun ins p => Has ins p s.2.length ([(⟨op, v, false⟩ : RI)] ++ ys ++ [(⟨3, 0, false⟩ : RI)])) (Nat.le_refl _) (Nat.le_refl _) (fun _ _ x => x.left.right rfl)
    have hlen : s.2.length + ([(⟨op, v, false⟩ : RI)] ++ ys ++ [(⟨3, 0, false⟩ : RI)]).length = s.2.length + 1 + ys.length + 1 := by simp; omega
    rw [hlen]
    have hx : ∀ ins p, Has ins p s.2.length ([(⟨op, v, false⟩ : RI)] ++ ys ++ [(⟨3, 0, false⟩ : RI)]) → ins[p + s.2.length]? = some (op, v) := fun ins p x => Has.get x 0 ⟨op, v, false⟩ rfl
    have hy : ∀ ins p, Has ins p s.2.length ([(⟨op, v, false⟩ : RI)] ++ ys ++ [(⟨3, 0, false⟩ : RI)]) → ins[p + (s.2.length + 1 + ys.length)]? = some (3, 0) := fun ins p x =>
      (x.right (q' := s.2.length + 1 + ys.length) (by simp; omega)).get 0 ⟨3, 0, false⟩ rfl
    rcases he with rfl | ⟨rfl | rfl, rfl⟩
    · exact Good.enter (n := v) (z := v) (name := nameGet) (.inl ⟨rfl, rfl, rfl, rfl⟩) hx hy g2
    · exact Good.enter (n := 0) (z := -1) (name := nameAppendArray) (.inr (.inl ⟨rfl, rfl, rfl, rfl⟩)) hx hy g2
    · exact Good.enter (n := 0) (z := -1) (name := nameAppendMap) (.inr (.inr ⟨rfl, rfl, rfl, rfl⟩)) hx hy g2

/-- A jump over a body. -/
theorem OkAt.skip {M h L : Nat} {s t : GS} {op v : Int} {c c' : List Int} (hp : Plain op v) (b : OkAt data M h L (c, s.2 ++ [⟨op, v, false⟩] ++ [⟨14, 0, false⟩]) t) (hs : s.2.length ≤ 900) (hL : L ≤ 1000) :
    OkAt data (M + 2) h (L + 2) s (c', t.2.set (s.2.length + 1) ⟨14, (t.2.length : Int), true⟩) := by
  obtain ⟨ys, b1, b2, b3, b4⟩ := b
  have hop : op ≠ 8 := by rcases hp with ⟨rfl, _⟩ | rfl | rfl | rfl | rfl | rfl | rfl | rfl | rfl | rfl | rfl | rfl <;> omega
  have hlen : t.2.length = s.2.length + 2 + ys.length := by rw [b1]; simp; omega
  refine ⟨[⟨op, v, false⟩] ++ [⟨14, ((s.2.length + 2 + ys.length : Nat) : Int), true⟩] ++ ys, by rw [hlen, b1]; simp, by simp; omega, ?_, fun _ => ?_⟩
  · intro r hr
    simp only [List.mem_append, List.mem_singleton] at hr
    rcases hr with (rfl | rfl) | hr
    · exact hop
    · show (14 : Int) ≠ 8; omega
    · exact b3 r hr
  · have g := b4 (by simp; omega)
    simp only [List.length_append, List.length_cons, List.length_nil, Nat.zero_add] at g
    have g2 := g.mono (H' := fun ins p => Has ins p s.2.length ([(⟨op, v, false⟩ : RI)] ++ [(⟨14, ((s.2.length + 2 + ys.length : Nat) : Int), true⟩ : RI)] ++ ys)) (Nat.le_refl _) (Nat.le_refl _) (fun _ _ x => x.right (by simp))
    have hl2 : s.2.length + ([(⟨op, v, false⟩ : RI)] ++ [(⟨14, ((s.2.length + 2 + ys.length : Nat) : Int), true⟩ : RI)] ++ ys).length = s.2.length + 2 + ys.length := by simp; omega
    rw [hl2]
    have g1 : Good data (fun ins p => Has ins p s.2.length ([(⟨op, v, false⟩ : RI)] ++ [(⟨14, ((s.2.length + 2 + ys.length : Nat) : Int), true⟩ : RI)] ++ ys)) 1 h s.2.length (s.2.length + 1) :=
      Good.plain (fun ins p x => Has.get x 0 ⟨op, v, false⟩ rfl) hp
    have hc : ∀ ins p, Has ins p s.2.length ([(⟨op, v, false⟩ : RI)] ++ [(⟨14, ((s.2.length + 2 + ys.length : Nat) : Int), true⟩ : RI)] ++ ys) → ins[p + (s.2.length + 1)]? = some (14, ((s.2.length + 2 + ys.length : Nat) : Int) + p) :=
      fun ins p x => Has.get x 1 ⟨14, ((s.2.length + 2 + ys.length : Nat) : Int), true⟩ rfl
    have g3 : Good data (fun ins p => Has ins p s.2.length ([(⟨op, v, false⟩ : RI)] ++ [(⟨14, ((s.2.length + 2 + ys.length : Nat) : Int), true⟩ : RI)] ++ ys)) (1 + M) h (s.2.length + 1) (s.2.length + 2 + ys.length) := fun t r nul c => by
      cases hr : r.c with
      | true => exact ⟨_, (Goes.cond hc (by omega) hr).mono (by omega) (Nat.le_refl _) (fun _ _ a => a)⟩
      | false =>
        have a1 := Goes.condNot (data := data) (h := h) (t := t) (r := r) (nul := nul) (c := c) hc (by omega) hr
        obtain ⟨o, ho⟩ := g2 t r nul c
        exact ⟨_, a1.trans ho⟩
    exact (g1.trans g3).mono (by omega) (Nat.le_refl _) (fun _ _ a => a)

/-- A loop. -/
theorem OkAt.loop {M h L : Nat} {s t : GS} {v : Int} {c c' : List Int} (hv0 : 0 ≤ v) (hv : v ≤ 3)
    (b : OkAt data M h L (c, s.2 ++ [⟨15, v, false⟩] ++ [⟨12, 0, false⟩] ++ [⟨14, 0, false⟩] ++ [⟨19, 0, false⟩]) t) (hs : s.2.length ≤ 900) (hL : L ≤ 1000) :
    OkAt data (3 * (M + 7) + 3) (h + 1) (L + 7) s (c', t.2.set (s.2.length + 1 + 1) ⟨14, (t.2.length : Int) + 3, true⟩ ++ [⟨20, 0, false⟩] ++ [⟨16, -1, false⟩] ++ [⟨11, ((s.2.length + 1 : Nat) : Int), true⟩]) := by
  obtain ⟨ys, b1, b2, b3, b4⟩ := b
  have hlen : t.2.length = s.2.length + 4 + ys.length := by rw [b1]; simp; omega
  refine ⟨[⟨15, v, false⟩, ⟨12, 0, false⟩, ⟨14, ((s.2.length + 4 + ys.length + 3 : Nat) : Int), true⟩, ⟨19, 0, false⟩] ++ ys ++ [⟨20, 0, false⟩, ⟨16, -1, false⟩, ⟨11, ((s.2.length + 1 : Nat) : Int), true⟩], ?_, by simp; omega, ?_, fun _ => ?_⟩
  · rw [hlen, b1]
    show (s.2 ++ [(⟨15, v, false⟩ : RI)] ++ [(⟨12, 0, false⟩ : RI)] ++ [(⟨14, 0, false⟩ : RI)] ++ [(⟨19, 0, false⟩ : RI)] ++ ys).set (s.2.length + 2) _ ++ _ ++ _ ++ _ = _
    simp only [List.append_assoc]
    rw [set_at]
    simp
  · intro r hr
    simp only [List.mem_append, List.mem_cons, List.not_mem_nil, or_false] at hr
    rcases hr with ((rfl | rfl | rfl | rfl) | hr) | (rfl | rfl | rfl)
    · show (15 : Int) ≠ 8; omega
    · show (12 : Int) ≠ 8; omega
    · show (14 : Int) ≠ 8; omega
    · show (19 : Int) ≠ 8; omega
    · exact b3 r hr
    · show (20 : Int) ≠ 8; omega
    · show (16 : Int) ≠ 8; omega
    · show (11 : Int) ≠ 8; omega
  · have g := b4 (by simp; omega)
    simp only [List.length_append, List.length_cons, List.length_nil, Nat.zero_add, Nat.add_assoc, Nat.reduceAdd] at g
    generalize hZ : ([⟨15, v, false⟩, ⟨12, 0, false⟩, ⟨14, ((s.2.length + 4 + ys.length + 3 : Nat) : Int), true⟩, ⟨19, 0, false⟩] ++ ys ++ [⟨20, 0, false⟩, ⟨16, -1, false⟩, ⟨11, ((s.2.length + 1 : Nat) : Int), true⟩] : List RI) = Z
    have hZl : Z.length = ys.length + 7 := by rw [← hZ]; simp
    have at0 : ∀ ins p, Has ins p s.2.length Z → Has ins p s.2.length [⟨15, v, false⟩, ⟨12, 0, false⟩, ⟨14, ((s.2.length + 4 + ys.length + 3 : Nat) : Int), true⟩, ⟨19, 0, false⟩] := fun ins p x => by rw [← hZ] at x; exact x.left.left
    have at1 : ∀ ins p, Has ins p s.2.length Z → Has ins p (s.2.length + 4) ys := fun ins p x => by rw [← hZ] at x; exact x.left.right rfl
    have at2 : ∀ ins p, Has ins p s.2.length Z → Has ins p (s.2.length + 4 + ys.length) [⟨20, 0, false⟩, ⟨16, -1, false⟩, ⟨11, ((s.2.length + 1 : Nat) : Int), true⟩] := fun ins p x => by rw [← hZ] at x; exact x.right (by simp; omega)
    have g2 : Good data (fun ins p => Has ins p s.2.length Z) M h (s.2.length + 4) (s.2.length + 4 + ys.length) := by
      rw [Nat.add_assoc]
      exact g.mono (Nat.le_refl _) (Nat.le_refl _) at1
    have LA : LoopAt (fun ins p => Has ins p s.2.length Z) (s.2.length + 1) (s.2.length + 4 + ys.length) :=
      ⟨fun ins p x => (at0 ins p x).get 1 _ rfl, fun ins p x => (at0 ins p x).get 2 _ rfl, fun ins p x => (at0 ins p x).get 3 _ rfl, fun ins p x => (at2 ins p x).get 0 _ rfl, fun ins p x => (at2 ins p x).get 1 _ rfl, fun ins p x => (at2 ins p x).get 2 _ rfl⟩
    have e : s.2.length + Z.length = s.2.length + 4 + ys.length + 3 := by omega
    rw [e]
    intro t r nul c
    have a0 : Goes data (fun ins p => Has ins p s.2.length Z) 1 (h + 1) s.2.length (s.2.length + 1) t r nul c (.on 1 1 { r with l := v } nul c) :=
      Goes.one (op := 15) (v := v) (fun ins p x => (at0 ins p x).get 0 _ rfl) (by omega) (by omega) (by omega) (by omega) (by omega) (fun s e _ => by
        show some (Nxt.go { r with l := v } nul s) = _
        exact congrArg (fun z => some (Nxt.go _ nul z)) (St.put_self e)) (by omega) (Nat.le_refl _)
    obtain ⟨o, ho⟩ := loop_goes LA g2 (by omega) (by omega) v.toNat (by omega) t { r with l := v } nul c (by show v = _; omega)
    refine ⟨_, (a0.trans ho).mono ?_ (Nat.le_refl _) (fun _ _ a => a)⟩
    have : v.toNat * (M + 7) ≤ 3 * (M + 7) := Nat.mul_le_mul_right _ (by omega)
    omega

end Go.Proofs.YtkhicabfmkldpaaDoor

namespace Go.Proofs.YtkhicabfmkldpaaDoor
open Go.RowKit

/-- As Ok, but for states that are not too long. -/
def OkS (data : List Int) (M h L : Nat) (f : GS → GS) : Prop := ∀ s, s.2.length ≤ 800 → OkAt data M h L s (f s)

variable {data : List Int}

theorem ok_bodyS {M h L : Nat} {st : GS → GS} (hst : OkS data M h L st) (hL : L ≤ 800) : ∀ (n : Nat) (s : GS), OkAt data (n * M) h (n * L) s (gBodyN st n s)
  | 0, s => by
    rw [Nat.zero_mul, Nat.zero_mul]
    exact OkAt.refl (s := s) (c := s.1) h
  | n + 1, s => by
    show OkAt data _ h _ s (if s.1 ≠ [] ∧ s.2.length < 120 then gBodyN st n (st s) else s)
    split
    · rename_i hc
      have a := hst s (by omega)
      have ht : (st s).2.length ≤ 1000 := by
        obtain ⟨ys, h1, h2, _, _⟩ := a
        rw [h1, List.length_append]; omega
      refine (a.trans (ok_bodyS hst hL n (st s)) ht).mono ?_ (Nat.le_refl _) ?_ <;> (rw [Nat.add_mul]; omega)
    · exact (OkAt.refl (s := s) (c := s.1) h).mono (Nat.zero_le _) (Nat.le_refl _) (Nat.zero_le _)

theorem ok_bodyOf {M h L : Nat} {st : GS → GS} (hst : OkS data M h L st) (hL : L ≤ 800) : Ok data (4 * M) h (4 * L) (gBody st) := fun s => by
  have hn : (gByte s.1 % 5).toNat ≤ 4 := by omega
  exact (OkAt.from (s := s) (ok_bodyS hst hL (gByte s.1 % 5).toNat (s.1.tail, s.2))).mono (Nat.mul_le_mul_right _ hn) (Nat.le_refl _) (Nat.mul_le_mul_right _ hn)

theorem ops10 (k : Nat) (h : k < 4) : ∃ y, opsList10[k]? = some y ∧ (y = 15 ∨ y = 16 ∨ y = 17 ∨ y = 18) := by
  match k, h with
  | 0, _ => exact ⟨_, rfl, by omega⟩
  | 1, _ => exact ⟨_, rfl, by omega⟩
  | 2, _ => exact ⟨_, rfl, by omega⟩
  | 3, _ => exact ⟨_, rfl, by omega⟩
theorem ops11 (k : Nat) (h : k < 4) : ∃ y, opsList11[k]? = some y ∧ (y = 7 ∨ y = 21 ∨ y = 22 ∨ y = 1) := by
  match k, h with
  | 0, _ => exact ⟨_, rfl, by omega⟩
  | 1, _ => exact ⟨_, rfl, by omega⟩
  | 2, _ => exact ⟨_, rfl, by omega⟩
  | 3, _ => exact ⟨_, rfl, by omega⟩
theorem ops12 (k : Nat) (h : k < 2) : ∃ y, opsList12[k]? = some y ∧ (y = 12 ∨ y = 13) := by
  match k, h with
  | 0, _ => exact ⟨_, rfl, by omega⟩
  | 1, _ => exact ⟨_, rfl, by omega⟩

theorem len1 (l : List RI) (r : RI) : (l ++ [r]).length = l.length + 1 := by simp

/-- The statements that hold no body. -/
theorem ok_flat (body : GS → GS) (h : Nat) {c : Int} (hc : (0 ≤ c ∧ c ≤ 5) ∨ c = 10 ∨ c = 11 ∨ c = 15) {s : GS} (hs : s.2.length ≤ 900) : OkAt data 2 h 2 s (gCase body c s) := by
  have plain1 : ∀ {op x : Int} {cs : List Int}, Plain op x → OkAt data 2 h 2 s (cs, s.2 ++ [⟨op, x, false⟩]) := fun hp => (OkAt.plain h hp).mono (by omega) (Nat.le_refl _) (by omega)
  have hk := gKind_ok (gByte s.1)
  have two : OkAt data 2 h 2 s (s.1.tail, s.2 ++ [⟨0, gKind (gByte s.1), false⟩] ++ [⟨1, gKind (gByte s.1), false⟩]) :=
    OkAt.trans (t := (s.1.tail, s.2 ++ [⟨0, gKind (gByte s.1), false⟩])) (OkAt.plain h (.inl ⟨rfl, hk⟩)) (OkAt.plain h (.inr (.inl rfl))) (by show (s.2 ++ _).length ≤ _; rw [len1]; omega)
  obtain rfl | rfl | rfl | rfl | rfl | rfl | rfl | rfl | rfl : c = 0 ∨ c = 1 ∨ c = 2 ∨ c = 3 ∨ c = 4 ∨ c = 5 ∨ c = 10 ∨ c = 11 ∨ c = 15 := by omega
  · exact plain1 (.inl ⟨rfl, hk⟩)
  · exact plain1 (.inr (.inl rfl))
  · exact two
  · exact two
  · exact two
  · exact two
  · obtain ⟨y, h1, h2⟩ := ops10 (gByte s.1 % 4).toNat (by omega)
    show OkAt data 2 h 2 s (s.1.tail.tail, s.2 ++ [⟨opsList10[(gByte s.1 % 4).toNat]?.getD 15, gByte s.1.tail % 9 - 3, false⟩])
    rw [h1]
    exact plain1 (by unfold Plain; show _ ∨ _; simp only [Option.getD_some]; omega)
  · obtain ⟨y, h1, h2⟩ := ops11 (gByte s.1 % 4).toNat (by omega)
    show OkAt data 2 h 2 s (s.1.tail.tail, s.2 ++ [⟨opsList11[(gByte s.1 % 4).toNat]?.getD 7, gByte s.1.tail % 6, false⟩])
    rw [h1]
    exact plain1 (by unfold Plain; show _ ∨ _; simp only [Option.getD_some]; omega)
  · exact (OkAt.refl (s := s) (c := s.1) h).mono (Nat.zero_le _) (Nat.le_refl _) (Nat.zero_le _)

theorem OkAt.more {M h L : Nat} {s t : GS} {op x : Int} {cs : List Int} (a : OkAt data M h L s t) (hp : Plain op x) (ht : t.2.length ≤ 1000) : OkAt data (M + 1) h (L + 1) s (cs, t.2 ++ [⟨op, x, false⟩]) :=
  a.trans (OkAt.plain h hp) ht

theorem OkAt.len {M h L : Nat} {s t : GS} (a : OkAt data M h L s t) : t.2.length ≤ s.2.length + L := by
  obtain ⟨ys, h1, h2, _, _⟩ := a
  rw [h1, List.length_append]; omega

/-- The statements that hold a body. -/
theorem ok_case {M h L : Nat} {body : GS → GS} (hb : Ok data M h L body) (hL : L ≤ 80) {c : Int} (h0 : 0 ≤ c) (h15 : c ≤ 15) {s : GS} (hs : s.2.length ≤ 800) : OkAt data (3 * (M + 7) + 3) (h + 1) (L + 7) s (gCase body c s) := by
  by_cases hf : (0 ≤ c ∧ c ≤ 5) ∨ c = 10 ∨ c = 11 ∨ c = 15
  · exact (ok_flat body (h + 1) hf (by omega)).mono (by omega) (Nat.le_refl _) (by omega)
  obtain rfl | rfl | rfl | rfl | rfl | rfl | rfl : c = 6 ∨ c = 7 ∨ c = 8 ∨ c = 9 ∨ c = 12 ∨ c = 13 ∨ c = 14 := by omega
  all_goals try (
    have b := hb (s.1.tail, s.2 ++ [⟨2, gByte s.1 % 6, false⟩])
    have hl := b.len
    rw [show ((s.1.tail, s.2 ++ [(⟨2, gByte s.1 % 6, false⟩ : RI)]) : GS).2.length = s.2.length + 1 from len1 _ _] at hl
    by_cases he : gByte (body (s.1.tail, s.2 ++ [⟨2, gByte s.1 % 6, false⟩])).1 % 4 = 0
    · have := OkAt.enter (op := 2) (v := gByte s.1 % 6) (s := s) (c' := (body (s.1.tail, s.2 ++ [⟨2, gByte s.1 % 6, false⟩])).1.tail) (.inl rfl) (b.more (op := 4) (x := 0) (cs := []) (.inr (.inr (.inl rfl))) (by omega)) (by omega)
      refine OkAt.mono (M := M + 1 + 3) (h := h + 1) (L := L + 1 + 2) ?_ (by omega) (Nat.le_refl _) (by omega)
      show OkAt data _ _ _ s ((body (s.1.tail, s.2 ++ [⟨2, gByte s.1 % 6, false⟩])).1.tail, (if gByte (body (s.1.tail, s.2 ++ [⟨2, gByte s.1 % 6, false⟩])).1 % 4 = 0 then (body (s.1.tail, s.2 ++ [⟨2, gByte s.1 % 6, false⟩])).2 ++ [⟨4, 0, false⟩] else (body (s.1.tail, s.2 ++ [⟨2, gByte s.1 % 6, false⟩])).2) ++ [⟨3, 0, false⟩])
      rw [if_pos he]
      exact this
    · have := OkAt.enter (op := 2) (v := gByte s.1 % 6) (s := s) (c' := (body (s.1.tail, s.2 ++ [⟨2, gByte s.1 % 6, false⟩])).1.tail) (.inl rfl) b (by omega)
      refine OkAt.mono (M := M + 3) (h := h + 1) (L := L + 2) ?_ (by omega) (Nat.le_refl _) (by omega)
      show OkAt data _ _ _ s ((body (s.1.tail, s.2 ++ [⟨2, gByte s.1 % 6, false⟩])).1.tail, (if gByte (body (s.1.tail, s.2 ++ [⟨2, gByte s.1 % 6, false⟩])).1 % 4 = 0 then (body (s.1.tail, s.2 ++ [⟨2, gByte s.1 % 6, false⟩])).2 ++ [⟨4, 0, false⟩] else (body (s.1.tail, s.2 ++ [⟨2, gByte s.1 % 6, false⟩])).2) ++ [⟨3, 0, false⟩])
      rw [if_neg he]
      exact this
    done)
  · exact (OkAt.enter (op := 5) (v := 0) (s := s) (c' := (body (s.1, s.2 ++ [⟨5, 0, false⟩])).1) (.inr ⟨.inl rfl, rfl⟩) (hb (s.1, s.2 ++ [⟨5, 0, false⟩])) (by omega)).mono (by omega) (Nat.le_refl _) (by omega)
  · have e := OkAt.enter (op := 6) (v := 0) (s := (s.1, s.2 ++ [⟨0, 8, false⟩])) (c' := (body (s.1, s.2 ++ [⟨0, 8, false⟩] ++ [⟨6, 0, false⟩])).1) (.inr ⟨.inr rfl, rfl⟩) (hb (s.1, s.2 ++ [⟨0, 8, false⟩] ++ [⟨6, 0, false⟩])) (by show (s.2 ++ _).length ≤ _; rw [len1]; omega)
    have p : OkAt data 1 (h + 1) 1 s (s.1, s.2 ++ [⟨0, 8, false⟩]) := OkAt.plain (h + 1) (.inl ⟨rfl, .inl (by omega)⟩)
    exact (p.trans e (by show (s.2 ++ _).length ≤ _; rw [len1]; omega)).mono (by omega) (Nat.le_refl _) (by omega)
  · obtain ⟨y, h1, h2⟩ := ops12 (gByte s.1 % 2).toNat (by omega)
    have b := hb (s.1.tail.tail, s.2 ++ [⟨y, gByte s.1.tail % 5 - 1, false⟩] ++ [⟨14, 0, false⟩])
    have k := OkAt.skip (op := y) (v := gByte s.1.tail % 5 - 1) (s := s) (c' := (body (s.1.tail.tail, s.2 ++ [⟨y, gByte s.1.tail % 5 - 1, false⟩] ++ [⟨14, 0, false⟩])).1) (by unfold Plain; omega) b (by omega) (by omega)
    refine OkAt.mono (M := M + 2) (h := h) (L := L + 2) ?_ (by omega) (by omega) (by omega)
    show OkAt data _ _ _ s ((body (s.1.tail.tail, s.2 ++ [⟨opsList12[(gByte s.1 % 2).toNat]?.getD 12, gByte s.1.tail % 5 - 1, false⟩] ++ [⟨14, 0, false⟩])).1,
      (body (s.1.tail.tail, s.2 ++ [⟨opsList12[(gByte s.1 % 2).toNat]?.getD 12, gByte s.1.tail % 5 - 1, false⟩] ++ [⟨14, 0, false⟩])).2.set (s.2 ++ [(⟨opsList12[(gByte s.1 % 2).toNat]?.getD 12, gByte s.1.tail % 5 - 1, false⟩ : RI)]).length
        ⟨14, ((body (s.1.tail.tail, s.2 ++ [⟨opsList12[(gByte s.1 % 2).toNat]?.getD 12, gByte s.1.tail % 5 - 1, false⟩] ++ [⟨14, 0, false⟩])).2.length : Int), true⟩)
    rw [h1, len1]
    exact k
  all_goals
    have b := hb (s.1.tail, s.2 ++ [⟨15, gByte s.1 % 4, false⟩] ++ [⟨12, 0, false⟩] ++ [⟨14, 0, false⟩] ++ [⟨19, 0, false⟩])
    have k := OkAt.loop (s := s) (v := gByte s.1 % 4) (c' := (body (s.1.tail, s.2 ++ [⟨15, gByte s.1 % 4, false⟩] ++ [⟨12, 0, false⟩] ++ [⟨14, 0, false⟩] ++ [⟨19, 0, false⟩])).1) (by omega) (by omega) b (by omega) (by omega)
    show OkAt data _ _ _ s ((body (s.1.tail, s.2 ++ [⟨15, gByte s.1 % 4, false⟩] ++ [⟨12, 0, false⟩] ++ [⟨14, 0, false⟩] ++ [⟨19, 0, false⟩])).1,
      (body (s.1.tail, s.2 ++ [⟨15, gByte s.1 % 4, false⟩] ++ [⟨12, 0, false⟩] ++ [⟨14, 0, false⟩] ++ [⟨19, 0, false⟩])).2.set ((s.2 ++ [(⟨15, gByte s.1 % 4, false⟩ : RI)]).length + 1)
        ⟨14, ((body (s.1.tail, s.2 ++ [⟨15, gByte s.1 % 4, false⟩] ++ [⟨12, 0, false⟩] ++ [⟨14, 0, false⟩] ++ [⟨19, 0, false⟩])).2.length : Int) + 3, true⟩ ++ [⟨20, 0, false⟩] ++ [⟨16, -1, false⟩] ++ [⟨11, ((s.2 ++ [(⟨15, gByte s.1 % 4, false⟩ : RI)]).length : Int), true⟩])
    rw [len1]
    exact k

theorem gMap_range {leaf : Bool} {c : Int} (h0 : 0 ≤ c) (h1 : c < 16) : 0 ≤ gMap leaf c ∧ gMap leaf c ≤ 15 := by
  unfold gMap
  split <;> omega

theorem gMap_leaf {c : Int} (h0 : 0 ≤ c) (h1 : c < 16) : (0 ≤ gMap true c ∧ gMap true c ≤ 5) ∨ gMap true c = 10 ∨ gMap true c = 11 ∨ gMap true c = 15 := by
  unfold gMap
  split
  · left; omega
  · rename_i h
    have : ¬ (6 ≤ c ∧ c ≠ 10 ∧ c ≠ 11) := fun e => h ⟨rfl, e⟩
    omega

theorem ok_leaf (body : GS → GS) : OkS data 2 0 2 (gStm body true) := fun s hs =>
  OkAt.from (ok_flat body 0 (gMap_leaf (by omega) (by omega)) (s := (s.1.tail, s.2)) (by show s.2.length ≤ _; omega))
theorem ok_node {M h L : Nat} {body : GS → GS} (hb : Ok data M h L body) (hL : L ≤ 80) : OkS data (3 * (M + 7) + 3) (h + 1) (L + 7) (gStm body false) := fun s hs =>
  OkAt.from (ok_case hb hL (gMap_range (leaf := false) (c := gByte s.1 % 16) (by omega) (by omega)).1 (gMap_range (by omega) (by omega)).2 (s := (s.1.tail, s.2)) hs)

/-- The bodies, by how deep they stand. -/
def body3 : GS → GS := gBody (gStm id true)
def body2 : GS → GS := gBody (gStm body3 false)
def body1 : GS → GS := gBody (gStm body2 false)

theorem ok_body3 : Ok data 8 0 8 body3 := ok_bodyOf (ok_leaf id) (by omega)
theorem ok_body2 : Ok data 192 1 60 body2 := ok_bodyOf (ok_node ok_body3 (by omega)) (by omega)
theorem ok_body1 : Ok data 2400 2 268 body1 := ok_bodyOf (ok_node ok_body2 (by omega)) (by omega)

end Go.Proofs.YtkhicabfmkldpaaDoor

namespace Go.Proofs.YtkhicabfmkldpaaDoor
open Go.RowKit

variable {data : List Int}

theorem Goes.shift {H H' : List (Int × Int) → Nat → Prop} {d m h x y : Nat} {t : Int} {r : Regs} {nul : Bool} {c : Core} {o : Out} (g : Goes data H m h x y t r nul c o) (hH : ∀ ins p, H' ins p → H ins (p + d) ∧ p + d ≤ 1000) :
    Goes data H' m h (d + x) (d + y) t r nul c o := by
  cases o with
  | on j s r' nul' c' =>
    obtain ⟨h1, h2, h3, h4, h5⟩ := g
    refine ⟨h1, h2, h3, h4, fun ins p s k a b e f i l => ?_⟩
    have := h5 ins (p + d) s k (hH _ _ a).1 (hH _ _ a).2 (by rw [Nat.add_assoc]; exact e) f i l
    rw [Nat.add_assoc] at this
    exact this
  | err c' => exact fun ins p s k a b e f i l => g ins (p + d) s k (hH _ _ a).1 (hH _ _ a).2 (by rw [Nat.add_assoc]; exact e) f i l

/-- Whether it goes on, and what matters of the state behind it. -/
def Out.fin : Out → Bool × Core
  | .on _ _ _ _ c => (true, c)
  | .err c => (false, c)

theorem Out.fin_add (o : Out) (j g : Nat) : (o.add j g).fin = o.fin := by cases o <;> rfl
theorem Out.fin_back (o : Out) (r : Regs) (nul : Bool) : (o.back r nul).fin = o.fin := by cases o <;> rfl

/-- The two programs. -/
def progA (n : Nat) (ys : List RI) : List (Int × Int) := loopIns [(15, (n : Int))] (ys.map (reloc 4))
def preB (n : Nat) : List (Int × Int) := List.replicate n (8, (n : Int) + 1) ++ [(10, 0)]
def progB (n : Nat) (ys : List RI) : List (Int × Int) := abs (preB n) ys ++ [(9, 0)]

theorem preB_length (n : Nat) : (preB n).length = n + 1 := by simp [preB]
theorem progA_length (n : Nat) (ys : List RI) : (progA n ys).length = ys.length + 7 := by simp [progA, loopIns]
theorem progB_length (n : Nat) (ys : List RI) : (progB n ys).length = n + 2 + ys.length := by simp [progB, abs_length, preB_length]; omega

theorem progA_has (n : Nat) (ys : List RI) : Has (progA n ys) 4 0 ys := fun i r hr => by
  have hi := (List.getElem?_eq_some_iff.1 hr).1
  have e : progA n ys = [(15, (n : Int)), (12, 0), (14, (([(15, (n : Int))] : List (Int × Int)).length : Int) + (ys.map (reloc 4)).length + 6), (19, 0)] ++ (ys.map (reloc 4) ++ [(20, 0), (16, -1), (11, (([(15, (n : Int))] : List (Int × Int)).length : Int))]) := by
    simp [progA, loopIns]
  rw [e, List.getElem?_append_right (by simp), List.getElem?_append_left (by simp; omega)]
  simp [hr]
theorem progA_loop (n : Nat) (ys : List RI) : LoopAt (fun ins p => ins = progA n ys ∧ p = 0) 1 (4 + ys.length) := by
  have e : progA n ys = [(15, (n : Int)), (12, 0), (14, (ys.length : Int) + 7), (19, 0)] ++ (ys.map (reloc 4) ++ [(20, 0), (16, -1), (11, 1)]) := by
    simp [progA, loopIns]; omega
  have tl : ∀ k, (progA n ys)[4 + ys.length + k]? = ([(20, 0), (16, -1), (11, 1)] : List (Int × Int))[k]? := fun k => by
    rw [e, List.getElem?_append_right (by simp; omega), List.getElem?_append_right (by simp; omega)]
    congr 1
    simp; omega
  refine ⟨?_, ?_, ?_, ?_, ?_, ?_⟩ <;> rintro ins p ⟨rfl, rfl⟩
  · rw [e]; rfl
  · rw [e]; show some ((14 : Int), (ys.length : Int) + 7) = _; congr 2; omega
  · rw [e]; rfl
  · rw [show 0 + (4 + ys.length) = 4 + ys.length + 0 by omega, tl 0]; rfl
  · rw [show 0 + (4 + ys.length + 1) = 4 + ys.length + 1 by omega, tl 1]; rfl
  · rw [show 0 + (4 + ys.length + 2) = 4 + ys.length + 2 by omega, tl 2]; rfl

theorem progB_has (n : Nat) (ys : List RI) : Has (progB n ys) (n + 1) 0 ys := fun i r hr => by
  have hi := (List.getElem?_eq_some_iff.1 hr).1
  unfold progB abs
  rw [List.append_assoc, List.getElem?_append_right (by rw [preB_length]; omega), List.getElem?_append_left (by rw [preB_length]; simp; omega), preB_length]
  rw [show n + 1 + (0 + i) - (n + 1) = i by omega]
  simp [hr]
theorem progB_call (n : Nat) (ys : List RI) {i : Nat} (hi : i < n) : (progB n ys)[i]? = some (8, (n : Int) + 1) := by
  unfold progB abs
  rw [List.append_assoc, List.getElem?_append_left (by rw [preB_length]; omega)]
  unfold preB
  rw [List.getElem?_append_left (by simpa using hi), List.getElem?_replicate, if_pos hi]
theorem progB_halt (n : Nat) (ys : List RI) : (progB n ys)[n]? = some (10, 0) := by
  unfold progB abs
  rw [List.append_assoc, List.getElem?_append_left (by rw [preB_length]; omega)]
  unfold preB
  rw [List.getElem?_append_right (by simp)]
  simp
theorem progB_ret (n : Nat) (ys : List RI) : (progB n ys)[n + 1 + ys.length]? = some (9, 0) := by
  unfold progB
  rw [List.getElem?_append_right (by rw [abs_length, preB_length]; omega), abs_length, preB_length]
  simp

/-- So many rounds of the loop, and so many calls, come to the same. -/
theorem chain {ys : List RI} {M : Nat} (g : Good data (fun ins p => Has ins p 0 ys) M 2 0 ys.length) (hl : ys.length ≤ 900) {n : Nat} (hn : n ≤ 5) : ∀ (v : Nat), v ≤ n → ∀ c : Core, ∃ e : Bool × Core,
    (∀ (r : Regs) (nul : Bool), r.l = (v : Int) → ∃ o : Out, o.fin = e ∧ Goes data (fun ins p => ins = progA n ys ∧ p = 0) (2 + v * (M + 7)) 3 1 (4 + ys.length + 3) 0 r nul c o) ∧
    (∀ (r : Regs) (nul : Bool), ∃ o : Out, o.fin = e ∧ Goes data (fun ins p => ins = progB n ys ∧ p = 0) (v * (M + 3)) 3 (n - v) n 0 r nul c o)
  | 0, _, c => by
    have L := progA_loop n ys
    refine ⟨(true, c), fun r nul hr => ?_, fun r nul => ⟨.on 0 0 r nul c, rfl, ?_⟩⟩
    · have a1 := loop_equal (data := data) (h := 3) L.eq 0 r nul c
      have a2 := Goes.cond (data := data) (h := 3) (t := 0) (r := { r with c := r.l == 0 }) (nul := nul) (c := c) L.cj (by omega) (by simp [hr])
      exact ⟨_, rfl, (a1.trans a2).mono (by omega) (Nat.le_refl _) (fun _ _ h => h)⟩
    · rw [Nat.zero_mul]
      refine ⟨by omega, by omega, by omega, by omega, fun ins p s k _ _ hp hc _ _ => ?_⟩
      obtain ⟨pc, pos, notes, fields, steps, depth⟩ := s
      subst hc
      dsimp only at hp
      subst hp
      rfl
  | v + 1, hv, c => by
    have L := progA_loop n ys
    obtain ⟨ob, hob⟩ := g 0 Regs.zero false c
    have obA : Goes data (fun ins p => ins = progA n ys ∧ p = 0) M 2 (1 + 2 + 1) (4 + ys.length) 0 Regs.zero false c ob := hob.shift (d := 4) (fun ins p h => by rw [h.1, h.2]; exact ⟨progA_has n ys, by omega⟩)
    have obB : Goes data (fun ins p => ins = progB n ys ∧ p = 0) M 2 (n + 1) (n + 1 + ys.length) 0 Regs.zero false c ob := hob.shift (d := n + 1) (fun ins p h => by rw [h.1, h.2, Nat.zero_add]; exact ⟨progB_has n ys, by omega⟩)
    have hcallB : ∀ ins p, (ins = progB n ys ∧ p = 0) → ins[p + (n - (v + 1))]? = some (8, ((n + 1 : Nat) : Int) + p) := by
      rintro ins p ⟨rfl, rfl⟩
      rw [Nat.zero_add, progB_call n ys (by omega)]
      congr 2
    have hretB : ∀ ins p, (ins = progB n ys ∧ p = 0) → ins[p + (n + 1 + ys.length)]? = some (9, 0) := by
      rintro ins p ⟨rfl, rfl⟩
      rw [Nat.zero_add, progB_ret n ys]
    have mA : 2 + (v + 1) * (M + 7) = 2 + v * (M + 7) + (M + 7) := by rw [Nat.add_mul]; omega
    have mB : (v + 1) * (M + 3) = v * (M + 3) + (M + 3) := by rw [Nat.add_mul]; omega
    have headA : ∀ (r : Regs) (nul : Bool), r.l = ((v + 1 : Nat) : Int) → Goes data (fun ins p => ins = progA n ys ∧ p = 0) (1 + 1) 3 1 (1 + 2) 0 r nul c (.on 2 2 { r with c := r.l == 0 } nul c) := fun r nul hr => by
      have a1 := loop_equal (data := data) (h := 3) L.eq 0 r nul c
      have a2 := Goes.condNot (data := data) (h := 3) (t := 0) (r := { r with c := r.l == 0 }) (nul := nul) (c := c) L.cj (by omega) (by
        simp only [hr, beq_eq_false_iff_ne]; omega)
      exact a1.trans a2
    cases ob with
    | err c' =>
      refine ⟨(false, c'), fun r nul hr => ⟨.err c', rfl, ?_⟩, fun r nul => ⟨.err c', rfl, ?_⟩⟩
      · have a3 := Goes.push L.push L.pop obA { r with c := r.l == 0 } nul
        have a13 : Goes data (fun ins p => ins = progA n ys ∧ p = 0) (1 + 1 + (M + 3)) 3 1 (4 + ys.length + 1) 0 r nul c (.err c') := (headA r nul hr).trans a3
        exact a13.stop (by omega)
      · have b1 : Goes data (fun ins p => ins = progB n ys ∧ p = 0) (M + 3) 3 (n - (v + 1)) (n - (v + 1) + 1) 0 r nul c (.err c') := Goes.call (by omega) hcallB hretB obB r nul
        exact b1.stop (by omega)
    | on j s r1 nul1 c' =>
      obtain ⟨e, hA, hB⟩ := chain g hl hn v (by omega) c'
      refine ⟨e, fun r nul hr => ?_, fun r nul => ?_⟩
      · have a3 := Goes.push L.push L.pop obA { r with c := r.l == 0 } nul
        have a4 : Goes data (fun ins p => ins = progA n ys ∧ p = 0) 1 3 (4 + ys.length + 1) (4 + ys.length + 1 + 1) 0 { r with c := r.l == 0 } nul c' (.on 1 1 { r with c := r.l == 0, l := (v : Int) } nul c') :=
          Goes.one L.add (by omega) (by omega) (by omega) (by omega) (by omega) (fun s e _ => by
            subst e
            show some (Nxt.go { r with c := r.l == 0, l := wrap64 (r.l + -1) } nul s) = _
            rw [show wrap64 (r.l + -1) = (v : Int) by rw [hr, show ((v + 1 : Nat) : Int) + -1 = (v : Int) by omega]; exact Go.IntWalk.wrap64_in _ (by omega)]
            rfl) (by omega) (by omega)
        have a5 := Goes.jump (data := data) (h := 3) (t := 0) (r := { r with c := r.l == 0, l := (v : Int) }) (nul := nul) (c := c') L.jmp (by omega)
        obtain ⟨o, ho, a6⟩ := hA { r with c := r.l == 0, l := (v : Int) } nul rfl
        have := ((((headA r nul hr).trans a3).trans a4).trans a5).trans a6
        refine ⟨_, ?_, this.mono (by omega) (Nat.le_refl _) (fun _ _ h => h)⟩
        rw [Out.fin_add]; exact ho
      · have b1 : Goes data (fun ins p => ins = progB n ys ∧ p = 0) (M + 3) 3 (n - (v + 1)) (n - (v + 1) + 1) 0 r nul c (.on 1 (s + 2) r nul c') := Goes.call (by omega) hcallB hretB obB r nul
        rw [show n - (v + 1) + 1 = n - v by omega] at b1
        obtain ⟨o, ho, b2⟩ := hB r nul
        refine ⟨_, ?_, (b1.trans b2).mono (by omega) (Nat.le_refl _) (fun _ _ h => h)⟩
        rw [Out.fin_add]; exact ho
  termination_by v => v

/-- Two runs end alike. -/
def SameRes : Res → Res → Prop
  | .ok _ s, .ok _ s' => s.notes = s'.notes ∧ s.pos = s'.pos
  | .err s, .err s' => s.notes = s'.notes
  | _, _ => False

theorem two_programs {ys : List RI} {M : Nat} (g : Good data (fun ins p => Has ins p 0 ys) M 2 0 ys.length) (hl : ys.length ≤ 900) (hM : M ≤ 3000) {n : Nat} (hn : n ≤ 5) :
    ∃ ra rb, evalL data (progA n ys) 100000 0 Regs.zero false ⟨0, 0, [], 0, 0, 1⟩ = some ra ∧ evalL data (progB n ys) 100000 0 Regs.zero false ⟨0, 0, [], 0, 0, 1⟩ = some rb ∧ SameRes ra rb := by
  obtain ⟨e, hA, hB⟩ := chain g hl hn n (Nat.le_refl _) ⟨0, [], 0⟩
  have hm1 : n * (M + 7) ≤ 5 * 3007 := Nat.mul_le_mul hn (by omega)
  have hm2 : n * (M + 3) ≤ 5 * 3003 := Nat.mul_le_mul hn (by omega)
  obtain ⟨oA, eA, gA⟩ := hA { Regs.zero with l := (n : Int) } false rfl
  obtain ⟨oB, eB, gB⟩ := hB Regs.zero false
  -- the first instruction of A
  have a0 : evalL data (progA n ys) (99999 + 1) 0 Regs.zero false ⟨0, 0, [], 0, 0, 1⟩ = evalL data (progA n ys) 99999 0 { Regs.zero with l := (n : Int) } false ⟨1, 0, [], 0, 1, 1⟩ := by
    rw [evalL_plain (op := 15) (x := (n : Int)) (by show (0 : Int) ≤ 0; omega) (by rfl) (by show 0 < _; omega) (by omega) (by omega) (by omega) (by omega) (by omega)]
    rfl
  have fitA : Fit (2 + n * (M + 7)) 3 ⟨1, 0, [], 0, 1, 1⟩ := ⟨by dsimp only; omega, by dsimp only [List.length_nil]; omega, by dsimp only; omega, by dsimp only; omega⟩
  have fitB : Fit (n * (M + 3)) 3 ⟨0, 0, [], 0, 0, 1⟩ := ⟨by dsimp only; omega, by dsimp only [List.length_nil]; omega, by dsimp only; omega, by dsimp only; omega⟩
  rw [show (100000 : Nat) = 99999 + 1 from rfl, a0, ← show (100000 : Nat) = 99999 + 1 from rfl]
  rw [Nat.sub_self] at gB
  cases oA with
  | err cA =>
    cases oB with
    | on _ _ _ _ _ => rw [← eA] at eB; cases eB
    | err cB =>
      have ec : cA = cB := by rw [← eB] at eA; exact (Prod.mk.inj eA).2
      subst ec
      obtain ⟨sA, h1, h2⟩ := gA (progA n ys) 0 ⟨1, 0, [], 0, 1, 1⟩ 99999 ⟨rfl, rfl⟩ (by omega) rfl rfl fitA (by omega)
      obtain ⟨sB, h3, h4⟩ := gB (progB n ys) 0 ⟨0, 0, [], 0, 0, 1⟩ 100000 ⟨rfl, rfl⟩ (by omega) rfl rfl fitB (by omega)
      refine ⟨_, _, h2, h4, ?_⟩
      show sA.notes = sB.notes
      have e1 : sA.core.notes = sB.core.notes := by rw [h1, h3]
      exact e1
  | on jA sA rA nA cA =>
    cases oB with
    | err _ => rw [← eA] at eB; cases eB
    | on jB sB rB nB cB =>
      have ec : cA = cB := by rw [← eB] at eA; exact (Prod.mk.inj eA).2
      subst ec
      obtain ⟨p1, p2, p3, p4, p5⟩ := gA
      obtain ⟨q1, q2, q3, q4, q5⟩ := gB
      have h2 := p5 (progA n ys) 0 ⟨1, 0, [], 0, 1, 1⟩ 99999 ⟨rfl, rfl⟩ (by omega) rfl rfl fitA (by omega)
      have h4 := q5 (progB n ys) 0 ⟨0, 0, [], 0, 0, 1⟩ 100000 ⟨rfl, rfl⟩ (by omega) rfl rfl fitB (by omega)
      obtain ⟨kA, hkA⟩ : ∃ k, 99999 - jA = k + 1 := ⟨99999 - jA - 1, by omega⟩
      obtain ⟨kB, hkB⟩ : ∃ k, 100000 - jB = k + 1 := ⟨100000 - jB - 1, by omega⟩
      have endA : ∀ s : St, s.pc = ((0 + (4 + ys.length + 3) : Nat) : Int) → evalL data (progA n ys) (kA + 1) 0 rA nA s = some (.ok false s) := fun s hs => by
        rw [evalL, if_neg (by omega)]
        rw [show (progA n ys)[s.pc.toNat]? = none by rw [List.getElem?_eq_none_iff, progA_length]; omega]
      have endB : ∀ s : St, s.pc = ((0 + n : Nat) : Int) → s.steps < 1048576 → evalL data (progB n ys) (kB + 1) 0 rB nB s = some (.ok false { s with steps := s.steps + 1 }) := fun s hs hst => by
        rw [evalL_plain (op := 10) (x := 0) (by omega) (by rw [hs, Nat.zero_add]; exact progB_halt n ys) hst (by omega) (by omega) (by omega) (by omega) (by omega)]
        rfl
      rw [hkA, endA _ rfl] at h2
      rw [hkB, endB _ rfl (by simp only [St.put]; omega)] at h4
      exact ⟨_, _, h2, h4, rfl, rfl⟩

end Go.Proofs.YtkhicabfmkldpaaDoor
