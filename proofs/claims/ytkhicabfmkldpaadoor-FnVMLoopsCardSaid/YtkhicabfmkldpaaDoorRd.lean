/- The reader's methods and the machine's readers: each does what a plain function of the data says. -/
import Derived.Test.YtkhicabfmkldpaaDoorBase
import Derived.Deep.LoopGhost
import Derived.LaidEql
import Derived.Deep.OwnRows
namespace Go.Proofs.YtkhicabfmkldpaaDoor
open Go.RowKit

theorem Inv.c0 {R : Rig} {s : St} {w : World} (h : Inv R s w) : w.cell? ⟨R.rb, 0, none⟩ = some (.slice R.da R.data.length R.dcap) := by rw [cell_of_row _ _ _ _ _ _ h.reader]; rfl
theorem Inv.c1 {R : Rig} {s : St} {w : World} (h : Inv R s w) : w.cell? ⟨R.rb, 1, none⟩ = some (.int .i64 (s.pos : Int)) := by rw [cell_of_row _ _ _ _ _ _ h.reader]; rfl
theorem Inv.fz {R : Rig} {s : St} {w : World} (h : Inv R s w) (i : Nat) : w.frozen? ⟨R.rb, i, none⟩ = false := frozen_of_row _ _ _ _ _ h.reader

/-- A word for what a call of the reader's ends in. -/
def RdPost (R : Rig) (s' : St) (v : Value) (w : World) (e : Ending) (w' : World) : Prop := e = .returned v ∧ Inv R s' w' ∧ Keeps R w w'

theorem setCell_drewN (w : World) (n : Nat) (a : Addr) (v : Value) : (w.drewN n).setCell a v = (w.setCell a v).drewN n := rfl

set_option maxHeartbeats 400000 in
theorem readByte_hit {R : Rig} {s : St} {w : World} (hR : R.Ok) (h : Inv R s w) (c : Int) (hc : R.data[s.pos]? = some c) :
    Calls Tryd.prog 69 #[.pointer (some ⟨R.rb, 0, none⟩)] w (RdPost R { s with pos := s.pos + 1 } (.tuple #[.int .u8 c, .nilIface]) w) := by
  have hlt : s.pos < R.data.length := (List.getElem?_eq_some_iff.1 hc).1
  have hfew := hR.few
  have h0 := h.c0
  have h1 := h.c1
  have hf := h.fz 1
  obtain ⟨b, o, hda, hb, hd, _, _⟩ := h.data _ _ hc
  rw [hda] at h0
  have hne : ¬ b = R.rb := by have := hR.r; omega
  have Hp := Go.Lib.hid (h.setPos hR (s.pos + 1) hlt)
  have Hk := Go.Lib.hid ((Keeps.refl R w).setCell (p := ⟨R.rb, 1, none⟩) hR.r (.inl (.inl rfl)) (.int .i64 ((s.pos + 1 : Nat) : Int)))
  clear h hda hc hR
  go_enter Tryd.func69, Tryd.ntmps69
  go_wp2
  go_quiet (fail)
  go_wp2
  go_quiet (fail)
  go_wp2
  go_ret2
  exact ⟨rfl, by exact (Hp.out.drewN _).drewN _, by exact (Hk.out.drewN _).drewN _⟩

set_option maxHeartbeats 400000 in
theorem readByte_end {R : Rig} {s : St} {w : World} (h : Inv R s w) (hc : R.data.length ≤ s.pos) :
    Calls Tryd.prog 69 #[.pointer (some ⟨R.rb, 0, none⟩)] w (RdPost R s (.tuple #[.int .u8 0, .iface 147 (.pointer (some R.e0))]) w) := by
  have h0 := h.c0
  have h1 := h.c1
  have he := h.eof
  have hp := h.pos
  have Hp := Go.Lib.hid h
  clear h
  go_enter Tryd.func69, Tryd.ntmps69
  go_wp2
  go_quiet (fail)
  go_wp2
  go_quiet (fail)
  go_wp2
  go_ret2
  exact ⟨rfl, (Hp.out.drewN _).drewN _, ((Keeps.refl _ _).drewN _).drewN _⟩

set_option maxHeartbeats 400000 in
theorem left_any {R : Rig} {s : St} {w : World} (h : Inv R s w) (hfew : R.data.length ≤ 1000) :
    Calls Tryd.prog 18 #[.pointer (some ⟨R.rb, 0, none⟩)] w (RdPost R s (.int .i64 ((R.data.length : Int) - s.pos)) w) := by
  have h0 := h.c0
  have h1 := h.c1
  have hp := h.pos
  have Hp := Go.Lib.hid h
  clear h
  go_enter Tryd.func18, Tryd.ntmps18
  go_wp2
  go_quiet (fail)
  go_wp2
  go_ret
  exact ⟨rfl, Hp.out.drewN _, (Keeps.refl _ _).drewN _⟩

def bytesV (l : List Int) : List Value := l.map (Value.int .u8)

theorem bytesV_one (l : List Int) : ∀ v ∈ bytesV l, v.oneCell' = true := by
  intro v hv
  obtain ⟨c, _, rfl⟩ := List.mem_map.1 hv
  rfl

/-- What 'Read' ends in: so many bytes at the head of the slice. -/
def ReadPost (R : Rig) (s' : St) (v : Value) (g : Nat) (cur' : List Value) (w : World) (e : Ending) (w' : World) : Prop :=
  e = .returned v ∧ Inv R s' w' ∧ KeepsG R g w w' ∧ w'.heap[g]? = some (.cells cur'.toArray 5 (0, 0))

set_option maxRecDepth 100000 in
set_option maxHeartbeats 400000 in
theorem read_hit {R : Rig} {s : St} {w : World} (hR : R.Ok) (h : Inv R s w) (hlt : s.pos < R.data.length) (g off m mc : Nat) (cur : List Value) (hg : w.heap[g]? = some (.cells cur.toArray 5 (0, 0)))
    (hgb : R.base ≤ g) (hfit : off + m ≤ cur.length) (hgr : g ≠ R.rb) (k : Nat) (hk : k = min m (R.data.length - s.pos)) :
    Calls Tryd.prog 68 #[.pointer (some ⟨R.rb, 0, none⟩), .slice (some ⟨g, off, none⟩) m mc] w
      (ReadPost R { s with pos := s.pos + k } (.tuple #[.int .i64 (k : Int), .nilIface]) g (splice cur off (bytesV ((R.data.drop s.pos).take k))) w) := by
  have hfew := hR.few
  have hdc := hR.dc
  have h0 := h.c0
  have h1 := h.c1
  have hf := h.fz 1
  obtain ⟨b, o, hda, hb, hd, _, _⟩ := h.data _ _ (List.getElem?_eq_getElem hlt)
  rw [hda] at h0
  have Hall := Go.Lib.hid h.data
  have Hp := Go.Lib.hid h
  have Hk := Go.Lib.hid hk
  have Hcn : Hid ((bytesV ((R.data.drop s.pos).take k)).length = k) := by
    show _ = _
    simp only [bytesV, List.length_map, List.length_take, List.length_drop]; omega
  have Hn : Hid (k = Nat.min (R.data.length - s.pos) m) := by
    show _ = _
    rw [hk]; exact Nat.min_comm _ _
  have Hfit : Hid (off + (bytesV ((R.data.drop s.pos).take k)).length ≤ cur.length) := by
    show _ ≤ _
    rw [Hcn.out]; omega
  have Hsrc : Hid (∀ j v, (bytesV ((R.data.drop s.pos).take k))[j]? = some v → w.cell? ((⟨b, o + s.pos, none⟩ : Addr).add j) = some v) := by
    intro j v hj
    rw [bytesV, List.getElem?_map] at hj
    obtain ⟨c, hc, rfl⟩ := Option.map_eq_some_iff.1 hj
    have hc' : R.data[s.pos + j]? = some c := by
      rw [List.getElem?_take] at hc
      split at hc
      · simpa using hc
      · cases hc
    obtain ⟨b', o', e, _, h3, _⟩ := Hall.out _ _ hc'
    rw [hda] at e
    cases e
    rw [Addr.add_lit, Nat.add_assoc]; exact h3
  have hle : s.pos ≤ R.data.length := by omega
  have hq : ¬ R.dcap = s.pos := by omega
  have hkle : k ≤ 1000 := by omega
  clear h hd hk hda
  go_enter Tryd.func68, Tryd.ntmps68
  go_wp2
  go_quiet (fail)
  go_wp2
  go_region_law ((refine step_copy_swap rfl (.tmp 18) (.tmp 27) 22 22 rfl 5 Tryd.underlying22 (by kernel_rfl) g off m mc ⟨b, o + s.pos, none⟩ (R.data.length - s.pos) (R.dcap - s.pos) (by simp [Act.eval, Act.put]) (by simp [Act.eval, Act.put]) cur 5 (by exact hg) (bytesV ((R.data.drop s.pos).take k)) k Hcn.out Hn.out Hsrc.out Hfit.out (bytesV_one _) ?_; intro w4 hg4 hs4))
  all_goals
    have r4 : w4.heap[R.rb]? = some (.cells #[.slice R.da R.data.length R.dcap, .int .i64 (s.pos : Int)] 62 (0, 0)) := by rw [hs4.other _ (Ne.symm hgr)]; exact Hp.out.reader
    have c4 : w4.cell? ⟨R.rb, 1, none⟩ = some (.int .i64 (s.pos : Int)) := by rw [cell_of_row _ _ _ _ _ _ r4]; rfl
    have f4 : w4.frozen? ⟨R.rb, 1, none⟩ = false := frozen_of_row _ _ _ _ _ r4
    go_wp2
    go_ret2
    have hg5 : (w.drewN (nq + 1)).heap[g]? = some (.cells cur.toArray 5 (0, 0)) := hg
    have i4 := (Hp.out.drewN (nq + 1)).swap hR hs4 hgb hg5 hg4.out (by simp [splice]; have := Hfit.out; omega)
    have i5 := i4.setPos hR (s.pos + k) (by have := Hk.out; omega)
    have k5 : KeepsG R g w (w4.setCell ⟨R.rb, 1, none⟩ (.int .i64 ((s.pos + k : Nat) : Int))) :=
      ((Keeps.refl R w).drewN (nq + 1)).toG.trans ((KeepsG.of_swap hs4 hgb).trans ((Keeps.refl R w4).setCell (p := ⟨R.rb, 1, none⟩) hR.r (.inl (.inl rfl)) _).toG)
    exact ⟨rfl, i5, k5, by rw [Below.heap_setCell _ _ _ _ hgr]; exact hg4.out⟩

set_option maxHeartbeats 400000 in
theorem read_end {R : Rig} {s : St} {w : World} (h : Inv R s w) (hc : R.data.length ≤ s.pos) (p : Value) :
    Calls Tryd.prog 68 #[.pointer (some ⟨R.rb, 0, none⟩), p] w (RdPost R s (.tuple #[.int .i64 0, .iface 147 (.pointer (some R.e0))]) w) := by
  have h0 := h.c0
  have h1 := h.c1
  have he := h.eof
  have hp := h.pos
  have Hp := Go.Lib.hid h
  clear h
  go_enter Tryd.func68, Tryd.ntmps68
  go_wp2
  go_quiet (fail)
  go_wp2
  go_quiet (fail)
  go_wp2
  go_ret2
  exact ⟨rfl, (Hp.out.drewN _).drewN _, ((Keeps.refl _ _).drewN _).drewN _⟩
end Go.Proofs.YtkhicabfmkldpaaDoor

namespace Go.Proofs.YtkhicabfmkldpaaDoor
open Go.RowKit

theorem ta_byteReader (a : Addr) (w : World) : (Instr.typeAssert (.iface 60 (.pointer (some a))) 77 129 true).run Tryd.prog w = .ok (.tuple #[.iface 60 (.pointer (some a)), .bool true]) w := by kernel_rfl
theorem me_readByte (a : Addr) (w : World) : (method 268 60 (.pointer (some a)) "ReadByte").run Tryd.prog w = .ok (69, .pointer (some a)) w := by kernel_rfl

/-- An error that the machine can hand on. -/
def IsErr (R : Rig) (w : World) (v : Value) : Prop :=
  v = .iface 147 (.pointer (some R.e0)) ∨ v = .iface 147 (.pointer (some R.e1)) ∨
    ∃ b s, v = .iface 96 (.pointer (some ⟨b, 0, none⟩)) ∧ R.base ≤ b ∧ ¬ R.own b ∧ w.heap[b]? = some (.cells #[.string s] 98 (0, 0))

theorem IsErr.keep {R : Rig} {w w' : World} {v : Value} (h : IsErr R w v) (hk : Keeps R w w') : IsErr R w' v := by
  rcases h with h | h | ⟨b, s, e, h1, h2, h3⟩
  · exact .inl h
  · exact .inr (.inl h)
  · exact .inr (.inr ⟨b, s, e, h1, h2, hk.keep _ _ h3 h2 rfl⟩)

/-- The end of a read that failed. -/
def RdErr (R : Rig) (s : St) (z : Value) (w : World) (e : Ending) (w' : World) : Prop :=
  ∃ p ev, e = .returned (.tuple #[z, ev]) ∧ IsErr R w' ev ∧ Inv R { s with pos := p } w' ∧ Keeps R w w'

def vstep (v : Int) (sh : Nat) (c : Int) : Int := bits BinOp.or IntKind.u64 v (IntKind.u64.wrap (IntKind.u64.wrap (bits BinOp.and IntKind.u8 c 127) * 2 ^ min sh 64))
def vzig (v : Int) : Int := bits BinOp.xor IntKind.i64 (wrap64 (v / 2)) (wrap64 (-wrap64 (bits BinOp.and IntKind.u64 v 1)))
def vlast (c : Int) : Bool := bits BinOp.and IntKind.u8 c 128 == 0
/-- A number off bytes: what it comes to before the last step, and how many bytes it takes. -/
def vrd (f : Int → Nat → Int → Int) : List Int → Nat → Int → Option (Int × Nat)
  | [], _, _ => none
  | c :: r, sh, v => if vlast c then some (f v sh c, 1) else (vrd f r (sh + 7) (f v sh c)).map fun p => (p.1, p.2 + 1)
def rdLong (data : List Int) (pos : Nat) : Option (Int × Nat) := (vrd vstep (data.drop pos) 0 0).map fun p => (vzig p.1, pos + p.2)

def LongPost (R : Rig) (s : St) (w : World) (e : Ending) (w' : World) : Prop :=
  match rdLong R.data s.pos with
  | some (x, p) => RdPost R { s with pos := p } (.tuple #[.int .i64 x, .nilIface]) w e w'
  | none => RdErr R s (.int .i64 0) w e w'

/-- The head of the loop: so many bytes have been taken. -/
def VrdAt (R : Rig) (s : St) (f : Int → Nat → Int → Int) (k : Nat) (v : Int) (w wr : World) : Prop :=
  s.pos + k ≤ R.data.length ∧ Inv R { s with pos := s.pos + k } wr ∧ Keeps R w wr ∧
  vrd f (R.data.drop s.pos) 0 0 = (vrd f (R.data.drop (s.pos + k)) (7 * k) v).map fun p => (p.1, p.2 + k)

theorem VrdAt.start {R : Rig} {s : St} {w : World} (f : Int → Nat → Int → Int) (h : Inv R s w) : VrdAt R s f 0 0 w w :=
  ⟨h.pos, h, Keeps.refl _ _, by simp⟩

theorem VrdAt.step {R : Rig} {s : St} {f : Int → Nat → Int → Int} {k : Nat} {v : Int} {w wr w1 : World} (h : VrdAt R s f k v w wr) {c : Int} (hc : R.data[s.pos + k]? = some c) (hl : vlast c = false)
    (hi : Inv R { s with pos := s.pos + k + 1 } w1) (hk : Keeps R wr w1) : VrdAt R s f (k + 1) (f v (7 * k) c) w w1 := by
  obtain ⟨h1, h2, h3, h4⟩ := h
  have hlt : s.pos + k < R.data.length := (List.getElem?_eq_some_iff.1 hc).1
  refine ⟨by omega, hi, h3.trans hk, ?_⟩
  rw [h4, List.drop_eq_getElem_cons hlt, vrd]
  have : R.data[s.pos + k] = c := by simpa [hlt] using hc
  rw [this, hl, show 7 * (k + 1) = 7 * k + 7 by omega, show s.pos + (k + 1) = s.pos + k + 1 by omega]
  cases vrd f (R.data.drop (s.pos + k + 1)) (7 * k + 7) (f v (7 * k) c) with
  | none => rfl
  | some p => simp; omega

theorem VrdAt.last {R : Rig} {s : St} {f : Int → Nat → Int → Int} {k : Nat} {v : Int} {w wr : World} (h : VrdAt R s f k v w wr) {c : Int} (hc : R.data[s.pos + k]? = some c) (hl : vlast c = true) :
    vrd f (R.data.drop s.pos) 0 0 = some (f v (7 * k) c, k + 1) := by
  obtain ⟨h1, h2, h3, h4⟩ := h
  have hlt : s.pos + k < R.data.length := (List.getElem?_eq_some_iff.1 hc).1
  rw [h4, List.drop_eq_getElem_cons hlt, vrd]
  have : R.data[s.pos + k] = c := by simpa [hlt] using hc
  rw [this, hl]
  simp; omega

theorem VrdAt.none {R : Rig} {s : St} {f : Int → Nat → Int → Int} {k : Nat} {v : Int} {w wr : World} (h : VrdAt R s f k v w wr) (hc : R.data.length ≤ s.pos + k) :
    vrd f (R.data.drop s.pos) 0 0 = none := by
  obtain ⟨h1, h2, h3, h4⟩ := h
  rw [h4, List.drop_eq_nil_of_le hc]
  rfl

theorem RdPost.long {R : Rig} {s : St} {w w1 w' : World} {x v : Int} {k : Nat} {e : Ending} (h : vrd vstep (R.data.drop s.pos) 0 0 = some (v, k)) (he : e = .returned (.tuple #[.int .i64 x, .nilIface])) (hx : x = vzig v)
    (hi : Inv R { s with pos := s.pos + k } w') (hk : Keeps R w w1) (hk1 : Keeps R w1 w') : LongPost R s w e w' := by
  unfold LongPost rdLong
  rw [h]
  exact ⟨by rw [he, hx], hi, hk.trans hk1⟩

theorem RdErr.long {R : Rig} {s : St} {w w1 w' : World} {e : Ending} {ev : Value} {p : Nat} (h : vrd vstep (R.data.drop s.pos) 0 0 = none) (he : e = .returned (.tuple #[.int .i64 0, ev])) (hx : IsErr R w' ev)
    (hi : Inv R { s with pos := p } w') (hk : Keeps R w w1) (hk1 : Keeps R w1 w') : LongPost R s w e w' := by
  unfold LongPost rdLong
  rw [h]
  exact ⟨p, ev, he, hx, hi, hk.trans hk1⟩

set_option maxRecDepth 100000 in
set_option maxHeartbeats 800000 in
theorem readLong_any {R : Rig} {s : St} {w : World} (hR : R.Ok) (h : Inv R s w) (buf : Value) :
    Calls Tryd.prog 38 #[.iface 60 (.pointer (some ⟨R.rb, 0, none⟩)), buf] w (LongPost R s w) := by
  have hs := VrdAt.start vstep h
  have hfew := hR.few
  clear h
  have ta := ta_byteReader
  have me := me_readByte
  go_enter Tryd.func38, Tryd.ntmps38
  go_wp2
  go_loopg [6, 7, 8, 11] (R.data.length - s.pos + 1) (fun g v i j l wr => ∃ (k sh : Nat) (vv cc : Int), VrdAt R s vstep k vv w wr ∧ g + k = R.data.length - s.pos + 1 ∧ sh = 7 * k ∧ v = .int .u64 vv ∧ i = .int .u8 cc ∧ j = .nilIface ∧ l = .int .u64 (sh : Int))
  case atStart => exact ⟨0, 0, 0, 0, hs, by omega, rfl, rfl, rfl, rfl, rfl⟩
  case round =>
    obtain ⟨k, sh, vv, cc, hat, hg, hsh, rfl, rfl, rfl, rfl⟩ := hrel
    have Hsh := Go.Lib.hid hsh
    have Hat := Go.Lib.hid hat
    have Hg := Go.Lib.hid hg
    have hi := hat.2.1
    have hkk := hat.1
    have hsh2 : sh ≤ 10000 := by omega
    clear hat hg hsh
    cases hc : R.data[s.pos + k]? with
    | none =>
      have hge : R.data.length ≤ s.pos + k := by simpa using hc
      clear hc
      go_wp2_with (go_at_call 69; refine (readByte_end hi hge).mono ?_; rintro e w1 ⟨rfl, hi1, hk1⟩)
      go_ret2
      exact RdErr.long (Hat.out.none hge) rfl (.inl rfl) hi1 Hat.out.2.2.1 hk1
    | some c =>
      have hd := Inv.data hi _ _ hc
      have Hc := Go.Lib.hid hc
      clear hc
      cases hl : vlast c with
      | true =>
        have hz : (bits BinOp.and IntKind.u8 c 128 == 0) = true := hl
        have Hl := Go.Lib.hid hl
        clear hl
        go_wp2_with (go_at_call 69; refine (readByte_hit hR hi c Hc.out).mono ?_; rintro e w1 ⟨rfl, hi1, hk1⟩)
        go_ret2
        exact RdPost.long (Hat.out.last Hc.out Hl.out) rfl (by rw [← Hsh.out]; rfl) hi1 Hat.out.2.2.1 hk1
      | false =>
        have hz : (bits BinOp.and IntKind.u8 c 128 == 0) = false := hl
        have Hl := Go.Lib.hid hl
        clear hl
        go_wp2_with (go_at_call 69; refine (readByte_hit hR hi c Hc.out).mono ?_; rintro e w1 ⟨rfl, hi1, hk1⟩)
        go_roundg (gk - 1)
        case rel => exact ⟨k + 1, sh + 7, _, c, Hat.out.step Hc.out Hl.out hi1 hk1, by have := Hg.out; omega, by have := Hsh.out; omega, by rw [← Hsh.out]; rfl, rfl, rfl, by go_num⟩
        case measure => have := Hg.out; omega
end Go.Proofs.YtkhicabfmkldpaaDoor

namespace Go.Proofs.YtkhicabfmkldpaaDoor
open Go.RowKit

def istep (v : Int) (sh : Nat) (c : Int) : Int := bits BinOp.or IntKind.i64 v (wrap64 (wrap64 (bits BinOp.and IntKind.u8 c 127) * 2 ^ min sh 64))
def izig (v : Int) : Int := bits BinOp.xor IntKind.i32 (wrap32 (v / 2)) (wrap32 (-wrap32 (bits BinOp.and IntKind.i64 v 1)))
def rdInt (data : List Int) (pos : Nat) : Option (Int × Nat) := (vrd istep (data.drop pos) 0 0).map fun p => (izig p.1, pos + p.2)

def IntPost (R : Rig) (s : St) (w : World) (e : Ending) (w' : World) : Prop :=
  match rdInt R.data s.pos with
  | some (x, p) => RdPost R { s with pos := p } (.tuple #[.int .i32 x, .nilIface]) w e w'
  | none => RdErr R s (.int .i32 0) w e w'

theorem RdPost.int {R : Rig} {s : St} {w w1 w' : World} {x v : Int} {k : Nat} {e : Ending} (h : vrd istep (R.data.drop s.pos) 0 0 = some (v, k)) (he : e = .returned (.tuple #[.int .i32 x, .nilIface])) (hx : x = izig v)
    (hi : Inv R { s with pos := s.pos + k } w') (hk : Keeps R w w1) (hk1 : Keeps R w1 w') : IntPost R s w e w' := by
  unfold IntPost rdInt
  rw [h]
  exact ⟨by rw [he, hx], hi, hk.trans hk1⟩

theorem RdErr.int {R : Rig} {s : St} {w w1 w' : World} {e : Ending} {ev : Value} {p : Nat} (h : vrd istep (R.data.drop s.pos) 0 0 = none) (he : e = .returned (.tuple #[.int .i32 0, ev])) (hx : IsErr R w' ev)
    (hi : Inv R { s with pos := p } w') (hk : Keeps R w w1) (hk1 : Keeps R w1 w') : IntPost R s w e w' := by
  unfold IntPost rdInt
  rw [h]
  exact ⟨p, ev, he, hx, hi, hk.trans hk1⟩

set_option maxRecDepth 100000 in
set_option maxHeartbeats 800000 in
theorem readInt_any {R : Rig} {s : St} {w : World} (hR : R.Ok) (h : Inv R s w) (buf : Value) :
    Calls Tryd.prog 37 #[.iface 60 (.pointer (some ⟨R.rb, 0, none⟩)), buf] w (IntPost R s w) := by
  have hs := VrdAt.start istep h
  have hfew := hR.few
  clear h
  have ta := ta_byteReader
  have me := me_readByte
  go_enter Tryd.func37, Tryd.ntmps37
  go_wp2
  go_loopg [6, 7, 8, 11] (R.data.length - s.pos + 1) (fun g v i j l wr => ∃ (k sh : Nat) (vv cc : Int), VrdAt R s istep k vv w wr ∧ g + k = R.data.length - s.pos + 1 ∧ sh = 7 * k ∧ v = .int .i64 vv ∧ i = .int .u8 cc ∧ j = .nilIface ∧ l = .int .u64 (sh : Int))
  case atStart => exact ⟨0, 0, 0, 0, hs, by omega, rfl, rfl, rfl, rfl, rfl⟩
  case round =>
    obtain ⟨k, sh, vv, cc, hat, hg, hsh, rfl, rfl, rfl, rfl⟩ := hrel
    have Hsh := Go.Lib.hid hsh
    have Hat := Go.Lib.hid hat
    have Hg := Go.Lib.hid hg
    have hi := hat.2.1
    have hkk := hat.1
    have hsh2 : sh ≤ 10000 := by omega
    clear hat hg hsh
    cases hc : R.data[s.pos + k]? with
    | none =>
      have hge : R.data.length ≤ s.pos + k := by simpa using hc
      clear hc
      go_wp2_with (go_at_call 69; refine (readByte_end hi hge).mono ?_; rintro e w1 ⟨rfl, hi1, hk1⟩)
      go_ret2
      exact RdErr.int (Hat.out.none hge) rfl (.inl rfl) hi1 Hat.out.2.2.1 hk1
    | some c =>
      have hd := Inv.data hi _ _ hc
      have Hc := Go.Lib.hid hc
      clear hc
      cases hl : vlast c with
      | true =>
        have hz : (bits BinOp.and IntKind.u8 c 128 == 0) = true := hl
        have Hl := Go.Lib.hid hl
        clear hl
        go_wp2_with (go_at_call 69; refine (readByte_hit hR hi c Hc.out).mono ?_; rintro e w1 ⟨rfl, hi1, hk1⟩)
        go_ret2
        exact RdPost.int (Hat.out.last Hc.out Hl.out) rfl (by rw [← Hsh.out]; rfl) hi1 Hat.out.2.2.1 hk1
      | false =>
        have hz : (bits BinOp.and IntKind.u8 c 128 == 0) = false := hl
        have Hl := Go.Lib.hid hl
        clear hl
        go_wp2_with (go_at_call 69; refine (readByte_hit hR hi c Hc.out).mono ?_; rintro e w1 ⟨rfl, hi1, hk1⟩)
        go_roundg (gk - 1)
        case rel => exact ⟨k + 1, sh + 7, _, c, Hat.out.step Hc.out Hl.out hi1 hk1, by have := Hg.out; omega, by have := Hsh.out; omega, by rw [← Hsh.out]; rfl, rfl, rfl, by go_num⟩
        case measure => have := Hg.out; omega
def boolOf (data : List Int) (pos : Nat) : Bool × Nat := match data[pos]? with
  | some c => (c == 1, pos + 1)
  | none => (false, pos)

set_option maxRecDepth 100000 in
set_option maxHeartbeats 800000 in
theorem readBool_any {R : Rig} {s : St} {w : World} (hR : R.Ok) (h : Inv R s w) (buf : Value) :
    Calls Tryd.prog 36 #[.iface 60 (.pointer (some ⟨R.rb, 0, none⟩)), buf] w (RdPost R { s with pos := (boolOf R.data s.pos).2 } (.tuple #[.bool (boolOf R.data s.pos).1, .nilIface]) w) := by
  have ta := ta_byteReader
  have me := me_readByte
  cases hc : R.data[s.pos]? with
  | none =>
    have hge : R.data.length ≤ s.pos := by simpa using hc
    have Hf : Hid (boolOf R.data s.pos = (false, s.pos)) := by show _ = _; unfold boolOf; rw [hc]
    rw [Hf.out]
    clear hc
    go_enter Tryd.func36, Tryd.ntmps36
    go_wp2_with (go_at_call 69; refine (readByte_end h hge).mono ?_; rintro e w1 ⟨rfl, hi1, hk1⟩)
    go_ret2
    exact ⟨rfl, hi1, hk1⟩
  | some c =>
    have Hc := Go.Lib.hid hc
    have Hf : Hid (boolOf R.data s.pos = (c == 1, s.pos + 1)) := by show _ = _; unfold boolOf; rw [hc]
    rw [Hf.out]
    clear hc
    go_enter Tryd.func36, Tryd.ntmps36
    go_wp2_with (go_at_call 69; refine (readByte_hit hR h c Hc.out).mono ?_; rintro e w1 ⟨rfl, hi1, hk1⟩)
    go_ret2
    exact ⟨rfl, hi1, hk1⟩
end Go.Proofs.YtkhicabfmkldpaaDoor

namespace Go.Proofs.YtkhicabfmkldpaaDoor
open Go.RowKit

theorem me_read (a : Addr) (w : World) : (method 268 60 (.pointer (some a)) "Read").run Tryd.prog w = .ok (68, .pointer (some a)) w := by kernel_rfl
theorem run_eof_same (a : Addr) (w : World) : (binOp .eql 64 (.iface 147 (.pointer (some a))) (.iface 147 (.pointer (some a)))).run Tryd.prog w = .ok (.bool true) w := by
  have e1 : (Tryd.prog.info? 147).map (·.comparable) = some true := by kernel_rfl
  have e2 : (Tryd.prog.info? 166).isSome = true := by kernel_rfl
  obtain ⟨i, h1, h2⟩ := Option.map_eq_some_iff.1 e1
  obtain ⟨j, h3⟩ := Option.isSome_iff_exists.1 e2
  exact run_eql_iface_ptr_same (P := Tryd.prog) w a Tryd.underlying64 Tryd.underlying147 h1 h2 h3
theorem na_read (a : Addr) (w : World) : (nilAhead 268 60 (.pointer (some a)) "Read").run Tryd.prog w = .ok (some false) w := by kernel_rfl

set_option maxRecDepth 100000 in
set_option maxHeartbeats 800000 in
theorem atLeast_none {R : Rig} {s : St} {w : World} (h : Inv R s w) (p : Option Addr) (mc : Nat) :
    Calls Tryd.prog 52 #[.iface 60 (.pointer (some ⟨R.rb, 0, none⟩)), .slice p 0 mc, .int .i64 0] w (RdPost R s (.tuple #[.int .i64 0, .nilIface]) w) := by
  go_enter Tryd.func52, Tryd.ntmps52
  go_wp2
  refine wp_loop_rounds 1 ?_; rw [rounds_succ]
  go_wp2
  go_ret2
  exact ⟨rfl, h, Keeps.refl _ _⟩

set_option maxRecDepth 100000 in
set_option maxHeartbeats 800000 in
theorem atLeast_full {R : Rig} {s : St} {w : World} (hR : R.Ok) (h : Inv R s w) (g off m mc : Nat) (cur : List Value) (hg : w.heap[g]? = some (.cells cur.toArray 5 (0, 0)))
    (hgb : R.base ≤ g) (hfit : off + m ≤ cur.length) (hgr : g ≠ R.rb) (hm : 0 < m) (hleft : s.pos + m ≤ R.data.length) :
    Calls Tryd.prog 52 #[.iface 60 (.pointer (some ⟨R.rb, 0, none⟩)), .slice (some ⟨g, off, none⟩) m mc, .int .i64 (m : Int)] w
      (ReadPost R { s with pos := s.pos + m } (.tuple #[.int .i64 (m : Int), .nilIface]) g (splice cur off (bytesV ((R.data.drop s.pos).take m))) w) := by
  have hfew := hR.few
  have me := me_read
  have na := na_read
  go_enter Tryd.func52, Tryd.ntmps52
  go_wp2
  refine wp_loop_rounds 2 ?_; rw [rounds_succ]
  go_wp2
  go_region_with (go_at_call 68; refine (read_hit hR (h.drewN 1) (by omega) g off m mc cur hg hgb hfit hgr m (by omega)).mono ?_; rintro e w1 ⟨rfl, hi1, hk1, hg1⟩)
  go_wp2
  rw [rounds_succ]
  go_wp2
  go_ret2
  exact ⟨rfl, hi1, ((Keeps.refl R w).drewN 1).toG.trans hk1, hg1⟩

/-- The end of a read that came short. -/
def ShortPost (R : Rig) (s : St) (g : Nat) (w : World) (e : Ending) (w' : World) : Prop :=
  ∃ n ev, e = .returned (.tuple #[.int .i64 n, ev]) ∧ IsErr R w' ev ∧ Inv R { s with pos := R.data.length } w' ∧ KeepsG R g w w'

theorem Inv.atEnd {R : Rig} {s : St} {w : World} (h : Inv R s w) (hl : R.data.length ≤ s.pos) : Inv R { s with pos := R.data.length } w := by
  have := h.pos
  have e : s.pos = R.data.length := by omega
  obtain ⟨a, b, c, d, f, g⟩ := s
  simp only at e
  subst e
  exact h

set_option maxRecDepth 100000 in
set_option maxHeartbeats 800000 in
theorem atLeast_zero {R : Rig} {s : St} {w : World} (hR : R.Ok) (h : Inv R s w) (g off m mc : Nat)
    (hm : 0 < m) (hm2 : m ≤ 1000) (hleft : R.data.length ≤ s.pos) :
    Calls Tryd.prog 52 #[.iface 60 (.pointer (some ⟨R.rb, 0, none⟩)), .slice (some ⟨g, off, none⟩) m mc, .int .i64 (m : Int)] w
      (ShortPost R s g w) := by
  have hfew := hR.few
  have me := me_read
  have na := na_read
  go_enter Tryd.func52, Tryd.ntmps52
  go_wp2
  refine wp_loop_rounds 2 ?_; rw [rounds_succ]
  go_wp2
  go_region_with (go_at_call 68; refine (read_end (h.drewN 1) hleft _).mono ?_; rintro e w1 ⟨rfl, hi1, hk1⟩)
  go_wp2
  rw [rounds_succ]
  go_wp2
  go_ret2
  exact ⟨0, _, rfl, .inl rfl, hi1.atEnd hleft, ((Keeps.refl R w).drewN 1).toG.trans hk1.toG⟩

set_option maxRecDepth 100000 in
set_option maxHeartbeats 800000 in
theorem atLeast_short {R : Rig} {s : St} {w : World} (hR : R.Ok) (h : Inv R s w) (g off m mc : Nat) (cur : List Value) (hg : w.heap[g]? = some (.cells cur.toArray 5 (0, 0)))
    (hgb : R.base ≤ g) (hfit : off + m ≤ cur.length) (hgr : g ≠ R.rb) (hm2 : m ≤ 1000) (hlt : s.pos < R.data.length) (hleft : R.data.length < s.pos + m) (hmc : m ≤ mc) (k : Nat) (hk : k + s.pos = R.data.length) :
    Calls Tryd.prog 52 #[.iface 60 (.pointer (some ⟨R.rb, 0, none⟩)), .slice (some ⟨g, off, none⟩) m mc, .int .i64 (m : Int)] w
      (ShortPost R s g w) := by
  have hfew := hR.few
  have me := me_read
  have na := na_read
  have hk0 : 0 < k := by omega
  have hkm : k < m := by omega
  have hq : ¬ mc = k := by omega
  have Hk := Go.Lib.hid hk
  clear hk
  go_enter Tryd.func52, Tryd.ntmps52
  go_wp2
  refine wp_loop_rounds 3 ?_; rw [rounds_succ]
  go_wp2
  go_region_with (go_at_call 68; refine (read_hit hR (h.drewN 1) (by omega) g off m mc cur hg hgb hfit hgr k (by have := Hk.out; omega)).mono ?_; rintro e w1 ⟨rfl, hi1, hk1, hg1⟩)
  go_wp2
  rw [rounds_succ]
  go_wp2
  go_region_with (go_at_call 68; refine (read_end (hi1.drewN 1) (by have := Hk.out; show _ ≤ s.pos + k; omega) _).mono ?_; rintro e w2 ⟨rfl, hi2, hk2⟩)
  all_goals
    go_wp2
    have he := hi2.eof
    have hu := hi2.ueof
    have hee := run_eof_same R.e0 w2
    rw [rounds_succ]
    go_wp2
  all_goals go_ret2
  all_goals
    exact ⟨(k : Int), _, rfl, .inr (.inl rfl), hi2.atEnd (by have := Hk.out; show _ ≤ s.pos + k; omega), (((Keeps.refl R w).drewN 1).toG.trans hk1).trans ((((Keeps.refl R w1).drewN 1).trans hk2).toG)⟩

set_option maxRecDepth 100000 in
set_option maxHeartbeats 800000 in
theorem full_none {R : Rig} {s : St} {w : World} (h : Inv R s w) (p : Option Addr) (mc : Nat) :
    Calls Tryd.prog 46 #[.iface 60 (.pointer (some ⟨R.rb, 0, none⟩)), .slice p 0 mc] w (RdPost R s (.tuple #[.int .i64 0, .nilIface]) w) := by
  go_enter Tryd.func46, Tryd.ntmps46
  go_wp2_with (go_at_call 52; refine (atLeast_none h p mc).mono ?_; rintro e w1 ⟨rfl, hi1, hk1⟩)
  go_ret2
  exact ⟨rfl, hi1, hk1⟩

set_option maxRecDepth 100000 in
set_option maxHeartbeats 800000 in
theorem full_full {R : Rig} {s : St} {w : World} (hR : R.Ok) (h : Inv R s w) (g off m mc : Nat) (cur : List Value) (hg : w.heap[g]? = some (.cells cur.toArray 5 (0, 0)))
    (hgb : R.base ≤ g) (hfit : off + m ≤ cur.length) (hgr : g ≠ R.rb) (hm : 0 < m) (hleft : s.pos + m ≤ R.data.length) :
    Calls Tryd.prog 46 #[.iface 60 (.pointer (some ⟨R.rb, 0, none⟩)), .slice (some ⟨g, off, none⟩) m mc] w
      (ReadPost R { s with pos := s.pos + m } (.tuple #[.int .i64 (m : Int), .nilIface]) g (splice cur off (bytesV ((R.data.drop s.pos).take m))) w) := by
  go_enter Tryd.func46, Tryd.ntmps46
  go_wp2_with (go_at_call 52; refine (atLeast_full hR h g off m mc cur hg hgb hfit hgr hm hleft).mono ?_; rintro e w1 ⟨rfl, hi1, hk1, hg1⟩)
  go_ret2
  exact ⟨rfl, hi1, hk1, hg1⟩

set_option maxRecDepth 100000 in
set_option maxHeartbeats 800000 in
theorem full_short {R : Rig} {s : St} {w : World} (hR : R.Ok) (h : Inv R s w) (g off m mc : Nat) (cur : List Value) (hg : w.heap[g]? = some (.cells cur.toArray 5 (0, 0)))
    (hgb : R.base ≤ g) (hfit : off + m ≤ cur.length) (hgr : g ≠ R.rb) (hm : 0 < m) (hm2 : m ≤ 1000) (hleft : R.data.length < s.pos + m) (hmc : m ≤ mc) :
    Calls Tryd.prog 46 #[.iface 60 (.pointer (some ⟨R.rb, 0, none⟩)), .slice (some ⟨g, off, none⟩) m mc] w
      (ShortPost R s g w) := by
  have C : Calls Tryd.prog 52 #[.iface 60 (.pointer (some ⟨R.rb, 0, none⟩)), .slice (some ⟨g, off, none⟩) m mc, .int .i64 (m : Int)] w (ShortPost R s g w) := by
    by_cases hl : s.pos < R.data.length
    · exact atLeast_short hR h g off m mc cur hg hgb hfit hgr hm2 hl hleft hmc (R.data.length - s.pos) (by omega)
    · exact atLeast_zero hR h g off m mc hm hm2 (by omega)
  go_enter Tryd.func46, Tryd.ntmps46
  go_wp2_with (go_at_call 52; refine C.mono ?_; rintro e w1 ⟨n, ev, rfl, hx, hi1, hk1⟩)
  go_ret2
  exact ⟨n, ev, rfl, hx, hi1, hk1⟩

end Go.Proofs.YtkhicabfmkldpaaDoor

namespace Go.Proofs.YtkhicabfmkldpaaDoor
open Go.RowKit

theorem ta_left (a : Addr) (w : World) : (Instr.typeAssert (.iface 60 (.pointer (some a))) 77 144 true).run Tryd.prog w = .ok (.tuple #[.iface 60 (.pointer (some a)), .bool true]) w := by kernel_rfl
theorem me_left (b : Nat) (w : World) : (method 268 60 (.pointer (some ⟨b, 0, none⟩)) "Left").run Tryd.prog w = .ok (18, .pointer (some ⟨b, 0, none⟩)) w := by kernel_rfl

set_option maxRecDepth 100000 in
set_option maxHeartbeats 800000 in
theorem short_any {R : Rig} {s : St} {w : World} (h : Inv R s w) (hfew : R.data.length ≤ 1000) (n : Int) :
    Calls Tryd.prog 51 #[.iface 60 (.pointer (some ⟨R.rb, 0, none⟩)), .int .i64 n] w (RdPost R s (.bool (decide ((R.data.length : Int) - s.pos < n))) w) := by
  have ta := ta_left
  have me := me_left
  have hp := h.pos
  go_enter Tryd.func51, Tryd.ntmps51
  go_wp2_with (go_at_call 18; refine (left_any h hfew).mono ?_; rintro e w1 ⟨rfl, hi1, hk1⟩)
  go_ret
  exact ⟨rfl, hi1, hk1⟩

set_option maxRecDepth 100000 in
set_option maxHeartbeats 800000 in
theorem errNew_any (t : ByteArray) (w : World) : Calls Tryd.prog 28 #[.string t] w fun e w' => e = .returned (.iface 96 (.pointer (some ⟨w.heap.size, 0, none⟩))) ∧ w.alloc (.cells #[.string t] 98) = w' := by
  go_enter Tryd.func28, Tryd.ntmps28
  go_wp2
  go_ret
  exact ⟨rfl, rfl⟩


/-- A slice of bytes in memory of the run's own. -/
def BytesAt (R : Rig) (w : World) (v : Value) (l : List Int) : Prop :=
  (v = .slice none 0 0 ∧ l = []) ∨
    ∃ g n cap cs, v = .slice (some ⟨g, 0, none⟩) n cap ∧ l.length = n ∧ R.base ≤ g ∧ ¬ R.own g ∧ w.heap[g]? = some (.cells cs 5 (0, 0)) ∧ cs.toList.take n = bytesV l

theorem BytesAt.keep {R : Rig} {w w' : World} {v : Value} {l : List Int} (h : BytesAt R w v l) (hk : Keeps R w w') : BytesAt R w' v l := by
  rcases h with h | ⟨g, n, cap, cs, h1, h2, h3, h4, h5, h6⟩
  · exact .inl h
  · exact .inr ⟨g, n, cap, cs, h1, h2, h3, h4, hk.keep _ _ h5 h4 rfl, h6⟩

def rdBytes (data : List Int) (pos : Nat) : Option (List Int × Nat) :=
  match rdLong data pos with
  | none => none
  | some (n, p) => if n < 0 ∨ 2147483647 < n then none else if data.length < p + n.toNat then none else some ((data.drop p).take n.toNat, p + n.toNat)

def BytesPost (R : Rig) (s : St) (o : Option (List Int × Nat)) (w : World) (e : Ending) (w' : World) : Prop :=
  match o with
  | some (l, p) => ∃ v, e = .returned (.tuple #[v, .nilIface]) ∧ BytesAt R w' v l ∧ Inv R { s with pos := p } w' ∧ Keeps R w w'
  | none => RdErr R s (.slice none 0 0) w e w'

def StringPost (R : Rig) (s : St) (o : Option (List Int × Nat)) (w : World) (e : Ending) (w' : World) : Prop :=
  match o with
  | some (l, p) => RdPost R { s with pos := p } (.tuple #[.string (strOfNums l), .nilIface]) w e w'
  | none => RdErr R s (.string ByteArray.empty) w e w'

theorem Inv.size {R : Rig} {s : St} {w : World} (h : Inv R s w) {b : Nat} (hb : R.own b) : b < w.heap.size := by
  obtain ⟨v, h1, _⟩ := h.notes
  obtain ⟨cs, _, h2⟩ := h.buf
  rcases hb with rfl | rfl | rfl | rfl | rfl
  · exact lt_of_block h.reader
  · exact lt_of_block h.prog
  · exact lt_of_block h.pc
  · exact lt_of_block h1
  · exact lt_of_block h2

theorem Inv.fresh {R : Rig} {s : St} {w : World} (h : Inv R s w) : ¬ R.own w.heap.size := fun hb => by have := h.size hb; omega

/-- The world behind the new error. -/
theorem RdErr.said {R : Rig} {s : St} {w w1 : World} {z : Value} {p : Nat} {t : ByteArray} {e : Ending} (hR : R.Ok) (h : Inv R { s with pos := p } w1) (hk : Keeps R w w1)
    (he : e = .returned (.tuple #[z, .iface 96 (.pointer (some ⟨w1.heap.size, 0, none⟩))])) : RdErr R s z w e (w1.alloc (.cells #[.string t] 98)) :=
  ⟨p, _, he, .inr (.inr ⟨_, t, rfl, h.base hR, h.fresh, heap_alloc_new _ _⟩), h.alloc hR _, hk.alloc (h.base hR) _⟩

theorem take_splice {l : List Value} {n : Nat} {c : List Value} (h : c.length = n) : (splice l 0 c).take n = c := by
  subst h
  simp [splice]

theorem IsErr.form {R : Rig} {w : World} {v : Value} (h : IsErr R w v) : ∃ t x, v = .iface t x := by
  rcases h with rfl | rfl | ⟨_, _, rfl, _⟩
  · exact ⟨_, _, rfl⟩
  · exact ⟨_, _, rfl⟩
  · exact ⟨_, _, rfl⟩

theorem vrd_le (f : Int → Nat → Int → Int) : ∀ (l : List Int) (sh : Nat) (v : Int) {x : Int} {k : Nat}, vrd f l sh v = some (x, k) → k ≤ l.length
  | [], _, _, _, _, h => by cases h
  | c :: r, sh, v, x, k, h => by
    rw [vrd] at h
    split at h
    · cases h; simp
    · obtain ⟨⟨y, j⟩, h1, h2⟩ := Option.map_eq_some_iff.1 h
      have := vrd_le f r _ _ h1
      cases h2
      simp; omega

theorem rdLong_le {data : List Int} {pos : Nat} {n : Int} {p : Nat} (hp : pos ≤ data.length) (h : rdLong data pos = some (n, p)) : p ≤ data.length := by
  obtain ⟨⟨y, j⟩, h1, h2⟩ := Option.map_eq_some_iff.1 h
  have := vrd_le _ _ _ _ h1
  cases h2
  simp at this
  simp; omega

theorem info5 : (Tryd.prog.info? 5).map (fun i => (i.zero, i.size, i.bytes)) = some (some (.int .u8 0), 1, 1) := by kernel_rfl

set_option maxRecDepth 100000 in
set_option maxHeartbeats 800000 in
theorem readBytes_any {R : Rig} {s : St} {w : World} (hR : R.Ok) (h : Inv R s w) (buf : Value) :
    Calls Tryd.prog 41 #[.iface 60 (.pointer (some ⟨R.rb, 0, none⟩)), buf] w (BytesPost R s (rdBytes R.data s.pos) w) := by
  have C := readLong_any hR h buf
  have hfew := hR.few
  unfold rdBytes
  cases hl : rdLong R.data s.pos with
  | none =>
    replace C : Calls Tryd.prog 38 #[.iface 60 (.pointer (some ⟨R.rb, 0, none⟩)), buf] w (RdErr R s (.int .i64 0) w) := C.mono fun e w' hp => by unfold LongPost at hp; rw [hl] at hp; exact hp
    clear hl
    go_enter Tryd.func41, Tryd.ntmps41
    go_wp2_with (go_at_call 38; refine C.mono ?_; rintro e w1 ⟨p, ev, rfl, hx, hi1, hk1⟩; obtain ⟨t, x, rfl⟩ := hx.form)
    go_ret2
    exact ⟨p, _, rfl, hx, hi1, hk1⟩
  | some r =>
    obtain ⟨n, p⟩ := r
    replace C : Calls Tryd.prog 38 #[.iface 60 (.pointer (some ⟨R.rb, 0, none⟩)), buf] w (RdPost R { s with pos := p } (.tuple #[.int .i64 n, .nilIface]) w) := C.mono fun e w' hp => by unfold LongPost at hp; rw [hl] at hp; exact hp
    have hple := rdLong_le h.pos hl
    clear hl
    dsimp only
    by_cases h1 : n < 0 ∨ 2147483647 < n
    · rw [if_pos h1]
      rcases h1 with h1 | h1
      · go_enter Tryd.func41, Tryd.ntmps41
        go_wp2_with (first | (go_at_call 38; refine C.mono ?_; rintro e w1 ⟨rfl, hi1, hk1⟩) | (go_at_call 28; refine (errNew_any _ _).mono ?_; rintro e w2 ⟨rfl, rfl⟩))
        go_ret2
        exact RdErr.said hR hi1 hk1 rfl
      · have h2 : ¬ n < 0 := by omega
        go_enter Tryd.func41, Tryd.ntmps41
        go_wp2_with (first | (go_at_call 38; refine C.mono ?_; rintro e w1 ⟨rfl, hi1, hk1⟩) | (go_at_call 28; refine (errNew_any _ _).mono ?_; rintro e w2 ⟨rfl, rfl⟩))
        go_ret2
        exact RdErr.said hR hi1 hk1 rfl
    · rw [if_neg h1]
      have h2 : 0 ≤ n := by omega
      have h3 : n ≤ 2147483647 := by omega
      clear h1
      obtain ⟨m, rfl⟩ := Int.eq_ofNat_of_zero_le h2
      rw [Int.toNat_natCast]
      by_cases hz : m = 0
      · subst hz
        rw [if_neg (by omega)]
        go_enter Tryd.func41, Tryd.ntmps41
        go_wp2_with (first | (go_at_call 38; refine C.mono ?_; rintro e w1 ⟨rfl, hi1, hk1⟩) | (go_at_call 28; refine (errNew_any _ _).mono ?_; rintro e w2 ⟨rfl, rfl⟩))
        go_ret2
        exact ⟨_, rfl, .inr ⟨w1.heap.size, 0, 0, #[], rfl, rfl, hi1.base hR, hi1.fresh, heap_alloc_new _ _, rfl⟩, hi1.alloc hR _, hk1.alloc (hi1.base hR) _⟩
      · have hz' : 0 < m := by omega
        by_cases hs : R.data.length < p + m
        · rw [if_pos hs]
          go_enter Tryd.func41, Tryd.ntmps41
          go_wp2_with (first | (go_at_call 38; refine C.mono ?_; rintro e w1 ⟨rfl, hi1, hk1⟩) | (go_at_call 51; refine (short_any hi1 hfew _).mono ?_; rintro e w2 ⟨rfl, hi2, hk2⟩))
          have hu := hi2.ueof
          go_quiet (fail)
          go_wp2
          go_ret2
          exact ⟨p, _, rfl, .inr (.inl rfl), hi2.drewN _, (hk1.trans hk2).drewN _⟩
        · rw [if_neg hs]
          have hm1 : m ≤ 1000 := by omega
          have hmk := run_make_row' (P := Tryd.prog) 22 5 (.int .u8 0) 1 Tryd.underlying22 info5 rfl .i64 .i64 m (by omega) (by omega)
          go_enter Tryd.func41, Tryd.ntmps41
          go_wp2_with (first | (go_at_call 38; refine C.mono ?_; rintro e w1 ⟨rfl, hi1, hk1⟩) | (go_at_call 51; refine (short_any hi1 hfew _).mono ?_; rintro e w2 ⟨rfl, hi2, hk2⟩))
          have hcell : (w2.alloc (.cells (madeCells #[.int .u8 0] m) 5)).heap[w2.heap.size]? = some (.cells (List.replicate m (Value.int .u8 0)).toArray 5 (0, 0)) := by
            rw [heap_alloc_new, ← toList_madeCells_one, Array.toArray_toList]
          have hgr : w2.heap.size ≠ R.rb := fun e => by have := hi2.size (.inl rfl); omega
          refine (full_full hR (hi2.alloc hR _) w2.heap.size 0 m m (List.replicate m (.int .u8 0)) hcell (hi2.base hR) (by simp) hgr hz' (by show p + m ≤ _; omega)).mono ?_
          rintro e w3 ⟨rfl, hi3, hk3, hg3⟩
          go_wp2
          go_ret2
          refine ⟨_, rfl, .inr ⟨w2.heap.size, m, m, _, rfl, by simp; omega, hi2.base hR, hi2.fresh, hg3, ?_⟩, hi3, KeepsG.fresh ((hk1.trans hk2).alloc (hi2.base hR) _) hk3 (hk1.trans hk2).below.size⟩
          exact take_splice (by simp [bytesV]; omega)

end Go.Proofs.YtkhicabfmkldpaaDoor

namespace Go.Proofs.YtkhicabfmkldpaaDoor
open Go.RowKit

set_option maxRecDepth 100000 in
set_option maxHeartbeats 800000 in
theorem readString_any {R : Rig} {s : St} {w : World} (hR : R.Ok) (h : Inv R s w) (buf : Value) :
    Calls Tryd.prog 42 #[.iface 60 (.pointer (some ⟨R.rb, 0, none⟩)), buf] w (StringPost R s (rdBytes R.data s.pos) w) := by
  have C := readLong_any hR h buf
  have hfew := hR.few
  unfold rdBytes
  cases hl : rdLong R.data s.pos with
  | none =>
    replace C : Calls Tryd.prog 38 #[.iface 60 (.pointer (some ⟨R.rb, 0, none⟩)), buf] w (RdErr R s (.int .i64 0) w) := C.mono fun e w' hp => by unfold LongPost at hp; rw [hl] at hp; exact hp
    clear hl
    go_enter Tryd.func42, Tryd.ntmps42
    go_wp2_with (go_at_call 38; refine C.mono ?_; rintro e w1 ⟨p, ev, rfl, hx, hi1, hk1⟩; obtain ⟨t, x, rfl⟩ := hx.form)
    go_ret2
    exact ⟨p, _, rfl, hx, hi1, hk1⟩
  | some r =>
    obtain ⟨n, p⟩ := r
    replace C : Calls Tryd.prog 38 #[.iface 60 (.pointer (some ⟨R.rb, 0, none⟩)), buf] w (RdPost R { s with pos := p } (.tuple #[.int .i64 n, .nilIface]) w) := C.mono fun e w' hp => by unfold LongPost at hp; rw [hl] at hp; exact hp
    have hple := rdLong_le h.pos hl
    clear hl
    dsimp only
    by_cases h1 : n < 0 ∨ 2147483647 < n
    · rw [if_pos h1]
      rcases h1 with h1 | h1
      · go_enter Tryd.func42, Tryd.ntmps42
        go_wp2_with (first | (go_at_call 38; refine C.mono ?_; rintro e w1 ⟨rfl, hi1, hk1⟩) | (go_at_call 28; refine (errNew_any _ _).mono ?_; rintro e w2 ⟨rfl, rfl⟩))
        go_ret2
        exact RdErr.said hR hi1 hk1 rfl
      · have h2 : ¬ n < 0 := by omega
        go_enter Tryd.func42, Tryd.ntmps42
        go_wp2_with (first | (go_at_call 38; refine C.mono ?_; rintro e w1 ⟨rfl, hi1, hk1⟩) | (go_at_call 28; refine (errNew_any _ _).mono ?_; rintro e w2 ⟨rfl, rfl⟩))
        go_ret2
        exact RdErr.said hR hi1 hk1 rfl
    · rw [if_neg h1]
      have h2 : 0 ≤ n := by omega
      have h3 : n ≤ 2147483647 := by omega
      clear h1
      obtain ⟨m, rfl⟩ := Int.eq_ofNat_of_zero_le h2
      rw [Int.toNat_natCast]
      by_cases hz : m = 0
      · subst hz
        rw [if_neg (by omega)]
        go_enter Tryd.func42, Tryd.ntmps42
        go_wp2_with (first | (go_at_call 38; refine C.mono ?_; rintro e w1 ⟨rfl, hi1, hk1⟩) | (go_at_call 28; refine (errNew_any _ _).mono ?_; rintro e w2 ⟨rfl, rfl⟩))
        go_ret2
        exact ⟨rfl, hi1, hk1⟩
      · have hz' : 0 < m := by omega
        by_cases hs : R.data.length < p + m
        · rw [if_pos hs]
          go_enter Tryd.func42, Tryd.ntmps42
          go_wp2_with (first | (go_at_call 38; refine C.mono ?_; rintro e w1 ⟨rfl, hi1, hk1⟩) | (go_at_call 51; refine (short_any hi1 hfew _).mono ?_; rintro e w2 ⟨rfl, hi2, hk2⟩))
          have hu := hi2.ueof
          go_quiet (fail)
          go_wp2
          go_ret2
          exact ⟨p, _, rfl, .inr (.inl rfl), hi2.drewN _, (hk1.trans hk2).drewN _⟩
        · rw [if_neg hs]
          have hm1 : m ≤ 1000 := by omega
          have hmk := run_make_row' (P := Tryd.prog) 22 5 (.int .u8 0) 1 Tryd.underlying22 info5 rfl .i64 .i64 m (by omega) (by omega)
          go_enter Tryd.func42, Tryd.ntmps42
          go_wp2_with (first | (go_at_call 38; refine C.mono ?_; rintro e w1 ⟨rfl, hi1, hk1⟩) | (go_at_call 51; refine (short_any hi1 hfew _).mono ?_; rintro e w2 ⟨rfl, hi2, hk2⟩))
          have hcell : (w2.alloc (.cells (madeCells #[.int .u8 0] m) 5)).heap[w2.heap.size]? = some (.cells (List.replicate m (Value.int .u8 0)).toArray 5 (0, 0)) := by
            rw [heap_alloc_new, ← toList_madeCells_one, Array.toArray_toList]
          have hgr : w2.heap.size ≠ R.rb := fun e => by have := hi2.size (.inl rfl); omega
          refine (full_full hR (hi2.alloc hR _) w2.heap.size 0 m m (List.replicate m (.int .u8 0)) hcell (hi2.base hR) (by simp) hgr hz' (by show p + m ≤ _; omega)).mono ?_
          rintro e w3 ⟨rfl, hi3, hk3, hg3⟩
          have hlen : ((R.data.drop p).take m).length = m := by simp; omega
          have htk := take_splice (l := List.replicate m (Value.int .u8 0)) (n := m) (c := bytesV ((R.data.drop p).take m)) (by simp [bytesV]; omega)
          have hcv := run_convert_bytes_arg (P := Tryd.prog) w3 22 5 Tryd.underlying22 Tryd.underlying5 w2.heap.size 0 m m ((R.data.drop p).take m) hlen (fun i hi => by
            rw [cell_of_row _ _ _ _ _ _ hg3]
            have h9 : (splice (List.replicate m (Value.int .u8 0)) 0 (bytesV ((R.data.drop p).take m)))[i]? = (bytesV ((R.data.drop p).take m))[i]? := by
              rw [← htk, List.getElem?_take, if_pos hi, htk]
            rw [Nat.zero_add, List.getElem?_toArray]
            rw [show (splice (List.replicate m (Value.int .u8 0)) 0 (bytesV (List.take m (List.drop ({ s with pos := p } : St).pos R.data))))[i]? = (bytesV ((R.data.drop p).take m))[i]? from h9]
            rw [bytesV, List.getElem?_map, List.getElem?_eq_getElem (by omega), List.getD, List.getElem?_eq_getElem (by omega)]
            rfl) 9 Tryd.underlying9
          clear htk
          have Hl := Go.Lib.hid hlen
          clear hlen
          go_wp2
          go_ret2
          exact ⟨rfl, hi3, KeepsG.fresh ((hk1.trans hk2).alloc (hi2.base hR) _) hk3 (hk1.trans hk2).below.size⟩

def rdFixed (data : List Int) (pos : Nat) (m : Nat) : Option (List Int × Nat) := if data.length < pos + m then none else some ((data.drop pos).take m, pos + m)

set_option maxRecDepth 100000 in
set_option maxHeartbeats 800000 in
theorem readFixed_any {R : Rig} {s : St} {w : World} (hR : R.Ok) (h : Inv R s w) (m : Nat) (hm : m ≤ 1000) :
    Calls Tryd.prog 43 #[.iface 60 (.pointer (some ⟨R.rb, 0, none⟩)), .int .i64 (m : Int)] w (BytesPost R s (rdFixed R.data s.pos m) w) := by
  have hfew := hR.few
  have hpos := h.pos
  unfold rdFixed
  by_cases hs : R.data.length < s.pos + m
  · rw [if_pos hs]
    go_enter Tryd.func43, Tryd.ntmps43
    go_wp2_with (go_at_call 51; refine (short_any h hfew _).mono ?_; rintro e w2 ⟨rfl, hi2, hk2⟩)
    have hu := hi2.ueof
    go_quiet (fail)
    go_wp2
    go_ret2
    exact ⟨s.pos, _, rfl, .inr (.inl rfl), hi2.drewN _, hk2.drewN _⟩
  · rw [if_neg hs]
    have hmk := run_make_row' (P := Tryd.prog) 22 5 (.int .u8 0) 1 Tryd.underlying22 info5 rfl .i64 .i64 m (by omega) (by omega)
    go_enter Tryd.func43, Tryd.ntmps43
    go_wp2_with (go_at_call 51; refine (short_any h hfew _).mono ?_; rintro e w2 ⟨rfl, hi2, hk2⟩)
    have hcell : (w2.alloc (.cells (madeCells #[.int .u8 0] m) 5)).heap[w2.heap.size]? = some (.cells (List.replicate m (Value.int .u8 0)).toArray 5 (0, 0)) := by
      rw [heap_alloc_new, ← toList_madeCells_one, Array.toArray_toList]
    have hgr : w2.heap.size ≠ R.rb := fun e => by have := hi2.size (.inl rfl); omega
    by_cases hz : m = 0
    · subst hz
      refine (full_none (hi2.alloc hR _) _ _).mono ?_
      rintro e w3 ⟨rfl, hi3, hk3⟩
      go_wp2
      go_ret2
      refine ⟨_, rfl, .inr ⟨w2.heap.size, 0, 0, #[], rfl, rfl, hi2.base hR, hi2.fresh, hk3.keep _ _ hcell hi2.fresh rfl, rfl⟩, hi3, (hk2.alloc (hi2.base hR) _).trans hk3⟩
    · have hz' : 0 < m := by omega
      refine (full_full hR (hi2.alloc hR _) w2.heap.size 0 m m (List.replicate m (.int .u8 0)) hcell (hi2.base hR) (by simp) hgr hz' (by omega)).mono ?_
      rintro e w3 ⟨rfl, hi3, hk3, hg3⟩
      go_wp2
      go_ret2
      refine ⟨_, rfl, .inr ⟨w2.heap.size, m, m, _, rfl, by simp; omega, hi2.base hR, hi2.fresh, hg3, ?_⟩, hi3, KeepsG.fresh (hk2.alloc (hi2.base hR) _) hk3 hk2.below.size⟩
      exact take_splice (by simp [bytesV]; omega)

end Go.Proofs.YtkhicabfmkldpaaDoor

namespace Go.Proofs.YtkhicabfmkldpaaDoor
open Go.RowKit

def le32 (a b c d : Int) : Int :=
  bits BinOp.or IntKind.u32 (bits BinOp.or IntKind.u32 (bits BinOp.or IntKind.u32 (a % 4294967296) (b % 4294967296 * 256 % 4294967296)) (c % 4294967296 * 65536 % 4294967296)) (d % 4294967296 * 16777216 % 4294967296)

def le64 (a b c d a1 b1 c1 d1 : Int) : Int :=
  bits BinOp.or IntKind.u64 (bits BinOp.or IntKind.u64 (bits BinOp.or IntKind.u64 (bits BinOp.or IntKind.u64 (bits BinOp.or IntKind.u64 (bits BinOp.or IntKind.u64
    (bits BinOp.or IntKind.u64 (IntKind.u64.wrap a) (IntKind.u64.wrap (IntKind.u64.wrap b * 256))) (IntKind.u64.wrap (IntKind.u64.wrap c * 65536))) (IntKind.u64.wrap (IntKind.u64.wrap d * 16777216)))
    (IntKind.u64.wrap (IntKind.u64.wrap a1 * 4294967296))) (IntKind.u64.wrap (IntKind.u64.wrap b1 * 1099511627776))) (IntKind.u64.wrap (IntKind.u64.wrap c1 * 281474976710656))) (IntKind.u64.wrap (IntKind.u64.wrap d1 * 72057594037927936))

set_option maxRecDepth 100000 in
set_option maxHeartbeats 800000 in
theorem uint32_any {R : Rig} {s : St} {w : World} (hR : R.Ok) (h : Inv R s w) (a b c d : Int) (cap : Nat) (h0 : w.cell? ⟨R.bb, 0, none⟩ = some (.int .u8 a)) (h1 : w.cell? ⟨R.bb, 1, none⟩ = some (.int .u8 b))
    (h2 : w.cell? ⟨R.bb, 2, none⟩ = some (.int .u8 c)) (h3 : w.cell? ⟨R.bb, 3, none⟩ = some (.int .u8 d)) :
    Calls Tryd.prog 47 #[.agg #[], .slice (some ⟨R.bb, 0, none⟩) 4 cap] w (RdPost R s (.int .u32 (le32 a b c d)) w) := by
  have hsz := h.size (b := R.bb) (by simp [Rig.own])
  have Hp := Go.Lib.hid h
  clear h
  go_enter Tryd.func47, Tryd.ntmps47
  go_wp2
  go_quiet (fail)
  go_wp2
  go_ret
  exact ⟨rfl, (Hp.out.alloc hR _).drewN _, ((Keeps.refl R w).alloc (Hp.out.base hR) _).drewN _⟩

set_option maxRecDepth 100000 in
set_option maxHeartbeats 1600000 in
theorem uint64_any {R : Rig} {s : St} {w : World} (hR : R.Ok) (h : Inv R s w) (a b c d a1 b1 c1 d1 : Int) (cap : Nat) (h0 : w.cell? ⟨R.bb, 0, none⟩ = some (.int .u8 a)) (h1 : w.cell? ⟨R.bb, 1, none⟩ = some (.int .u8 b))
    (h2 : w.cell? ⟨R.bb, 2, none⟩ = some (.int .u8 c)) (h3 : w.cell? ⟨R.bb, 3, none⟩ = some (.int .u8 d)) (h4 : w.cell? ⟨R.bb, 4, none⟩ = some (.int .u8 a1)) (h5 : w.cell? ⟨R.bb, 5, none⟩ = some (.int .u8 b1))
    (h6 : w.cell? ⟨R.bb, 6, none⟩ = some (.int .u8 c1)) (h7 : w.cell? ⟨R.bb, 7, none⟩ = some (.int .u8 d1)) :
    Calls Tryd.prog 49 #[.agg #[], .slice (some ⟨R.bb, 0, none⟩) 8 cap] w (RdPost R s (.int .u64 (le64 a b c d a1 b1 c1 d1)) w) := by
  have hsz := h.size (b := R.bb) (by simp [Rig.own])
  have Hp := Go.Lib.hid h
  clear h
  go_enter Tryd.func49, Tryd.ntmps49
  go_wp2
  go_quiet (fail)
  go_wp2
  go_ret
  exact ⟨rfl, (Hp.out.alloc hR _).drewN _, ((Keeps.refl R w).alloc (Hp.out.base hR) _).drewN _⟩

theorem cf48 (n : Int) (w : World) : (callFunc 48 #[.int .u32 n]).run Tryd.prog w = .ok (.value (.float .f32 n.toNat)) w := by kernel_rfl
theorem cf50 (n : Int) (w : World) : (callFunc 50 #[.int .u64 n]).run Tryd.prog w = .ok (.value (.float .f64 n.toNat)) w := by kernel_rfl
theorem cf86 (n : Nat) (w : World) : (callFunc 86 #[.float .f64 n]).run Tryd.prog w = .ok (.value (.int .u64 n)) w := by kernel_rfl
theorem cf87 (n : Nat) (w : World) : (callFunc 87 #[.float .f32 n]).run Tryd.prog w = .ok (.value (.int .u32 n)) w := by kernel_rfl

theorem splice_at {data : List Int} {pos m : Nat} {l : List Value} (hs : ¬ data.length < pos + m) {i : Nat} (hi : i < m) :
    (splice l 0 (bytesV ((data.drop pos).take m)))[i]? = some (.int .u8 (data.getD (pos + i) 0)) := by
  have hlen : (bytesV ((data.drop pos).take m)).length = m := by simp [bytesV]; omega
  have h1 := take_splice (l := l) hlen
  have h2 : (splice l 0 (bytesV ((data.drop pos).take m)))[i]? = (bytesV ((data.drop pos).take m))[i]? := by
    have h3 : ((splice l 0 (bytesV ((data.drop pos).take m))).take m)[i]? = (bytesV ((data.drop pos).take m))[i]? := by rw [h1]
    rwa [List.getElem?_take, if_pos hi] at h3
  rw [h2, bytesV, List.getElem?_map, List.getElem?_take, if_pos hi, List.getElem?_drop, List.getElem?_eq_getElem (by omega), List.getD, List.getElem?_eq_getElem (by omega)]
  rfl

def rdFloat (data : List Int) (pos : Nat) : Option (Nat × Nat) := if data.length < pos + 4 then none else some ((le32 (data.getD (pos + 0) 0) (data.getD (pos + 1) 0) (data.getD (pos + 2) 0) (data.getD (pos + 3) 0)).toNat, pos + 4)

def FloatPost (R : Rig) (s : St) (w : World) (e : Ending) (w' : World) : Prop :=
  match rdFloat R.data s.pos with
  | some (x, p) => RdPost R { s with pos := p } (.tuple #[.float .f32 x, .nilIface]) w e w'
  | none => RdErr R s (.float .f32 0) w e w'

set_option maxRecDepth 100000 in
set_option maxHeartbeats 1600000 in
theorem readFloat_any {R : Rig} {s : St} {w : World} (hR : R.Ok) (h : Inv R s w) :
    Calls Tryd.prog 39 #[.iface 60 (.pointer (some ⟨R.rb, 0, none⟩)), .slice (some ⟨R.bb, 0, none⟩) 8 8] w (FloatPost R s w) := by
  have hfew := hR.few
  obtain ⟨cs, hcs, hb⟩ := h.buf
  have hb' : w.heap[R.bb]? = some (.cells cs.toList.toArray 5 (0, 0)) := by simpa using hb
  have hgr : R.bb ≠ R.rb := Ne.symm hR.rbb
  have Hcs := Go.Lib.hid hcs
  clear hb hcs
  by_cases hs : R.data.length < s.pos + 4
  · have Hr : Hid (rdFloat R.data s.pos = none) := by show _ = _; unfold rdFloat; rw [if_pos hs]
    have C := full_short hR h R.bb 0 4 8 cs.toList hb' hR.b (by have := Hcs.out; simp; omega) hgr (by omega) (by omega) hs (by omega)
    go_enter Tryd.func39, Tryd.ntmps39
    go_wp2_with (go_at_call 46; refine C.mono ?_; rintro e w1 ⟨n, ev, rfl, hx, hi1, hk1⟩; obtain ⟨t, x, rfl⟩ := hx.form)
    go_ret2
    unfold FloatPost
    rw [Hr.out]
    exact ⟨_, _, rfl, hx, hi1, hk1.own (by simp [Rig.own])⟩
  · have Hr : Hid (rdFloat R.data s.pos = some ((le32 (R.data.getD (s.pos + 0) 0) (R.data.getD (s.pos + 1) 0) (R.data.getD (s.pos + 2) 0) (R.data.getD (s.pos + 3) 0)).toNat, s.pos + 4)) := by show _ = _; unfold rdFloat; rw [if_neg hs]
    have C := full_full hR h R.bb 0 4 8 cs.toList hb' hR.b (by have := Hcs.out; simp; omega) hgr (by omega) (by omega)
    have cf := cf48
    go_enter Tryd.func39, Tryd.ntmps39
    go_wp2_with (go_at_call 46; refine C.mono ?_; rintro e w1 ⟨rfl, hi1, hk1, hg1⟩)
    have hc : ∀ i, i < 4 → w1.cell? ⟨R.bb, i, none⟩ = some (.int .u8 (R.data.getD (s.pos + i) 0)) := fun i hi => by
      rw [cell_of_row _ _ _ _ _ _ hg1, List.getElem?_toArray]
      exact splice_at hs hi
    have c0 := hc 0 (by omega)
    have c1 := hc 1 (by omega)
    have c2 := hc 2 (by omega)
    have c3 := hc 3 (by omega)
    clear hc
    go_wp2_with (go_at_call 47; refine (uint32_any hR hi1 _ _ _ _ _ c0 c1 c2 c3).mono ?_; rintro e w2 ⟨rfl, hi2, hk2⟩)
    go_ret2
    unfold FloatPost
    rw [Hr.out]
    exact ⟨rfl, hi2, (hk1.own (by simp [Rig.own])).trans hk2⟩

def rdDouble (data : List Int) (pos : Nat) : Option (Nat × Nat) := if data.length < pos + 8 then none else some ((le64 (data.getD (pos + 0) 0) (data.getD (pos + 1) 0) (data.getD (pos + 2) 0) (data.getD (pos + 3) 0) (data.getD (pos + 4) 0) (data.getD (pos + 5) 0) (data.getD (pos + 6) 0) (data.getD (pos + 7) 0)).toNat, pos + 8)

def DoublePost (R : Rig) (s : St) (w : World) (e : Ending) (w' : World) : Prop :=
  match rdDouble R.data s.pos with
  | some (x, p) => RdPost R { s with pos := p } (.tuple #[.float .f64 x, .nilIface]) w e w'
  | none => RdErr R s (.float .f64 0) w e w'

set_option maxRecDepth 100000 in
set_option maxHeartbeats 1600000 in
theorem readDouble_any {R : Rig} {s : St} {w : World} (hR : R.Ok) (h : Inv R s w) :
    Calls Tryd.prog 40 #[.iface 60 (.pointer (some ⟨R.rb, 0, none⟩)), .slice (some ⟨R.bb, 0, none⟩) 8 8] w (DoublePost R s w) := by
  have hfew := hR.few
  obtain ⟨cs, hcs, hb⟩ := h.buf
  have hb' : w.heap[R.bb]? = some (.cells cs.toList.toArray 5 (0, 0)) := by simpa using hb
  have hgr : R.bb ≠ R.rb := Ne.symm hR.rbb
  have Hcs := Go.Lib.hid hcs
  clear hb hcs
  by_cases hs : R.data.length < s.pos + 8
  · have Hr : Hid (rdDouble R.data s.pos = none) := by show _ = _; unfold rdDouble; rw [if_pos hs]
    have C := full_short hR h R.bb 0 8 8 cs.toList hb' hR.b (by have := Hcs.out; simp; omega) hgr (by omega) (by omega) hs (by omega)
    go_enter Tryd.func40, Tryd.ntmps40
    go_wp2_with (go_at_call 46; refine C.mono ?_; rintro e w1 ⟨n, ev, rfl, hx, hi1, hk1⟩; obtain ⟨t, x, rfl⟩ := hx.form)
    go_ret2
    unfold DoublePost
    rw [Hr.out]
    exact ⟨_, _, rfl, hx, hi1, hk1.own (by simp [Rig.own])⟩
  · have Hr : Hid (rdDouble R.data s.pos = some ((le64 (R.data.getD (s.pos + 0) 0) (R.data.getD (s.pos + 1) 0) (R.data.getD (s.pos + 2) 0) (R.data.getD (s.pos + 3) 0) (R.data.getD (s.pos + 4) 0) (R.data.getD (s.pos + 5) 0) (R.data.getD (s.pos + 6) 0) (R.data.getD (s.pos + 7) 0)).toNat, s.pos + 8)) := by show _ = _; unfold rdDouble; rw [if_neg hs]
    have C := full_full hR h R.bb 0 8 8 cs.toList hb' hR.b (by have := Hcs.out; simp; omega) hgr (by omega) (by omega)
    have cf := cf50
    go_enter Tryd.func40, Tryd.ntmps40
    go_wp2_with (go_at_call 46; refine C.mono ?_; rintro e w1 ⟨rfl, hi1, hk1, hg1⟩)
    have hc : ∀ i, i < 8 → w1.cell? ⟨R.bb, i, none⟩ = some (.int .u8 (R.data.getD (s.pos + i) 0)) := fun i hi => by
      rw [cell_of_row _ _ _ _ _ _ hg1, List.getElem?_toArray]
      exact splice_at hs hi
    have c0 := hc 0 (by omega)
    have c1 := hc 1 (by omega)
    have c2 := hc 2 (by omega)
    have c3 := hc 3 (by omega)
    have c4 := hc 4 (by omega)
    have c5 := hc 5 (by omega)
    have c6 := hc 6 (by omega)
    have c7 := hc 7 (by omega)
    clear hc
    go_wp2_with (go_at_call 49; refine (uint64_any hR hi1 _ _ _ _ _ _ _ _ _ c0 c1 c2 c3 c4 c5 c6 c7).mono ?_; rintro e w2 ⟨rfl, hi2, hk2⟩)
    go_ret2
    unfold DoublePost
    rw [Hr.out]
    exact ⟨rfl, hi2, (hk1.own (by simp [Rig.own])).trans hk2⟩

end Go.Proofs.YtkhicabfmkldpaaDoor
