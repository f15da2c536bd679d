/- impl.VMRun, by the fast reader, answers what the plain machine gives; the package's errors are there, the data and the instructions lie in memory, and the plain machine comes to an end. -/
import Derived.Test.YtkhicabfmkldpaaDoorEvI
namespace Go.Proofs.YtkhicabfmkldpaaDoor
open Go.RowKit

def PreBool (s : ByteArray) (w : World) (e : Ending) (w' : World) : Prop := ∃ b : Bool, e = .returned (.bool b) ∧ w = w' ∧ (b = true → 15 ≤ s.size)
def SomeText (w : World) (e : Ending) (w' : World) : Prop := ∃ t : ByteArray, e = .returned (.string t) ∧ w = w'

set_option maxRecDepth 100000 in
set_option maxHeartbeats 1000000 in
theorem hasPrefix_in (s : ByteArray) (w : World) : Calls Tryd.prog 44 #[.string s, .string ⟨#[82, 117, 110, 116, 105, 109, 101, 32, 101, 114, 114, 111, 114, 58, 32]⟩] w (PreBool s w) := by
  by_cases h : 15 ≤ s.size
  · have H := Go.Lib.hid h
    go_enter Tryd.func44, Tryd.ntmps44
    go_wp2
    go_ret
    exact ⟨_, rfl, rfl, fun _ => H.out⟩
  · go_enter Tryd.func44, Tryd.ntmps44
    go_wp2
    go_ret
    exact ⟨_, rfl, rfl, fun e => by cases e⟩

set_option maxRecDepth 100000 in
set_option maxHeartbeats 1000000 in
theorem hasPrefix_any (s : ByteArray) (w : World) : Calls Tryd.prog 30 #[.string s, .string ⟨#[82, 117, 110, 116, 105, 109, 101, 32, 101, 114, 114, 111, 114, 58, 32]⟩] w (PreBool s w) := by
  go_enter Tryd.func30, Tryd.ntmps30
  go_wp2_with (go_at_call 44; refine (hasPrefix_in s _).mono ?_; rintro e w1 ⟨b, rfl, rfl, hb⟩)
  go_ret
  exact ⟨b, rfl, rfl, hb⟩

set_option maxRecDepth 100000 in
set_option maxHeartbeats 1000000 in
theorem trimPrefix_in (s : ByteArray) (w : World) : Calls Tryd.prog 45 #[.string s, .string ⟨#[82, 117, 110, 116, 105, 109, 101, 32, 101, 114, 114, 111, 114, 58, 32]⟩] w (SomeText w) := by
  by_cases h : 15 ≤ s.size
  · go_enter Tryd.func45, Tryd.ntmps45
    go_wp2_with (go_at_call 44; refine (hasPrefix_in s _).mono ?_; rintro e w1 ⟨b, rfl, rfl, hb⟩; clear hb; cases b)
    all_goals
      go_ret
      exact ⟨_, rfl, rfl⟩
  · have hno : ∀ b : Bool, (b = true → 15 ≤ s.size) → b = false := fun b hb => by
      cases b
      · rfl
      · exact absurd (hb rfl) h
    have Hno := Go.Lib.hid hno
    clear hno
    go_enter Tryd.func45, Tryd.ntmps45
    go_wp2_with (go_at_call 44; refine (hasPrefix_in s _).mono ?_; rintro e w1 ⟨b, rfl, rfl, hb⟩; have hb2 := Hno.out b hb; clear hb; subst hb2)
    go_ret
    exact ⟨_, rfl, rfl⟩

set_option maxRecDepth 100000 in
set_option maxHeartbeats 1000000 in
theorem trimPrefix_any (s : ByteArray) (w : World) : Calls Tryd.prog 31 #[.string s, .string ⟨#[82, 117, 110, 116, 105, 109, 101, 32, 101, 114, 114, 111, 114, 58, 32]⟩] w (SomeText w) := by
  go_enter Tryd.func31, Tryd.ntmps31
  go_wp2_with (go_at_call 45; refine (trimPrefix_in s _).mono ?_; rintro e w1 ⟨b, rfl, rfl⟩)
  go_ret
  exact ⟨_, rfl, rfl⟩

set_option maxRecDepth 100000 in
set_option maxHeartbeats 1000000 in
theorem said_any (b : Nat) (s : ByteArray) (w : World) (h : w.cell? ⟨b, 0, none⟩ = some (.string s)) : Calls Tryd.prog 89 #[.pointer (some ⟨b, 0, none⟩)] w fun e w' => e = .returned (.string s) ∧ w = w' := by
  go_enter Tryd.func89, Tryd.ntmps89
  go_wp2
  go_ret
  exact ⟨rfl, rfl⟩

theorem run_eq_kinds {ta tb : TypeId} (hne : ta ≠ tb) (x y : Value) (w : World) : (binOp .eql 64 (.iface ta x) (.iface tb y)).run Tryd.prog w = .ok (.bool false) w := by
  have h : ∀ d : Nat, (Op.equalIn (d + 1) 64 (.iface ta x) (.iface tb y)).run Tryd.prog w = .ok false w := fun d => by simp [Op.equalIn, run_underlying Tryd.underlying64, hne]
  simp only [binOp]
  simp [Op.equal, Op.maxDepth, h 9999]

set_option maxRecDepth 100000 in
set_option maxHeartbeats 1000000 in
theorem fault_nil (w : World) : Calls Tryd.prog 19 #[.nilIface] w fun e w' => e = .returned (.string ⟨#[]⟩) ∧ w = w' := by
  go_enter Tryd.func19, Tryd.ntmps19
  go_wp2
  go_ret
  exact ⟨rfl, rfl⟩

set_option maxRecDepth 100000 in
set_option maxHeartbeats 2000000 in
theorem fault_err {R : Rig} {s : St} {w : World} (h : Inv R s w) {v : Value} (hv : IsErr R w v) {c0 c1 : Array Value} {t0 t1 : TypeId}
    (h0 : w.heap[R.e0.block]? = some (.cells c0 t0 (0, 0))) (h1 : w.heap[R.e1.block]? = some (.cells c1 t1 (0, 0))) : Calls Tryd.prog 19 #[v] w (SomeText w) := by
  have he := h.eof
  have hu := h.ueof
  have q0 := run_eof_same R.e0 w
  have q1 := run_eof_same R.e1 w
  rcases hv with rfl | rfl | ⟨b, tx, rfl, hb1, hb2, hb3⟩
  · go_enter Tryd.func19, Tryd.ntmps19
    go_wp2
    go_ret
    exact ⟨_, rfl, rfl⟩
  · by_cases e : R.e1 = R.e0
    · rw [e]
      go_enter Tryd.func19, Tryd.ntmps19
      go_wp2
      go_ret
      exact ⟨_, rfl, rfl⟩
    · have hq : (binOp .eql 64 (.iface 147 (.pointer (some R.e1))) (.iface 147 (.pointer (some R.e0)))).run Tryd.prog w = .ok (.bool false) w := by
        have e1 : (Tryd.prog.info? 147).map (·.comparable) = some true := by kernel_rfl
        have e2 : (Tryd.prog.info? 166).map (·.size) = some 1 := by kernel_rfl
        obtain ⟨i, a1, a2⟩ := Option.map_eq_some_iff.1 e1
        obtain ⟨j, a3, a4⟩ := Option.map_eq_some_iff.1 e2
        exact run_eql_iface_ptr_other (P := Tryd.prog) w Tryd.underlying64 Tryd.underlying147 a1 a2 a3 (by omega) e h1 h0
      go_enter Tryd.func19, Tryd.ntmps19
      go_wp2
      go_ret
      exact ⟨_, rfl, rfl⟩
  · have r0 := fun x y => run_eq_kinds (ta := 96) (tb := 147) (by decide) x y w
    have hc : w.cell? ⟨b, 0, none⟩ = some (.string tx) := by rw [cell_of_row _ _ _ _ _ _ hb3]; rfl
    have me : ∀ w : World, (method 268 96 (.pointer (some ⟨b, 0, none⟩)) "Error").run Tryd.prog w = .ok (89, .pointer (some ⟨b, 0, none⟩)) w := fun _ => by kernel_rfl
    clear hb1 hb2 hb3
    go_enter Tryd.func19, Tryd.ntmps19
    go_wp2_with (first | (go_at_call 89; refine (said_any b tx _ hc).mono ?_; rintro e w1 ⟨rfl, rfl⟩) | (go_at_call 30; refine (hasPrefix_any tx _).mono ?_; rintro e w1 ⟨bb, rfl, rfl, hb⟩; clear hb; cases bb) | (go_at_call 31; refine (trimPrefix_any tx _).mono ?_; rintro e w1 ⟨t3, rfl, rfl⟩))
    all_goals
      go_ret
      exact ⟨_, rfl, rfl⟩
end Go.Proofs.YtkhicabfmkldpaaDoor

namespace Go.Proofs.YtkhicabfmkldpaaDoor
open Go.RowKit

def insCells (l : List (Int × Int)) : List Value := l.flatMap fun p => [.int .i64 p.1, .int .i64 p.2]

theorem insCells_snoc (l : List (Int × Int)) (p : Int × Int) : insCells (l ++ [p]) = insCells l ++ [.int .i64 p.1, .int .i64 p.2] := by simp [insCells]
theorem insCells_length (l : List (Int × Int)) : (insCells l).length = l.length * 2 := by
  induction l with
  | nil => rfl
  | cons p l ih => simp only [insCells, List.flatMap_cons, List.length_append, List.length_cons, List.length_nil] at ih ⊢; omega
theorem insCells_get (l : List (Int × Int)) : ∀ (k : Nat) (op x : Int), l[k]? = some (op, x) → (insCells l)[k * 2]? = some (.int .i64 op) ∧ (insCells l)[k * 2 + 1]? = some (.int .i64 x) := by
  induction l with
  | nil => intro k op x h; cases h
  | cons p l ih =>
    intro k op x h
    cases k with
    | zero => simp at h; subst h; exact ⟨rfl, rfl⟩
    | succ k =>
      have := ih k op x (by simpa using h)
      rw [show (k + 1) * 2 = k * 2 + 1 + 1 by omega]
      simpa [insCells] using this

theorem info89 : (Tryd.prog.info? 89).map (fun i => (i.zero, i.size, i.bytes)) = some (some (.agg #[.int .i64 0, .int .i64 0]), 2, 16) := by kernel_rfl

theorem owns_block_ne {w : World} {base : Nat} {v : Value} {n size : Nat} {xs : List Value} {e : TypeId} {b : Nat} {cs : Array Value} {t : TypeId} {f : Nat × Nat}
    (h : w.ownsRow base e size v n xs) (hb : w.heap[b]? = some (.cells cs t f)) (ht : t ≠ e) : v.ownBlock ≠ some b := by
  intro e
  rcases h.2 with ⟨rfl, _⟩ | ⟨g, cap, cur, rfl, _, hg, _⟩
  · simp [Value.ownBlock] at e
  · simp [Value.ownBlock] at e
    subst e
    rw [hb] at hg
    cases hg
    exact ht rfl

/-- The head of the loop: so many instructions are there. -/
structure ProgAt (w0 : World) (ins : List (Int × Int)) (k : Nat) (wr : World) : Prop where
  below : Below w0.heap.size w0 wr
  row : ∃ v, wr.heap[w0.heap.size]? = some (.cells #[v, .slice none 0 0, .int .i64 0, .int .i64 0] 83 (0, 0)) ∧ wr.ownsRow (w0.heap.size + 1) 89 2 v k (insCells (ins.take k))
  le : k ≤ ins.length

theorem ProgAt.step {w0 wr w1 : World} {ins : List (Int × Int)} {k : Nat} {v p1 : Value} {A B : Obj} {op x : Int} (h : ProgAt w0 ins k wr) (hi : ins[k]? = some (op, x))
    (hv : wr.heap[w0.heap.size]? = some (.cells #[v, .slice none 0 0, .int .i64 0, .int .i64 0] 83 (0, 0))) (ho : wr.ownsRow (w0.heap.size + 1) 89 2 v k (insCells (ins.take k)))
    (hown : w1.ownsRow (w0.heap.size + 1) 89 2 p1 (k + 1) (insCells (ins.take k) ++ [.int .i64 op, .int .i64 x])) (hg : ((wr.alloc A).alloc B).drew.grownBy w1 v.ownBlock) :
    ProgAt w0 ins (k + 1) (w1.setCell ⟨w0.heap.size, 0, none⟩ p1) := by
  have hlt : k < ins.length := (List.getElem?_eq_some_iff.1 hi).1
  have gg : wr.grownBy w1 v.ownBlock :=
    ((World.grownBy_alloc wr A _).trans ((World.grownBy_alloc _ B _).trans (⟨rfl, rfl, rfl, Nat.le_refl _, fun _ _ _ => rfl⟩ : World.grownBy ((wr.alloc A).alloc B) ((wr.alloc A).alloc B).drew _))).trans hg
  have hne : v.ownBlock ≠ some w0.heap.size := owns_block_ne ho hv (by decide)
  have h1 : w1.heap[w0.heap.size]? = some (.cells #[v, .slice none 0 0, .int .i64 0, .int .i64 0] 83 (0, 0)) := by rw [gg.block _ (lt_of_block hv) (Ne.symm hne)]; exact hv
  have hb1 : Below w0.heap.size w0 w1 := h.below.grown gg (by have := h.below.size; omega) (fun j hj => by have := (ho.lt j hj).1; omega)
  have hne1 : p1.ownBlock ≠ some w0.heap.size := owns_block_ne hown h1 (by decide)
  refine ⟨hb1.setCell (Nat.le_refl _) _, ⟨p1, blk_set _ h1, ?_⟩, by omega⟩
  rw [List.take_add_one, hi]
  simp only [Option.toList_some]
  rw [insCells_snoc]
  exact ownsRow_setCell_other hown hne1 _

set_option maxRecDepth 1000000 in
set_option maxHeartbeats 8000000 in
theorem program_any (ab n c : Nat) (ins : List (Int × Int)) (w : World) (hn : ins.length = n) (hn2 : n ≤ 100000) (hc : n ≤ c)
    (hcell : ∀ (k : Nat) (op x : Int), ins[k]? = some (op, x) → w.cell? ⟨ab, k * 2, none⟩ = some (.int .i64 op) ∧ w.cell? ⟨ab, k * 2 + 1, none⟩ = some (.int .i64 x)) (hab : ab < w.heap.size) :
    Calls Tryd.prog 17 #[.slice (some ⟨ab, 0, none⟩) n c, .slice none 0 0] w fun e w' => e = .returned (.pointer (some ⟨w.heap.size, 0, none⟩)) ∧ ProgAt w ins n w' := by
  obtain ⟨i0, hi0, hz0, hz1, hz2⟩ := info_parts info89
  have Hcell := Go.Lib.hid hcell
  have Hn := Go.Lib.hid hn
  clear hcell hn
  go_enter Tryd.func17, Tryd.ntmps17
  go_wp2
  go_loopg [13] (n + 1) (fun g cv wr => ∃ k : Nat, g + k = n + 1 ∧ cv = .int .i64 (k : Int) ∧ ProgAt w ins k wr)
  case atStart => exact ⟨0, by omega, rfl, ⟨(Below.refl _ _).alloc (Nat.le_refl _) _, ⟨.slice none 0 0, heap_alloc_new _ _, World.ownsRow_nil _ _ _ _⟩, Nat.zero_le _⟩⟩
  case round =>
    obtain ⟨k, hg, rfl, hp⟩ := hrel
    obtain ⟨v, hv, ho⟩ := hp.row
    have Hp := Go.Lib.hid hp
    have Hg := Go.Lib.hid hg
    have Hv := Go.Lib.hid hv
    have hkn : k ≤ n := by have := hp.le; have := Hn.out; omega
    have hk0 : (0 : Int) ≤ (k : Int) := Int.natCast_nonneg _
    have hsz := hp.below.size
    have hbw := hp.below
    clear hg hp
    by_cases hlt : k < n
    · obtain ⟨⟨op, x⟩, hi⟩ : ∃ p, ins[k]? = some p := ⟨_, List.getElem?_eq_getElem (by have := Hn.out; omega)⟩
      have hk1 : (k : Int) < (n : Int) := by omega
      obtain ⟨e0, e1⟩ := Hcell.out k op x hi
      have d0 : wr.cell? ⟨ab, k * 2, none⟩ = some (.int .i64 op) := by rw [hbw.cell (p := ⟨ab, k * 2, none⟩) hab]; exact e0
      have d1 : wr.cell? ⟨ab, k * 2 + 1, none⟩ = some (.int .i64 x) := by rw [hbw.cell (p := ⟨ab, k * 2 + 1, none⟩) hab]; exact e1
      have p0 : wr.cell? ⟨w.heap.size, 0, none⟩ = some v := by rw [cell_of_row _ _ _ _ _ _ hv]; rfl
      have p0f : wr.frozen? ⟨w.heap.size, 0, none⟩ = false := frozen_of_row _ _ _ _ _ hv
      have hwr := lt_of_block hv
      have Hi := Go.Lib.hid hi
      have hnw : v.ownBlock ≠ some w.heap.size := owns_block_ne ho hv (by decide)
      have hmx : k + 1 ≤ maxLen := by unfold maxLen; omega
      have hbs2 : ∀ (A B : Obj), w.heap.size + 1 ≤ ((wr.alloc A).alloc B).drew.heap.size := fun A B => by simp; omega
      have hcl : ∀ (A B : Obj), ((wr.alloc A).alloc B).drew.cell? ⟨w.heap.size, 0, none⟩ = some v := fun A B => by
        show ((wr.alloc A).alloc B).cell? _ = _
        rw [World.cell?_alloc_old _ _ _ (by simp; omega), World.cell?_alloc_old _ _ _ (by simp; omega)]; exact p0
      have hfz : ∀ (A B : Obj), ((wr.alloc A).alloc B).drew.frozen? ⟨w.heap.size, 0, none⟩ = false := fun A B => by
        show ((wr.alloc A).alloc B).frozen? _ = false
        rw [World.frozen?_alloc_old _ _ _ (by simp; omega), World.frozen?_alloc_old _ _ _ (by simp; omega)]; exact p0f
      clear hi e0 e1 hv
      go_wp2
      go_region_law ((refine step_append_mine (by rfl) (.tmp 21) (.tmp 27) 81 (by rfl) (w.heap.size + 1) 89 i0 _ 2 16 Tryd.underlying81 hi0 hz0 hz1 hz2 rfl (by omega) v _ _ (by rfl) (ownsRow_drew ((ho.alloc _).alloc _)) ⟨wr.heap.size + 1, 0, none⟩ 1 1 [.int .i64 op, .int .i64 x] (by rfl) (by rfl) (World.news_of_block (cs := #[.int .i64 op, .int .i64 x]) (t := 89) (fr := (0, 0)) (heap_alloc2_new wr _ _)) (by simp [Value.oneCell']) hmx (by omega) (hbs2 _ _) ?_; intro p1 l1 c1 w1 hown1 hgrow; have cl1 : w1.cell? ⟨w.heap.size, 0, none⟩ = some v := (hgrow.cell_far _ (by simp; omega) (Ne.symm hnw)).trans (hcl _ _); have fz1 : w1.frozen? ⟨w.heap.size, 0, none⟩ = false := (hgrow.frozen_far _ (by simp; omega) (Ne.symm hnw)).trans (hfz _ _)))
      all_goals
        go_wp2
        go_roundg (gk - 1)
        case rel => exact ⟨k + 1, by have := Hg.out; omega, by go_num, Hp.out.step Hi.out Hv.out ho hown1 hgrow⟩
        case measure => have := Hg.out; omega
    · have hke : k = n := by omega
      subst hke
      go_wp2
      go_ret
      exact ⟨rfl, Hp.out⟩
end Go.Proofs.YtkhicabfmkldpaaDoor

namespace Go.Proofs.YtkhicabfmkldpaaDoor
open Go.RowKit

set_option maxRecDepth 100000 in
theorem catch_idle (p : Addr) (w : World) :
    CallsD Tryd.prog 27 #[.pointer (some p)] .returning w fun e u' w' => e = .returned (.tuple #[]) ∧ u' = .returning ∧ w = w' := by
  refine callsD_of_wpS Tryd.func27 rfl fun c₀ cs hu => ?_
  apply wpS_seq
  apply wpS_region
  simp [wpOpsS, go_sem, recoverD, hu, Tryd.ntmps27, Exit.thenS]
  apply wpS_seq
  apply wpS_region
  simp [wpOpsS, go_sem, Exit.thenS]
  refine wpS_cond (t := false) (by simp [Act.eval, Array.replicate]) ?_
  simp only [Bool.false_eq_true, if_false]
  refine wpS_of_wp (wp_skip ?_)
  cases c₀
  simp_all [bodyPostS, results, Tryd.results27]

/-- What is there when Eval begins: a run's state but for the counter and the buffer. -/
structure Pre (R : Rig) (s : St) (w : World) : Prop where
  reader : w.heap[R.rb]? = some (.cells #[.slice R.da R.data.length R.dcap, .int .i64 (s.pos : Int)] 62 (0, 0))
  prog : w.heap[R.pb]? = some (.cells #[.slice (some ⟨R.ib, 0, none⟩) R.ins.length R.icap, .slice none 0 0, .int .i64 0, .int .i64 0] 83 (0, 0))
  notes : ∃ v, w.heap[R.nb]? = some (.cells #[v, .int .i64 (s.fields : Int)] 56 (0, 0)) ∧ w.ownsRow R.base 52 4 v s.notes.length (notesCells s.notes)
  ins : w.heap[R.ib]? = some (.cells R.icells 89 (0, 0))
  data : ∀ k c, R.data[k]? = some c → ∃ b o, R.da = some ⟨b, o, none⟩ ∧ b < R.base ∧ w.cell? ⟨b, o + k, none⟩ = some (.int .u8 c) ∧ 0 ≤ c ∧ c < 256
  pos : s.pos ≤ R.data.length
  eof : w.cell? ⟨0, 0, none⟩ = some (.iface 147 (.pointer (some R.e0)))
  ueof : w.cell? ⟨1, 0, none⟩ = some (.iface 147 (.pointer (some R.e1)))
  fewN : s.notes.length ≤ 4194304
  fewF : s.fields ≤ 4194304
  qb : R.qb = w.heap.size + 1
  bb : R.bb = w.heap.size + 2

/-- The world in which evalInner is called. -/
def evalW (R : Rig) (w : World) : World :=
  (((((w.setCell ⟨R.pb, 2, none⟩ (.int .i64 0)).setCell ⟨R.pb, 3, none⟩ (.int .i64 0)).alloc (.cells #[.nilIface] 64)).alloc (.cells #[.int .i64 0] 3)).alloc (.cells (madeCells #[.int .u8 0] 8) 5))

theorem Pre.inv {R : Rig} {s : St} {w : World} (hR : R.Ok) (h : Pre R s w) : Inv R { s with pc := 0, steps := 0, depth := 0 } (evalW R w) := by
  have hz : ((w.setCell ⟨R.pb, 2, none⟩ (.int .i64 0)).setCell ⟨R.pb, 3, none⟩ (.int .i64 0)).heap.size = w.heap.size := by simp
  have o1 : ∀ {b : Nat} {o : Obj}, b ≠ R.pb → w.heap[b]? = some o → (evalW R w).heap[b]? = some o := fun hb ho => by
    have hl := lt_of_block ho
    unfold evalW
    rw [Below.heap_alloc _ _ _ (by simp; omega), Below.heap_alloc _ _ _ (by simp; omega), Below.heap_alloc _ _ _ (by simp; omega), Below.heap_setCell _ _ _ _ hb, Below.heap_setCell _ _ _ _ hb]
    exact ho
  have hp : (evalW R w).heap[R.pb]? = some (.cells #[.slice (some ⟨R.ib, 0, none⟩) R.ins.length R.icap, .slice none 0 0, .int .i64 0, .int .i64 0] 83 (0, 0)) := by
    have hl := lt_of_block h.prog
    unfold evalW
    rw [Below.heap_alloc _ _ _ (by simp; omega), Below.heap_alloc _ _ _ (by simp; omega), Below.heap_alloc _ _ _ (by simp; omega), blk_set _ (blk_set _ h.prog)]
    rfl
  have hbase : R.base ≤ w.heap.size := by have := lt_of_block h.reader; have := hR.r; omega
  have hbl : Below R.base w (evalW R w) := by
    unfold evalW
    refine ((((Below.refl _ _).setCell (p := ⟨R.pb, 2, none⟩) hR.p _).setCell (p := ⟨R.pb, 3, none⟩) hR.p _).alloc (by simp; omega) _).alloc (by simp; omega) _ |>.alloc (by simp; omega) _
  refine ⟨o1 hR.rp h.reader, hp, ?_, ?_, ?_, o1 (Ne.symm hR.pi) h.ins, ?_, h.pos, ?_, ?_, h.fewN, Nat.zero_le _, Nat.zero_le _, h.fewF⟩
  · rw [h.qb]
    unfold evalW
    rw [Below.heap_alloc _ _ _ (by simp)]
    have := heap_alloc2_new ((w.setCell ⟨R.pb, 2, none⟩ (.int .i64 0)).setCell ⟨R.pb, 3, none⟩ (.int .i64 0)) (.cells #[.nilIface] 64) (.cells #[.int .i64 0] 3)
    rwa [hz] at this
  · obtain ⟨v, h1, h2⟩ := h.notes
    refine ⟨v, o1 (Ne.symm hR.pn) h1, h2.1, ?_⟩
    rcases h2.2 with h4 | ⟨g, cap, cur, e, hg, hh, r⟩
    · exact .inl h4
    · exact .inr ⟨g, cap, cur, e, hg, o1 (by rintro rfl; rw [h.prog] at hh; cases hh) hh, r⟩
  · refine ⟨madeCells #[.int .u8 0] 8, size_madeCells _ _, ?_⟩
    rw [h.bb]
    unfold evalW
    have := heap_alloc_new ((((w.setCell ⟨R.pb, 2, none⟩ (.int .i64 0)).setCell ⟨R.pb, 3, none⟩ (.int .i64 0)).alloc (.cells #[.nilIface] 64)).alloc (.cells #[.int .i64 0] 3)) (.cells (madeCells #[.int .u8 0] 8) 5)
    simpa using this
  · intro i c hc
    obtain ⟨b, o, h1, h2, h3, h4⟩ := h.data i c hc
    exact ⟨b, o, h1, h2, by rw [hbl.cell (p := ⟨b, o + i, none⟩) h2]; exact h3, h4⟩
  · have := hR.two; rw [hbl.cell (p := ⟨0, 0, none⟩) (by show 0 < _; omega)]; exact h.eof
  · have := hR.two; rw [hbl.cell (p := ⟨1, 0, none⟩) (by show 1 < _; omega)]; exact h.ueof

theorem Pre.keeps {R : Rig} {s : St} {w : World} (hR : R.Ok) (h : Pre R s w) : Keeps R w (evalW R w) := by
  have hbase : R.base ≤ w.heap.size := by have := lt_of_block h.reader; have := hR.r; omega
  unfold evalW
  exact ((((((Keeps.refl R w).setCell (p := ⟨R.pb, 2, none⟩) hR.p (.inl (by simp [Rig.own])) _).setCell (p := ⟨R.pb, 3, none⟩) hR.p (.inl (by simp [Rig.own])) _).alloc (by simp; omega) _).alloc (by simp; omega) _).alloc (by simp; omega) _)

/-- What Eval ends in. -/
def EvalEnd (R : Rig) (res : Res) (w : World) (e : Ending) (w' : World) : Prop :=
  match res with
  | .ok _ s2 => e = .returned .nilIface ∧ Inv R s2.up w' ∧ Keeps R w w'
  | .err s2 => ∃ p ev, e = .returned ev ∧ IsErr R w' ev ∧ Inv R { s2.up with pos := p } w' ∧ Keeps R w w'

theorem eval_cell {R : Rig} {s : St} {w w2 : World} (_hR : R.Ok) (h : Pre R s w) (k : Keeps R (evalW R w) w2) : w2.heap[w.heap.size]? = some (.cells #[.nilIface] 64 (0, 0)) := by
  have l1 := lt_of_block h.reader
  have l2 := lt_of_block h.prog
  obtain ⟨v, h1, _⟩ := h.notes
  have l3 := lt_of_block h1
  refine k.keep _ _ ?_ ?_ rfl
  · unfold evalW
    rw [Below.heap_alloc _ _ _ (by simp; omega), Below.heap_alloc _ _ _ (by simp)]
    have := heap_alloc_new ((w.setCell ⟨R.pb, 2, none⟩ (.int .i64 0)).setCell ⟨R.pb, 3, none⟩ (.int .i64 0)) (.cells #[.nilIface] 64)
    simpa using this
  · have := h.qb
    have := h.bb
    unfold Rig.own
    omega

theorem eval_sets {R : Rig} {s s2 : St} {w w2 : World} (hR : R.Ok) (h : Pre R s w) (k : Keeps R (evalW R w) w2) (i : Inv R s2 w2) (u v : Value) :
    Inv R s2 ((w2.setCell ⟨w.heap.size, 0, none⟩ u).setCell ⟨w.heap.size, 0, none⟩ v) ∧ Keeps R w ((w2.setCell ⟨w.heap.size, 0, none⟩ u).setCell ⟨w.heap.size, 0, none⟩ v) := by
  have hc := eval_cell hR h k
  have l1 := lt_of_block h.reader
  have l2 := lt_of_block h.prog
  obtain ⟨_, h1, _⟩ := h.notes
  have l3 := lt_of_block h1
  have l4 := lt_of_block h.ins
  have hb : R.base ≤ w.heap.size := by have := hR.r; omega
  have ho : ¬ R.own w.heap.size := by
    have := h.qb
    have := h.bb
    unfold Rig.own
    omega
  have kk := (h.keeps hR).trans k
  refine ⟨?_, (kk.setCell (p := ⟨w.heap.size, 0, none⟩) hb (.inr (Nat.le_refl _)) u).setCell (p := ⟨w.heap.size, 0, none⟩) hb (.inr (Nat.le_refl _)) v⟩
  refine Inv.setOther hR (p := ⟨w.heap.size, 0, none⟩) (Inv.setOther hR (p := ⟨w.heap.size, 0, none⟩) i ?_ hb ho (show w.heap.size ≠ R.ib by omega) u) ?_ hb ho (show w.heap.size ≠ R.ib by omega) v
  · rintro b o hbo rfl
    rw [hc] at hbo
    cases hbo
    rfl
  · rintro b o hbo rfl
    rw [show (w2.setCell ⟨w.heap.size, 0, none⟩ u).heap[w.heap.size]? = _ from blk_set _ hc] at hbo
    cases hbo
    rfl

theorem IsErr.sets {R : Rig} {w : World} {E : Nat} {x : Value} (h : IsErr R w x) (hc : w.heap[E]? = some (.cells #[.nilIface] 64 (0, 0))) (u v : Value) :
    IsErr R ((w.setCell ⟨E, 0, none⟩ u).setCell ⟨E, 0, none⟩ v) x := by
  rcases h with h | h | ⟨b, s, e, h1, h2, h3⟩
  · exact .inl h
  · exact .inr (.inl h)
  · refine .inr (.inr ⟨b, s, e, h1, h2, ?_⟩)
    have hne : b ≠ E := by rintro rfl; rw [hc] at h3; cases h3
    rw [Below.heap_setCell _ _ _ _ hne, Below.heap_setCell _ _ _ _ hne]
    exact h3

set_option maxRecDepth 1000000 in
set_option maxHeartbeats 8000000 in
theorem eval_any {R : Rig} {s : St} {w : World} {n : Nat} {res : Res} (hR : R.Ok) (h : Pre R s w) (hn : n ≤ 900000)
    (hev : evalL R.data R.ins n 0 Regs.zero false { s with pc := 0, steps := 0, depth := 1 } = some res) :
    Calls Tryd.prog 16 #[.iface 60 (.pointer (some ⟨R.rb, 0, none⟩)), .pointer (some ⟨R.pb, 0, none⟩), .iface 69 (.agg #[.pointer (some ⟨R.nb, 0, none⟩), .int .i64 0])] w (EvalEnd R res w) := by
  have C := evalCall_all n hn R { s with pc := 0, steps := 0, depth := 0 } (evalW R w) 0 res hR (h.inv hR) (by show 0 < 10000; omega) hev
  rw [h.qb, h.bb] at C
  have hmf : ∀ (fn : Fn) (first cap : Array Value) (w : World), (Instr.makeFunc fn first cap).run Tryd.prog w = .ok (.func fn first cap) w := fun _ _ _ _ => rfl
  have hmk : ∀ w : World, (Instr.makeSlice 22 (.int .i64 8) (.int .i64 8)).run Tryd.prog w = .ok (.slice (some ⟨w.heap.size, 0, none⟩) 8 8) (w.alloc (.cells (madeCells #[.int .u8 0] 8) 5)) :=
    fun w => run_make_row' (P := Tryd.prog) 22 5 (.int .u8 0) 1 Tryd.underlying22 info5 rfl .i64 .i64 8 (by omega) (by omega) w
  have p2 : w.cell? ⟨R.pb, 2, none⟩ = some (.int .i64 0) := by rw [cell_of_row _ _ _ _ _ _ h.prog]; rfl
  have p3 : w.cell? ⟨R.pb, 3, none⟩ = some (.int .i64 0) := by rw [cell_of_row _ _ _ _ _ _ h.prog]; rfl
  have pf : ∀ i, w.frozen? ⟨R.pb, i, none⟩ = false := fun i => frozen_of_row _ _ _ _ _ h.prog
  have pf2 := pf 2
  have pf3 := pf 3
  have hpz := lt_of_block h.prog
  have Hp := Go.Lib.hid h
  have HC := Go.Lib.hid C
  clear h C hev pf
  go_enter_defers Tryd.func16, Tryd.ntmps16
  go_wp2_with fail
  refine Calls.mono (HC.out) ?_
  have hcell : ∀ {w2 : World}, Keeps R (evalW R w) w2 → w2.heap[w.heap.size]? = some (.cells #[.nilIface] 64 (0, 0)) := fun k => eval_cell hR Hp.out k
  have hsets : ∀ {w2 : World} {s2 : St} (u v : Value), Keeps R (evalW R w) w2 → Inv R s2 w2 → _ := fun u v k i => eval_sets hR Hp.out k i u v
  cases res with
  | ok nl s2 =>
    rintro e w2 ⟨rfl, i2, k2⟩
    have c2 := hcell k2
    have g2 : w2.cell? ⟨w.heap.size, 0, none⟩ = some .nilIface := by rw [cell_of_row _ _ _ _ _ _ c2]; rfl
    have f2 : w2.frozen? ⟨w.heap.size, 0, none⟩ = false := frozen_of_row _ _ _ _ _ c2
    have S2 := Go.Lib.hid (hsets .nilIface .nilIface k2 i2)
    have C2 := Go.Lib.hid c2
    clear HC c2 i2 k2 hcell hsets hmf hmk
    go_wp2_with fail
    have g3 : ((w2.setCell ⟨w.heap.size, 0, none⟩ .nilIface).setCell ⟨w.heap.size, 0, none⟩ .nilIface).cell? ⟨w.heap.size, 0, none⟩ = some .nilIface := by
      have c3 : (w2.setCell ⟨w.heap.size, 0, none⟩ .nilIface).heap[w.heap.size]? = some (.cells #[.nilIface] 64 (0, 0)) := blk_set _ C2.out
      have c4 : ((w2.setCell ⟨w.heap.size, 0, none⟩ .nilIface).setCell ⟨w.heap.size, 0, none⟩ .nilIface).heap[w.heap.size]? = some (.cells #[.nilIface] 64 (0, 0)) := blk_set _ c3
      rw [cell_of_row _ _ _ _ _ _ c4]; rfl
    refine leaves_cons (f := 27) (args := #[.pointer (some ⟨w.heap.size, 0, none⟩)]) (by simp) (by simp [go_sem]) ?_
    refine (catch_idle _ _).mono ?_
    rintro e u' w'' ⟨rfl, rfl, rfl⟩
    refine ⟨_, ?_, ⟨rfl, S2.out.1, S2.out.2⟩⟩
    simp [results, Tryd.f16, go_sem, g3]
    done
  | err s2 =>
    rintro e w2 ⟨p, ev, rfl, he, i2, k2⟩
    obtain ⟨et, ex, rfl⟩ := he.form
    have c2 := hcell k2
    have g2 : w2.cell? ⟨w.heap.size, 0, none⟩ = some .nilIface := by rw [cell_of_row _ _ _ _ _ _ c2]; rfl
    have f2 : w2.frozen? ⟨w.heap.size, 0, none⟩ = false := frozen_of_row _ _ _ _ _ c2
    have S2 := Go.Lib.hid (hsets (.iface et ex) (.iface et ex) k2 i2)
    have He := Go.Lib.hid he
    have C2 := Go.Lib.hid c2
    clear HC c2 i2 k2 hcell hsets hmf hmk he
    go_wp2_with fail
    have g3 : ((w2.setCell ⟨w.heap.size, 0, none⟩ (.iface et ex)).setCell ⟨w.heap.size, 0, none⟩ (.iface et ex)).cell? ⟨w.heap.size, 0, none⟩ = some (.iface et ex) := by
      have c3 : (w2.setCell ⟨w.heap.size, 0, none⟩ (.iface et ex)).heap[w.heap.size]? = some (.cells #[(.iface et ex)] 64 (0, 0)) := blk_set _ C2.out
      have c4 : ((w2.setCell ⟨w.heap.size, 0, none⟩ (.iface et ex)).setCell ⟨w.heap.size, 0, none⟩ (.iface et ex)).heap[w.heap.size]? = some (.cells #[(.iface et ex)] 64 (0, 0)) := blk_set _ c3
      rw [cell_of_row _ _ _ _ _ _ c4]; rfl
    refine leaves_cons (f := 27) (args := #[.pointer (some ⟨w.heap.size, 0, none⟩)]) (by simp) (by simp [go_sem]) ?_
    refine (catch_idle _ _).mono ?_
    rintro e u' w'' ⟨rfl, rfl, rfl⟩
    refine ⟨.iface et ex, ?_, ⟨p, .iface et ex, rfl, He.out.sets C2.out _ _, S2.out.1, S2.out.2⟩⟩
    simp [results, Tryd.f16, go_sem, g3]
    done
end Go.Proofs.YtkhicabfmkldpaaDoor

namespace Go.Proofs.YtkhicabfmkldpaaDoor
open Go.RowKit

/-- The package's errors are there. -/
structure Env (base : Nat) (e0 e1 : Addr) (w : World) : Prop where
  two : 2 ≤ base
  size : base ≤ w.heap.size
  eof : w.cell? ⟨0, 0, none⟩ = some (.iface 147 (.pointer (some e0)))
  ueof : w.cell? ⟨1, 0, none⟩ = some (.iface 147 (.pointer (some e1)))
  b0 : ∃ c t, w.heap[e0.block]? = some (.cells c t (0, 0))
  b1 : ∃ c t, w.heap[e1.block]? = some (.cells c t (0, 0))
  l0 : e0.block < base
  l1 : e1.block < base

theorem Env.below {base : Nat} {e0 e1 : Addr} {w w' : World} (h : Env base e0 e1 w) (hb : Below base w w') : Env base e0 e1 w' := by
  have := h.two
  have hs := hb.size
  have hz := h.size
  refine ⟨h.two, by omega, ?_, ?_, ?_, ?_, h.l0, h.l1⟩
  · rw [hb.cell (p := ⟨0, 0, none⟩) (by show 0 < base; omega)]; exact h.eof
  · rw [hb.cell (p := ⟨1, 0, none⟩) (by show 1 < base; omega)]; exact h.ueof
  · obtain ⟨c, t, h0⟩ := h.b0; exact ⟨c, t, by rw [hb.block _ h.l0]; exact h0⟩
  · obtain ⟨c, t, h0⟩ := h.b1; exact ⟨c, t, by rw [hb.block _ h.l1]; exact h0⟩

theorem Env.mono {b b' : Nat} {e0 e1 : Addr} {w : World} (h : Env b e0 e1 w) (hb : b ≤ b') (hs : b' ≤ w.heap.size) : Env b' e0 e1 w :=
  ⟨Nat.le_trans h.two hb, hs, h.eof, h.ueof, h.b0, h.b1, Nat.lt_of_lt_of_le h.l0 hb, Nat.lt_of_lt_of_le h.l1 hb⟩

/-- So many bytes are there. -/
structure DataAt (base : Nat) (da : Option Addr) (dcap : Nat) (data : List Int) (w : World) : Prop where
  at' : ∀ k c, data[k]? = some c → ∃ b o, da = some ⟨b, o, none⟩ ∧ b < base ∧ w.cell? ⟨b, o + k, none⟩ = some (.int .u8 c) ∧ 0 ≤ c ∧ c < 256
  few : data.length ≤ 1000
  cap : data.length ≤ dcap

theorem DataAt.below {base : Nat} {da : Option Addr} {dcap : Nat} {data : List Int} {w w' : World} (h : DataAt base da dcap data w) (hb : Below base w w') : DataAt base da dcap data w' :=
  ⟨fun k c hk => by
    obtain ⟨b, o, h1, h2, h3, h4⟩ := h.at' k c hk
    exact ⟨b, o, h1, h2, by rw [hb.cell (p := ⟨b, o + k, none⟩) h2]; exact h3, h4⟩, h.few, h.cap⟩

theorem DataAt.mono {b b' : Nat} {da : Option Addr} {dcap : Nat} {data : List Int} {w : World} (h : DataAt b da dcap data w) (hb : b ≤ b') : DataAt b' da dcap data w :=
  ⟨fun k c hk => by
    obtain ⟨b, o, h1, h2, h3, h4⟩ := h.at' k c hk
    exact ⟨b, o, h1, by omega, h3, h4⟩, h.few, h.cap⟩

/-- The world in which the program is copied. -/
def runW (d : Value) (w : World) : World :=
  ((w.alloc (.cells #[.slice none 0 0, .int .i64 0] 56)).alloc (.cells #[d, .int .i64 0] 59)).alloc (.cells #[d, .int .i64 0] 62)

theorem pre_run {w w2 : World} {n : Nat} {ins : List (Int × Int)} {da : Option Addr} {dcap : Nat} {data : List Int} {e0 e1 : Addr} (he : Env w.heap.size e0 e1 w) (hd : DataAt w.heap.size da dcap data w)
    (hn : ins.length = n) (hn0 : 0 < n) (hn2 : n ≤ 100000) (hp : ProgAt (runW (.slice da data.length dcap) w) ins n w2) :
    ∃ R : Rig, R.rb = w.heap.size + 2 ∧ R.pb = w.heap.size + 3 ∧ R.nb = w.heap.size ∧ R.base = w.heap.size ∧ R.data = data ∧ R.ins = ins ∧ R.e0 = e0 ∧ R.e1 = e1 ∧ R.Ok ∧
      Pre R ⟨0, 0, [], 0, 0, 0⟩ w2 ∧ Below w.heap.size w w2 := by
  have hz : (runW (.slice da data.length dcap) w).heap.size = w.heap.size + 3 := by simp [runW]
  have hb0 : Below w.heap.size w (runW (.slice da data.length dcap) w) := by
    unfold runW
    exact (((Below.refl _ _).alloc (Nat.le_refl _) _).alloc (by simp) _).alloc (by simp; omega) _
  have hb : Below w.heap.size w w2 := hb0.trans (hp.below.mono (by omega))
  obtain ⟨v, hv, ho⟩ := hp.row
  rw [hz] at hv ho
  have hlen := ho.1
  rcases ho.2 with ⟨_, hn⟩ | ⟨g, cap, cur, rfl, hg, hh, hc1, hc2, hc3, hc4⟩
  · omega
  have he2 := he.below hb
  have hd2 := hd.below hb
  have k2 : ∀ i, i < w.heap.size + 3 → w2.heap[i]? = (runW (.slice da data.length dcap) w).heap[i]? := fun i hi => hp.below.block i (by omega)
  have hlt := lt_of_block hv
  have hgl := lt_of_block hh
  refine ⟨⟨w.heap.size, w.heap.size + 2, w.heap.size + 3, w2.heap.size + 1, w.heap.size, w2.heap.size + 2, g, da, dcap, data, cap, cur, ins, e0, e1⟩, rfl, rfl, rfl, rfl, rfl, rfl, rfl, rfl, ?_, ?_, hb⟩
  · have := he.two
    refine ⟨?_, ?_, ?_, ?_, ?_, ?_, ?_, ?_, ?_, ?_, ?_, ?_, ?_, ?_, ?_, ?_, ?_, ?_, ?_, ?_, ?_, he.two, he.l0, he.l1, hd.few, hd.cap, by show ins.length ≤ _; omega, ?_⟩ <;> dsimp only <;> try omega
    intro k op x hk
    have hk1 : k < ins.length := (List.getElem?_eq_some_iff.1 hk).1
    obtain ⟨c0, c1⟩ := insCells_get ins k op x hk
    have hti : ins.take n = ins := List.take_of_length_le (by omega)
    rw [hti] at hc4
    rw [← hc4] at c0 c1
    simp only [List.getElem?_take, Array.getElem?_toList] at c0 c1
    exact ⟨by simpa [show k * 2 < n * 2 by omega] using c0, by simpa [show k * 2 + 1 < n * 2 by omega] using c1⟩
  · refine ⟨?_, ?_, ⟨.slice none 0 0, ?_, World.ownsRow_nil _ _ _ _⟩, hh, ?_, Nat.zero_le _, he2.eof, he2.ueof, Nat.zero_le _, Nat.zero_le _, rfl, rfl⟩
    · show w2.heap[w.heap.size + 2]? = _
      rw [k2 _ (by omega)]
      unfold runW
      have := heap_alloc_new ((w.alloc (.cells #[.slice none 0 0, .int .i64 0] 56)).alloc (.cells #[.slice da data.length dcap, .int .i64 0] 59)) (.cells #[.slice da data.length dcap, .int .i64 0] 62)
      simpa using this
    · rw [hn]; exact hv
    · show w2.heap[w.heap.size]? = _
      rw [k2 _ (by omega)]
      unfold runW
      rw [Below.heap_alloc _ _ _ (by simp; omega), Below.heap_alloc _ _ _ (by simp)]
      exact heap_alloc_new _ _
    · exact hd2.at'

/-- What a run answers. -/
def RunPost (B : Nat) (data : List Int) (res : Res) (w : World) (e : Ending) (w' : World) : Prop :=
  ∃ v left t ok s2, e = .returned (.tuple #[v, .int .i64 left, .string t, .bool ok]) ∧ Below B w w' ∧ B ≤ w'.heap.size ∧ w'.ownsRow B 52 4 v s2.notes.length (notesCells s2.notes) ∧ s2.notes.length ≤ 4194304 ∧
    match res with
    | .ok _ s => s2 = s ∧ ok = true ∧ left = (data.length : Int) - s.pos ∧ t = ⟨#[]⟩
    | .err s => s2 = s ∧ ok = false

theorem results_tmp4 {fn : Func} {t u v x : Tmp} (h : fn.results = #[.tmp t, .tmp u, .tmp v, .tmp x]) (tmps : Array Value) (P : Program) (w : World) :
    (results fn tmps).run P w = .ok (.tuple #[tmps.getD t undef, tmps.getD u undef, tmps.getD v undef, tmps.getD x undef]) w := by
  simp [results, h]

theorem Below.drewN_r {b : Nat} {w w' : World} (h : Below b w w') (n : Nat) : Below b w (w'.drewN n) := ⟨h.os, h.tape, h.output, h.size, h.block⟩

set_option maxRecDepth 1000000 in
set_option maxHeartbeats 8000000 in
theorem vmrun_any (ab n c : Nat) (ins : List (Int × Int)) (da : Option Addr) (dcap : Nat) (data : List Int) (e0 e1 : Addr) (w : World) (fuel : Nat) (res : Res) (he : Env w.heap.size e0 e1 w)
    (hd : DataAt w.heap.size da dcap data w) (hn : ins.length = n) (hn0 : 0 < n) (hn2 : n ≤ 100000) (hc : n ≤ c)
    (hcell : ∀ (k : Nat) (op x : Int), ins[k]? = some (op, x) → w.cell? ⟨ab, k * 2, none⟩ = some (.int .i64 op) ∧ w.cell? ⟨ab, k * 2 + 1, none⟩ = some (.int .i64 x)) (hab : ab < w.heap.size)
    (hf : fuel ≤ 900000) (hev : evalL data ins fuel 0 Regs.zero false ⟨0, 0, [], 0, 0, 1⟩ = some res) :
    Calls Tryd.prog 11 #[.slice (some ⟨ab, 0, none⟩) n c, .slice none 0 0, .slice da data.length dcap, .bool false] w (RunPost w.heap.size data res w) := by
  have HP : Calls Tryd.prog 17 #[.slice (some ⟨ab, 0, none⟩) n c, .slice none 0 0] (runW (.slice da data.length dcap) w) _ := program_any ab n c ins (runW (.slice da data.length dcap) w) hn hn2 hc
    (fun k op x hk => by
      obtain ⟨h1, h2⟩ := hcell k op x hk
      unfold runW
      rw [World.cell?_alloc_old _ _ _ (by simp; omega), World.cell?_alloc_old _ _ _ (by simp; omega), World.cell?_alloc_old _ _ _ (Nat.ne_of_lt hab), World.cell?_alloc_old _ _ _ (by simp; omega), World.cell?_alloc_old _ _ _ (by simp; omega), World.cell?_alloc_old _ _ _ (Nat.ne_of_lt hab)]
      exact ⟨h1, h2⟩) (by simp [runW]; omega)
  have H := Go.Lib.hid (And.intro he (And.intro hd (And.intro hn (And.intro hn0 (And.intro hn2 hev)))))
  have HP' := Go.Lib.hid HP
  clear he hd hn hcell hev HP
  go_enter Tryd.func11, Tryd.ntmps11
  cases res with
  | ok nl s2 =>
    go_wp2_with (first
      | (go_at_call 17
         refine (HP'.out).mono ?_
         rintro e2 w2 ⟨rfl, hp⟩
         obtain ⟨R, hrb, hpb, hnb, hbase, hdata, hins, re0, re1, hR, hpre, hbw⟩ := pre_run H.out.1 H.out.2.1 H.out.2.2.1 H.out.2.2.2.1 H.out.2.2.2.2.1 hp
         have hpb' : R.pb = (runW (.slice da data.length dcap) w).heap.size := by rw [hpb]; simp [runW]
         have E := eval_any hR hpre hf (by rw [hdata, hins]; exact H.out.2.2.2.2.2)
         rw [hrb, hpb', hnb] at E
         have E' := Go.Lib.hid E
         have Pre' := Go.Lib.hid hpre
         have W' := Go.Lib.hid hbw
         clear E hpre hp hbw)
      | (go_at_call 16
         refine (E'.out).mono ?_
         rintro e3 w3 ⟨rfl, i3, k3⟩
         have L := left_any i3 hR.few
         rw [hrb, hdata] at L
         have L' := Go.Lib.hid L
         clear L E')
      | (go_at_call 18
         refine (L'.out).mono ?_
         rintro e4 w4 ⟨rfl, i4, k4⟩))
    obtain ⟨v, n1, n2⟩ := i4.notes
    have hbl : Below w.heap.size w w4 := by
      have := (k3.trans k4).below
      rw [hbase] at this
      exact (W'.out).trans this
    rw [hnb] at n1
    rw [hbase] at n2
    have c0 : w4.cell? ⟨w.heap.size, 0, none⟩ = some v := by rw [cell_of_row _ _ _ _ _ _ n1]; rfl
    have hsz := lt_of_block n1
    have F := Go.Lib.hid (And.intro hbl (And.intro n2 (And.intro i4.fewN (Nat.le_of_lt hsz))))
    clear n2 i4 i3 n1 hbl
    go_region_with (go_at_call 19; refine (fault_nil _).mono ?_; rintro e5 w5 ⟨rfl, rfl⟩)
    all_goals go_wp2_with fail
    all_goals
      refine bodyPost_ret (results_tmp4 rfl _ _ _) rfl ?_
      exact ⟨v, _, _, _, s2, rfl, Below.drewN_r F.out.1 1, F.out.2.2.2, ownsRow_drew F.out.2.1, F.out.2.2.1, rfl, rfl, rfl, rfl⟩
  | err s2 =>
    go_wp2_with (first
      | (go_at_call 17
         refine (HP'.out).mono ?_
         rintro e2 w2 ⟨rfl, hp⟩
         obtain ⟨R, hrb, hpb, hnb, hbase, hdata, hins, re0, re1, hR, hpre, hbw⟩ := pre_run H.out.1 H.out.2.1 H.out.2.2.1 H.out.2.2.2.1 H.out.2.2.2.2.1 hp
         have hpb' : R.pb = (runW (.slice da data.length dcap) w).heap.size := by rw [hpb]; simp [runW]
         have E := eval_any hR hpre hf (by rw [hdata, hins]; exact H.out.2.2.2.2.2)
         rw [hrb, hpb', hnb] at E
         have E' := Go.Lib.hid E
         have Pre' := Go.Lib.hid hpre
         have W' := Go.Lib.hid hbw
         clear E hpre hp hbw)
      | (go_at_call 16
         refine (E'.out).mono ?_
         rintro e3 w3 ⟨p, ev, rfl, he3, i3, k3⟩
         obtain ⟨et, ex, rfl⟩ := he3.form
         have L := left_any i3 hR.few
         rw [hrb, hdata] at L
         have L' := Go.Lib.hid L
         clear L E')
      | (go_at_call 18
         refine (L'.out).mono ?_
         rintro e4 w4 ⟨rfl, i4, k4⟩))
    obtain ⟨v, n1, n2⟩ := i4.notes
    have hbl : Below w.heap.size w w4 := by
      have := (k3.trans k4).below
      rw [hbase] at this
      exact (W'.out).trans this
    rw [hnb] at n1
    rw [hbase] at n2
    have c0 : w4.cell? ⟨w.heap.size, 0, none⟩ = some v := by rw [cell_of_row _ _ _ _ _ _ n1]; rfl
    have hsz := lt_of_block n1
    have F := Go.Lib.hid (And.intro hbl (And.intro n2 (And.intro i4.fewN (Nat.le_of_lt hsz))))
    have he4 := he3.keep k4
    have hE := (H.out.1).below hbl
    obtain ⟨q0, u0, hq0⟩ := hE.b0
    obtain ⟨q1, u1, hq1⟩ := hE.b1
    rw [← re0] at hq0
    rw [← re1] at hq1
    have FE := Go.Lib.hid (And.intro i4 (And.intro he4 (And.intro hq0 hq1)))
    clear n2 i4 i3 n1 hbl he3 he4 hE hq0 hq1
    go_region_with (go_at_call 19; refine (fault_err (FE.out.1.drewN 1) (FE.out.2.1) (FE.out.2.2.1) (FE.out.2.2.2)).mono ?_; rintro e5 w5 ⟨tx, rfl, rfl⟩)
    all_goals go_wp2_with fail
    all_goals
      refine bodyPost_ret (results_tmp4 rfl _ _ _) rfl ?_
      exact ⟨v, _, _, _, s2, rfl, Below.drewN_r F.out.1 1, F.out.2.2.2, ownsRow_drew F.out.2.1, F.out.2.2.1, rfl, rfl⟩
end Go.Proofs.YtkhicabfmkldpaaDoor
