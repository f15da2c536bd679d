/- The law, walked. -/
import Derived.Test.YtkhicabfmkldpaaDoorFn
namespace Go.Proofs.YtkhicabfmkldpaaDoor
open Go.RowKit

def CutD (w : World) (ca : Option Addr) (l cap : Nat) (s8 s9 : Value) (wx : World) : Prop := ∃ pb ma mb, s8 = .pointer (some ⟨pb, 0, none⟩) ∧ s9 = .pointer (some ⟨mb, 0, none⟩) ∧ Laid w ca l cap pb ma mb wx

theorem GKeep.toBelow {B mb N : Nat} {w w' : World} (h : GKeep B mb w w') (hB : N ≤ B) (hm : N ≤ mb) (hs : N ≤ w.heap.size) : Below N w w' :=
  ⟨h.os, h.tape, h.output, h.size, fun i hi => by
    obtain ⟨o, ho⟩ : ∃ o, w.heap[i]? = some o := ⟨_, Array.getElem?_eq_getElem (show i < w.heap.size by omega)⟩
    rw [ho]
    exact h.keep i o ho (by omega) (.inl (by omega))⟩

theorem call6 (a : Value) : ∀ w : World, (callFunc 6 #[a]).run Tryd.prog w = .ok (.enter 6 #[a]) w := fun _ => by kernel_rfl

/-- The loop with the body that the closure makes. -/
theorem loop_a {D B ma pb : Nat} {code : List Int} {n : Nat} {base : Int} {w : World} (h : GenAt D B ma code ([] ++ [(15, (n : Int))]) base w) (hp : w.heap[pb]? = some (.cells #[.pointer (some ⟨ma, 0, none⟩)] 23 (0, 0))) (hpm : pb ≠ ma) :
    Calls Tryd.prog 5 #[.pointer (some ⟨ma, 0, none⟩), .func (.func 6) #[] #[.pointer (some ⟨pb, 0, none⟩)]] w (GPost D B ma (body1 (code, [])).1 (progA n (body1 (code, [])).2) 4 (.tuple #[]) w) := by
  have hl : (body1 (code, [])).2.length ≤ 268 := by
    obtain ⟨ys, h1, h2, _, _⟩ := ok_body1 (data := []) (code, [])
    rw [h1]; simpa using h2
  refine loop_any (ys := (body1 (code, [])).2.map (reloc 4)) h (by simp) (by simp; omega) 6 #[.pointer (some ⟨pb, 0, none⟩)] (call6 _) (fun w1 g1 k1 => ?_)
  refine (clo6 g1 (by simp) (k1.keep _ _ hp hpm (.inr rfl))).mono ?_
  rintro e w2 ⟨rfl, g2, k2⟩
  exact ⟨rfl, g2, k2⟩

/-- The other maker behind the first one's work. -/
theorem L_b {w wc w3 : World} {ca : Option Addr} {cc : Nat} {cl : List Int} {pb ma mb : Nat} (h : Laid w ca (cl.take 60).length cc pb ma mb wc) (k : GKeep w.heap.size ma wc w3) (hc : ArgAt w ca cc cl) :
    GenAt w.heap.size w3.heap.size mb (cl.take 60) [] 0 w3 ∧ Below w.heap.size w w3 := by
  have hb : Below w.heap.size w w3 := h.below.trans (k.toBelow (Nat.le_refl _) h.na h.below.size)
  exact ⟨⟨⟨_, _, k.keep _ _ h.b (Ne.symm h.ab) (.inr rfl), ⟨ca, cc, rfl, hc.data hb 60 (by omega)⟩, World.ownsRow_nil _ _ _ _⟩, h.nb, hb.size, Nat.le_refl _⟩, hb⟩

theorem body1_of {D B mb : Nat} {code : List Int} {ins : List (Int × Int)} {base : Int} {w : World} (h : GenAt D B mb code ins base w) (hb : base = (ins.length : Int)) (hl : ins.length ≤ 100) :
    Calls Tryd.prog 7 #[.pointer (some ⟨mb, 0, none⟩), .int .i64 1] w (GPost D B mb (body1 (code, [])).1 (abs ins (body1 (code, [])).2) (ins.length : Int) (.tuple #[]) w) := by
  subst hb
  exact body1_at h hl

theorem body_good (data : List Int) (code : List Int) : Good data (fun ins p => Has ins p 0 (body1 (code, [])).2) 2400 2 0 (body1 (code, [])).2.length ∧ (body1 (code, [])).2.length ≤ 268 ∧ ∀ r ∈ (body1 (code, [])).2, r.op ≠ 8 := by
  obtain ⟨ys, h1, h2, h3, h4⟩ := ok_body1 (data := data) (code, [])
  have e : (body1 (code, [])).2 = ys := by rw [h1]; rfl
  rw [e]
  have g := h4 (by simp)
  rw [show (([] : List Int), ([] : List RI)).2.length + ys.length = ys.length by simp] at g
  exact ⟨g, h2, h3⟩

theorem progB_calls {n : Nat} (hn : n ≤ 5) {ys : List RI} (hy : ∀ r ∈ ys, r.op ≠ 8) : ∀ (k : Nat) (x : Int), (progB n ys)[k]? = some (8, x) → 0 ≤ x ∧ x ≤ 1000000 := by
  intro k x hk
  have hm := List.mem_of_getElem? hk
  unfold progB abs preB at hm
  simp only [List.mem_append, List.mem_replicate, List.mem_map, List.mem_cons, List.not_mem_nil, or_false, Prod.mk.injEq] at hm
  rcases hm with ((⟨_, _, h⟩ | ⟨h, _⟩) | ⟨r, hr, h⟩) | ⟨h, _⟩
  · omega
  · omega
  · have := hy r hr
    unfold reloc at h
    exact absurd (congrArg Prod.fst h) this
  · omega

/-- Both makers' work, and all that was there. -/
structure Made (w : World) (pb ma mb n : Nat) (ys : List RI) (w7 : World) : Prop where
  box : w7.heap[pb]? = some (.cells #[.pointer (some ⟨ma, 0, none⟩)] 23 (0, 0))
  a : InsAt ma (progA n ys) w7
  b : InsAt mb (progB n ys) w7
  below : Below w.heap.size w w7

theorem Made.mk' {w w3 w7 : World} {N pb mb ma n : Nat} {code code' code'' : List Int} {ys : List RI} {b3 b3' b7 : Int} {B : Nat} (ga : GenAt N B ma code (progA n ys) b3 w3) (gb : GenAt N w3.heap.size mb code' [] b3' w3) (hne : ma ≠ mb)
    (k : GKeep w3.heap.size mb w3 w7) (g : GenAt N w3.heap.size mb code'' (progB n ys) b7 w7) (hb : Below w.heap.size w w3) (hm : w.heap.size ≤ mb) (hx : w3.heap[pb]? = some (.cells #[.pointer (some ⟨ma, 0, none⟩)] 23 (0, 0))) (hpb : pb ≠ mb) : Made w pb ma mb n ys w7 := by
  obtain ⟨cv, v, hv, _⟩ := gb.box
  exact ⟨k.keep _ _ hx hpb (.inl (lt_of_block hx)), (ga.insAt (by rw [progA_length]; omega)).keep hv hne (fun i x hx hn => k.keep i x hx hn (.inl (lt_of_block hx))), g.insAt (by rw [progB_length]; omega), hb.trans (k.toBelow hb.size hm hb.size)⟩

theorem NotesV.below {w w' : World} {v : Value} {l : List Note} (h : NotesV w v l) (hb : Below w.heap.size w w') : NotesV w' v l := by
  obtain ⟨da, cap, h1, h2⟩ := h
  have hk : ∀ (b : Nat) (o : Obj), w.heap[b]? = some o → w'.heap[b]? = some o := fun b o ho => by rw [hb.block _ (lt_of_block ho)]; exact ho
  refine ⟨da, cap, h1, fun k x hx => ?_⟩
  obtain ⟨b, o, e, c0, c1, c2, c3⟩ := h2 k x hx
  exact ⟨b, o, e, cell_keep c0 (hk b), cell_keep c1 (hk b), cell_keep c2 (hk b), cell_keep c3 (hk b)⟩

theorem DataAt.bytes {B B' : Nat} {da : Option Addr} {cap : Nat} {l : List Int} {w : World} (h : DataAt B da cap l w) (hB : B ≤ B') : VBytes B' da cap l w :=
  ⟨fun k c hk => by
    obtain ⟨b, o, h1, h2, h3, h4⟩ := h.at' k c hk
    exact ⟨b, o, h1, by omega, h3, h4⟩, h.few, h.cap⟩

/-- The machine's run over what a maker made. -/
theorem Made.below' {w w7 w8 : World} {pb ma mb n : Nat} {ys : List RI} (h : Made w pb ma mb n ys w7) (hb : Below w7.heap.size w7 w8) : Made w pb ma mb n ys w8 :=
  ⟨by rw [hb.block _ (lt_of_block h.box)]; exact h.box, h.a.below hb, h.b.below hb, h.below.trans (hb.mono h.below.size)⟩

theorem vmdata_l {w w7 : World} {da : Option Addr} {dc : Nat} {dl d2 : List Int} (h : ArgAt w da dc dl) (hd2 : d2 = dl.take 200) : Calls Tryd.prog 8 #[.slice da dl.length dc] w7 fun e w' => e = .returned (.slice da d2.length dc) ∧ w7 = w' := by
  refine (vmdata_any da dl.length dc h.few h.cap).mono ?_
  rintro e w' ⟨rfl, rfl⟩
  refine ⟨?_, rfl⟩
  rw [hd2, List.length_take, Nat.min_comm]

/-- The reference's run over what the second maker made. -/
theorem ref_made {w w7 : World} {da : Option Addr} {dc : Nat} {dl d2 : List Int} {pb ma mb n : Nat} {ys : List RI} (hd : ArgAt w da dc dl) (hd2 : d2 = dl.take 200) (hm : Made w pb ma mb n ys w7) (hn : n ≤ 5) (hl : ys.length ≤ 268) (hy : ∀ r ∈ ys, r.op ≠ 8)
    {g cap : Nat} (hg : w7.cell? ⟨mb, 1, none⟩ = some (.slice (some ⟨g, 0, none⟩) (progB n ys).length cap)) :
    Calls Tryd.prog 9 #[.slice (some ⟨g, 0, none⟩) (progB n ys).length cap, .slice da d2.length dc] w7 (VRunsPost w7.heap.size w7) := by
  obtain ⟨g', cap', c1, c2, c3, c4⟩ := hm.b.cells
  rw [hg] at c1
  cases c1
  subst hd2
  exact vmruns_any c4 c3 (by rw [progB_length]; omega) c2 (progB_calls hn hy) ((hd.data hm.below 200 (by omega)).bytes hm.below.size)

theorem run_made {w w8 : World} {e0 e1 : Addr} {da : Option Addr} {dc : Nat} {dl d2 : List Int} {ma : Nat} {ins : List (Int × Int)} {res : Res} (hd2 : d2 = dl.take 200) (he : Env w.heap.size e0 e1 w) (hd : ArgAt w da dc dl) (hb : Below w.heap.size w w8)
    (hi : InsAt ma ins w8) (h0 : 0 < ins.length) (h1 : ins.length ≤ 100000) (hev : evalL d2 ins 100000 0 Regs.zero false ⟨0, 0, [], 0, 0, 1⟩ = some res) {g cap : Nat} (hg : w8.cell? ⟨ma, 1, none⟩ = some (.slice (some ⟨g, 0, none⟩) ins.length cap)) :
    Calls Tryd.prog 11 #[.slice (some ⟨g, 0, none⟩) ins.length cap, .slice none 0 0, .slice da d2.length dc, .bool false] w8 (RunPost w8.heap.size d2 res w8) := by
  subst hd2
  obtain ⟨g', cap', c1, c2, c3, c4⟩ := hi.cells
  rw [hg] at c1
  cases c1
  have hd2 := (hd.data hb 200 (by omega)).mono hb.size
  exact vmrun_any g ins.length cap ins da dc (dl.take 200) e0 e1 w8 100000 res ((he.below hb).mono hb.size (Nat.le_refl _)) hd2 rfl h0 h1 c2 c4 c3 (by omega) hev

theorem alloc3 (w : World) (o0 o1 o2 : Obj) : (((w.alloc o0).alloc o1).alloc o2).drew.heap[w.heap.size]? = some o0 ∧ (((w.alloc o0).alloc o1).alloc o2).drew.heap[w.heap.size + 1]? = some o1 ∧
    (((w.alloc o0).alloc o1).alloc o2).drew.heap[w.heap.size + 1 + 1]? = some o2 ∧ Below w.heap.size w (((w.alloc o0).alloc o1).alloc o2).drew := by
  have z1 : (w.alloc o0).heap.size = w.heap.size + 1 := by simp
  have z2 : ((w.alloc o0).alloc o1).heap.size = w.heap.size + 1 + 1 := by simp
  refine ⟨?_, ?_, ?_, Below.drewN_r ((((Below.refl _ _).alloc (Nat.le_refl _) _).alloc (by simp) _).alloc (by simp; omega) _) 1⟩
  · show (((w.alloc o0).alloc o1).alloc o2).heap[_]? = _
    rw [Below.heap_alloc _ _ _ (by omega)]
    exact heap_alloc2_old w _ _
  · show (((w.alloc o0).alloc o1).alloc o2).heap[_]? = _
    rw [Below.heap_alloc _ _ _ (by omega)]
    exact heap_alloc2_new w _ _
  · show (((w.alloc o0).alloc o1).alloc o2).heap[_]? = _
    have := heap_alloc_new ((w.alloc o0).alloc o1) o2
    rwa [z2] at this

set_option maxRecDepth 100000 in
set_option maxHeartbeats 6400000 in
theorem loops_any {w : World} {e0 e1 : Addr} (he : Env w.heap.size e0 e1 w) {ca da : Option Addr} {cc dc : Nat} {cl dl : List Int} (hc : ArgAt w ca cc cl) (hd : ArgAt w da dc dl) {m : Int} (hm0 : 0 ≤ m) (hm1 : m < 256)
    (h1 : cl.length ≤ 2147483647) (h2 : dl.length ≤ 2147483647) :
    Calls Tryd.prog 3 #[.slice ca cl.length cc, .slice da dl.length dc, .int .u8 m] w (TruePost w) := by
  obtain ⟨n, hn⟩ : ∃ n : Nat, m % 6 = (n : Int) := ⟨(m % 6).toNat, by omega⟩
  have hn5 : n ≤ 5 := by omega
  have hcc := hc.cap
  have hlen : (cl.take 60).length = min 60 cl.length := by simp
  obtain ⟨d2, hd2⟩ : ∃ l, l = dl.take 200 := ⟨_, rfl⟩
  have H200 := Go.Lib.hid hd2
  clear hd2
  have HE := Go.Lib.hid he
  have HC := Go.Lib.hid hc
  have HD := Go.Lib.hid hd
  clear he hc hd
  go_enter Tryd.func3, Tryd.ntmps3
  go_upto_region 4 with fail
  go_cut [8, 9] (fun s8 s9 wx => CutD w ca (cl.take 60).length cc s8 s9 wx)
  case first =>
    by_cases h60 : cl.length ≤ 60
    · have e60 : (cl.take 60).length = cl.length := by omega
      have E := Go.Lib.hid e60
      clear hlen e60
      go_region
      all_goals (go_wp2_with fail; go_meet)
      all_goals
        rw [E.out]
        obtain ⟨a0, a1, a2, ab⟩ := alloc3 w _ _ _
        first
        | exact ⟨w.heap.size, (w.heap.size + 1), (w.heap.size + 1 + 1), rfl, rfl, ⟨ab, a0, a1, a2, by omega, by omega, by omega, by omega, by omega, by omega⟩⟩
        | exact ⟨w.heap.size, (w.heap.size + 1 + 1), (w.heap.size + 1), rfl, rfl, ⟨ab, a0, a2, a1, by omega, by omega, by omega, by omega, by omega, by omega⟩⟩
        | exact ⟨(w.heap.size + 1), w.heap.size, (w.heap.size + 1 + 1), rfl, rfl, ⟨ab, a1, a0, a2, by omega, by omega, by omega, by omega, by omega, by omega⟩⟩
        | exact ⟨(w.heap.size + 1), (w.heap.size + 1 + 1), w.heap.size, rfl, rfl, ⟨ab, a1, a2, a0, by omega, by omega, by omega, by omega, by omega, by omega⟩⟩
        | exact ⟨(w.heap.size + 1 + 1), w.heap.size, (w.heap.size + 1), rfl, rfl, ⟨ab, a2, a0, a1, by omega, by omega, by omega, by omega, by omega, by omega⟩⟩
        | exact ⟨(w.heap.size + 1 + 1), (w.heap.size + 1), w.heap.size, rfl, rfl, ⟨ab, a2, a1, a0, by omega, by omega, by omega, by omega, by omega, by omega⟩⟩
    · have e60 : (cl.take 60).length = 60 := by omega
      have E := Go.Lib.hid e60
      have hq : (60 : Int) < (cl.length : Int) := by omega
      have hq2 : 60 ≤ cc := by omega
      clear hlen e60
      go_region
      all_goals (go_wp2_with fail; go_meet)
      all_goals
        rw [E.out]
        obtain ⟨a0, a1, a2, ab⟩ := alloc3 w _ _ _
        first
        | exact ⟨w.heap.size, (w.heap.size + 1), (w.heap.size + 1 + 1), rfl, rfl, ⟨ab, a0, a1, a2, by omega, by omega, by omega, by omega, by omega, by omega⟩⟩
        | exact ⟨w.heap.size, (w.heap.size + 1 + 1), (w.heap.size + 1), rfl, rfl, ⟨ab, a0, a2, a1, by omega, by omega, by omega, by omega, by omega, by omega⟩⟩
        | exact ⟨(w.heap.size + 1), w.heap.size, (w.heap.size + 1 + 1), rfl, rfl, ⟨ab, a1, a0, a2, by omega, by omega, by omega, by omega, by omega, by omega⟩⟩
        | exact ⟨(w.heap.size + 1), (w.heap.size + 1 + 1), w.heap.size, rfl, rfl, ⟨ab, a1, a2, a0, by omega, by omega, by omega, by omega, by omega, by omega⟩⟩
        | exact ⟨(w.heap.size + 1 + 1), w.heap.size, (w.heap.size + 1), rfl, rfl, ⟨ab, a2, a0, a1, by omega, by omega, by omega, by omega, by omega, by omega⟩⟩
        | exact ⟨(w.heap.size + 1 + 1), (w.heap.size + 1), w.heap.size, rfl, rfl, ⟨ab, a2, a1, a0, by omega, by omega, by omega, by omega, by omega, by omega⟩⟩
  case rest =>
    obtain ⟨pb, ma, mb, rfl, rfl, L⟩ := hcut
    have hmf : ∀ (fn : Fn) (first cap : Array Value) (w : World), (Instr.makeFunc fn first cap).run Tryd.prog w = .ok (.func fn first cap) w := fun _ _ _ _ => rfl
    have p8 : wc.cell? ⟨pb, 0, none⟩ = some (.pointer (some ⟨ma, 0, none⟩)) := by rw [cell_of_row _ _ _ _ _ _ L.box]; rfl
    have S0 := Go.Lib.hid (And.intro L (L.genA HC.out))
    clear L hcc hlen
    have BG := Go.Lib.hid (body_good d2 (cl.take 60))
    go_wp2_with fail
    -- a.put(SetLong, n)
    refine Calls.mono (put_any S0.out.2 (by simp) _ _) ?_
    rintro e w2 ⟨rfl, g2, k2⟩
    have x2 : w2.heap[pb]? = some (.cells #[.pointer (some ⟨ma, 0, none⟩)] 23 (0, 0)) := k2.keep _ _ S0.out.1.box S0.out.1.pa (.inr rfl)
    have p8 : w2.cell? ⟨pb, 0, none⟩ = some (.pointer (some ⟨ma, 0, none⟩)) := by rw [cell_of_row _ _ _ _ _ _ x2]; rfl
    have S2 := Go.Lib.hid (And.intro g2 (And.intro k2 x2))
    clear g2 k2 x2
    go_wp2_with fail
    -- a.loop
    refine Calls.mono (loop_a S2.out.1 S2.out.2.2 S0.out.1.pa) ?_
    rintro e w3 ⟨rfl, g3, k3⟩
    have kA : GKeep w.heap.size ma wc w3 := S2.out.2.1.trans k3
    have S3 := Go.Lib.hid (And.intro g3 kA)
    have M3 := Go.Lib.hid (L_b S0.out.1 kA HC.out)
    clear g3 k3 kA
    go_wp2_with fail
    go_loopg [10] (n + 1) (fun g ci wr => ∃ k : Nat, g + k = n + 1 ∧ k ≤ n ∧ ci = .int .i64 (k : Int) ∧ GenAt w.heap.size w3.heap.size mb (cl.take 60) (List.replicate k (8, (n : Int) + 1)) 0 wr ∧ GKeep w3.heap.size mb w3 wr)
    case atStart => exact ⟨0, rfl, Nat.zero_le _, rfl, M3.out.1, GKeep.refl _ _ _⟩
    case round =>
      obtain ⟨k, hg, hkn, rfl, g4, k4⟩ := hrel
      have Hg := Go.Lib.hid hg
      have S4 := Go.Lib.hid (And.intro g4 k4)
      have hk0 : (0 : Int) ≤ (k : Int) := by omega
      clear hg g4 k4
      by_cases hlt : k < n
      · go_wp2_with fail
        refine Calls.mono (put_any S4.out.1 (by simp; omega) _ _) ?_
        rintro e w5 ⟨rfl, g5, k5⟩
        go_wp2_with fail
        go_roundg (gk - 1)
        case rel => exact ⟨k + 1, by have := Hg.out; omega, by omega, by go_num, by rw [List.replicate_succ']; exact g5, S4.out.2.trans k5⟩
        case measure => have := Hg.out; omega
      · have hkn2 : k = n := by omega
        subst hkn2
        go_wp2_with fail
        -- b.put(Halt, 0)
        refine Calls.mono (put_any S4.out.1 (by simp; omega) _ _) ?_
        rintro e w5 ⟨rfl, g5, k5⟩
        obtain ⟨a1, q1, c1⟩ := g5.cell1
        have c4 := g5.cell4
        have f4 := g5.fz 4
        have S5 := Go.Lib.hid (And.intro (g5.setBase ((k : Int) + 1)) (S4.out.2.trans k5))
        clear g5 k5
        go_wp2_with fail
        -- b.body(1)
        refine Calls.mono (body1_of S5.out.1.1 (by simp) (by simp; omega)) ?_
        rintro e w6 ⟨rfl, g6, k6⟩
        have S6 := Go.Lib.hid (And.intro g6 ((S5.out.2.trans S5.out.1.2).trans k6))
        clear g6 k6 c1 c4 f4
        go_wp2_with fail
        -- b.put(Return, 0)
        refine Calls.mono (put_any S6.out.1 (by rw [abs_length]; have := (body_good [] (cl.take 60)).2.1; simp; omega) _ _) ?_
        rintro e w7 ⟨rfl, g7, k7⟩
        have MD := Go.Lib.hid (Made.mk' (w := w) S3.out.1 M3.out.1 S0.out.1.ab (S6.out.2.trans k7) g7 M3.out.2 S0.out.1.nb (S3.out.2.keep _ _ S0.out.1.box S0.out.1.pa (.inr rfl)) S0.out.1.pb')
        clear g7 k7 S0 S2 S3 S4 S5 S6 M3 p8
        go_wp2_with fail
        -- vmData
        refine Calls.mono (vmdata_l HD.out H200.out) ?_
        rintro e w8 ⟨rfl, rfl⟩
        obtain ⟨gb, kb, cb, -, -, -⟩ := MD.out.b.cells
        go_wp2_with fail
        -- spec.VMRuns
        refine Calls.mono (ref_made HD.out H200.out MD.out hn5 BG.out.2.1 BG.out.2.2 cb) ?_
        rintro e w9 ⟨v9, n9, x9, y9, rfl, b9⟩
        have M9 := Go.Lib.hid (MD.out.below' b9)
        clear b9 cb MD
        cases y9 with
        | false =>
          go_wp2_with fail
          refine Calls.mono (awake_any ((HE.out.below M9.out.below).mono M9.out.below.size (Nat.le_refl _))) ?_
          rintro e w10 ⟨rfl, b10⟩
          go_wp2_with fail
          go_ret
          exact ⟨rfl, M9.out.below.trans (b10.mono M9.out.below.size)⟩
        | true =>
          obtain ⟨ra, rb, ea, eb, same⟩ := two_programs (data := d2) BG.out.1 (by have := BG.out.2.1; omega) (by omega) hn5
          have EA := Go.Lib.hid ea
          have EB := Go.Lib.hid eb
          have p9 : w9.cell? ⟨pb, 0, none⟩ = some (.pointer (some ⟨ma, 0, none⟩)) := by rw [cell_of_row _ _ _ _ _ _ M9.out.box]; rfl
          obtain ⟨ga, ka, ca9, -, -, -⟩ := M9.out.a.cells
          clear ea eb
          go_wp2_with fail
          refine Calls.mono (run_made H200.out HE.out HD.out M9.out.below M9.out.a (by rw [progA_length]; omega) (by have := BG.out.2.1; rw [progA_length]; omega) EA.out ca9) ?_
          clear ca9 p9
          cases ra with
          | ok nlA sA =>
            cases rb with
            | err sB => exact same.elim
            | ok nlB sB =>
              obtain ⟨same1, same2⟩ := same
              rintro e wa ⟨va, la, ta, oa, s2, rfl, ba, za, o1, n1, rfl, rfl, hla, -⟩
              have MA := Go.Lib.hid (M9.out.below' ba)
              have NA := Go.Lib.hid (NotesV.own o1)
              have LA := Go.Lib.hid hla
              have SM1 := Go.Lib.hid same1
              have SM2 := Go.Lib.hid same2
              obtain ⟨gb, kb, cb, -, -, -⟩ := MA.out.b.cells
              clear ba za o1 hla same1 same2
              go_wp2_with fail
              refine Calls.mono (run_made H200.out HE.out HD.out MA.out.below MA.out.b (by rw [progB_length]; omega) (by have := BG.out.2.1; rw [progB_length]; omega) EB.out cb) ?_
              rintro e wb ⟨vb, lb, tb, ob, s3, rfl, bb, zb, o2, n2, rfl, rfl, hlb, -⟩
              have MB := Go.Lib.hid (MA.out.below' bb)
              have NB := Go.Lib.hid (And.intro (NA.out.below bb) (NotesV.own o2))
              obtain rfl : lb = la := by rw [hlb, LA.out, SM2.out]
              clear bb zb o2 hlb cb
              go_wp2_with fail
              refine Calls.mono (vmsame_any NB.out.1 (by have := NB.out.2; rw [← SM1.out] at this; exact this) (by omega)) ?_
              rintro e wc ⟨rfl, nd, rfl⟩
              go_wp2_with fail
              refine Calls.mono (awake_any ((HE.out.below (Below.drewN_r MB.out.below nd)).mono MB.out.below.size (Nat.le_refl _))) ?_
              rintro e wd ⟨rfl, bd⟩
              go_wp2_with fail
              go_ret
              exact ⟨rfl, (Below.drewN_r MB.out.below nd).trans (bd.mono MB.out.below.size)⟩
          | err sA =>
            cases rb with
            | ok nlB sB => exact same.elim
            | err sB =>
              have same1 : sA.notes = sB.notes := same
              rintro e wa ⟨va, la, ta, oa, s2, rfl, ba, za, o1, n1, rfl, rfl⟩
              have MA := Go.Lib.hid (M9.out.below' ba)
              have NA := Go.Lib.hid (NotesV.own o1)
              have SM1 := Go.Lib.hid same1
              obtain ⟨gb, kb, cb, -, -, -⟩ := MA.out.b.cells
              clear ba za o1 same same1
              go_wp2_with fail
              refine Calls.mono (run_made H200.out HE.out HD.out MA.out.below MA.out.b (by rw [progB_length]; omega) (by have := BG.out.2.1; rw [progB_length]; omega) EB.out cb) ?_
              rintro e wb ⟨vb, lb, tb, ob, s3, rfl, bb, zb, o2, n2, rfl, rfl⟩
              have MB := Go.Lib.hid (MA.out.below' bb)
              have NB := Go.Lib.hid (And.intro (NA.out.below bb) (NotesV.own o2))
              clear bb zb o2 cb
              go_wp2_with fail
              refine Calls.mono (vmsame_any NB.out.1 (by have := NB.out.2; rw [← SM1.out] at this; exact this) (by omega)) ?_
              rintro e wc ⟨rfl, nd, rfl⟩
              go_wp2_with fail
              refine Calls.mono (awake_any ((HE.out.below (Below.drewN_r MB.out.below nd)).mono MB.out.below.size (Nat.le_refl _))) ?_
              rintro e wd ⟨rfl, bd⟩
              go_wp2_with fail
              go_ret
              exact ⟨rfl, (Below.drewN_r MB.out.below nd).trans (bd.mono MB.out.below.size)⟩

end Go.Proofs.YtkhicabfmkldpaaDoor
