/-
  SEAT b6601232a. THE WALKS OF ZZNewLedger (no earlier record, no number), ZZKnown. By an AI agent.
-/
import Derived.Test.Qxb6601232aNode
import Derived.BigQuiet
import Derived.BigRegion
import Derived.Deep.DeepCutAuto
import Derived.Deep.RegionLaw
import Derived.Deep.RegionHeld3
namespace Go.Proofs.Qxb6601232a
open Go.RowKit
set_option linter.unusedVariables false

def stAt (ns : List ByteArray) (cs ats : List Int) (es bs : List Bool) (i : Nat) : St := ⟨ns.getD i ByteArray.empty, cs.getD i 0, ats.getD i 0, es.getD i false, bs.getD i false⟩
/-- The standings that the plain fields tell of. -/
def stsTo (ns : List ByteArray) (cs ats : List Int) (es bs : List Bool) (k : Nat) : List St := (List.range k).map (stAt ns cs ats es bs)
theorem stsTo_succ (ns : List ByteArray) (cs ats : List Int) (es bs : List Bool) (k : Nat) : stsTo ns cs ats es bs (k + 1) = stsTo ns cs ats es bs k ++ [stAt ns cs ats es bs k] := by simp [stsTo, List.range_succ]
theorem stsTo_names (ns : List ByteArray) (cs ats : List Int) (es bs : List Bool) : names (stsTo ns cs ats es bs ns.length) = ns := by
  unfold names stsTo
  rw [List.map_map]
  apply List.ext_getElem?
  intro i
  by_cases h : i < ns.length
  · simp [stAt, h]
  · simp [h]

/-- m[k] = v as one step of a region that draws its order. -/
theorem step_mu {P : Program} {ops : Array Oper} {o : Oper} {a : Act} {w : World} {K : Act → World → Prop} {Q : Exit → Act → World → Prop} {E : Prop} (hgd : o.guard = none) (m x v : Operand) (t : TypeId) (ho : o.op = Op.mapUpdate t m x v)
    (k e : TypeId) (Kd : Maps.Keyed P k) (ht : P.underlying t = some (.map k e)) (R : Value → Option (DataW Unit × List MemPlace)) (b n : Nat) (D : DataW Unit)
    (hm : a.eval m = .map (some b)) (hown : w.ownsMap P k R b n D) (hn : n < maxLen) (key val : Value) (kl : Lit) (hx : a.eval x = key) (hv : a.eval v = val) (hkey : keyOf P k key = some kl)
    (d : DataW Unit) (ps : List MemPlace) (hval : R val = some (d, ps))
    (h : ∀ w', w'.ownsMap P k R b (n + 1) (D.put kl d) → w.grownBy w' (some b) → K (a.put o.dst undef) w') :
    if Region.wanted o (yielded ops a.tmps) = true then Oper.wp P o a w K Q else E := by
  have hw : Region.wanted o (yielded ops a.tmps) = true := by simp [Region.wanted, hgd]
  rw [if_pos hw]
  obtain ⟨w', hrun, r1, r2⟩ := hown.update Kd ht hn hkey hval
  unfold Oper.wp
  simp [execOp, ho, hm, hx, hv, hrun, Result.andThen]
  exact h w' r1 r2

/-- A standing is laid, stored in the map, appended to the list. -/
theorem led_new {w w1 w3 : World} {S : Nat → Prop} {L mb : Nat} {qs : List (Nat × St)} {srt : Int} {lv v' t3 t4 : Value} {s : St} {D : DataW Unit}
    (h : LedV w S L qs srt lv t3 t4) (hr : w.heap[L]? = some (.cells #[.map (some mb), lv, .int .i64 srt, t3, t4] 82 (0, 0))) (sM : S mb) (hm : MapW w mb qs D) (hs : s.name.size ≤ maxLen)
    (hown1 : w1.ownsMap Try.prog 9 pe mb (qs.length + 1) (D.put (lit s.name) (.lit (.int .i64 w.heap.size)))) (hg1 : (w.alloc (.cells s.cells 48)).grownBy w1 (some mb))
    (o : Obj) (hown2 : w3.ownsRow 0 44 1 v' (qs.length + 1) ((qs.map fun q => ptr q.1) ++ [ptr w.heap.size])) (hg3 : (w1.alloc o).grownBy w3 lv.ownBlock) (hb : v'.ownBlock = lv.ownBlock ∨ v'.ownBlock = some (w1.alloc o).heap.size) :
    LedV (w3.setCell ⟨L, 1, none⟩ v') (fun x => S x ∨ w.heap.size ≤ x) L (qs ++ [(w.heap.size, s)]) srt v' t3 t4 ∧ Fr (fun x => x ≠ mb ∧ lv.ownBlock ≠ some x ∧ x ≠ L) w (w3.setCell ⟨L, 1, none⟩ v') := by
  have hne : lv.ownBlock ≠ some L := own_ne h.own hr (by decide)
  have hnm : lv.ownBlock ≠ some mb := own_map h.own hm
  have hLm : L ≠ mb := by
    intro e; subst e
    obtain ⟨es, clock, hh, _⟩ := hm.1
    rw [hh] at hr; cases hr
  have hLl := heap_lt hr
  have hs1 : w.heap.size + 1 ≤ w1.heap.size := by have := hg1.size; simpa using this
  have hs3 : w1.heap.size + 1 ≤ w3.heap.size := by have := hg3.size; simpa using this
  have f1 : Fr (fun x => x ≠ mb) w w1 := (Fr.alloc _ _ _).tr (Fr.grown hg1 (fun k hk => by simp at hk; subst hk; simp))
  have f1' : Fr (fun x => x ≠ mb) (w.alloc (.cells s.cells 48)) w1 := Fr.grown hg1 (fun k hk => by simp at hk; subst hk; simp)
  have f3 : Fr (fun x => lv.ownBlock ≠ some x) w1 w3 := (Fr.alloc _ _ _).tr (Fr.grown hg3 (fun k hk => by rw [hk]; simp))
  have f4 : Fr (fun x => x ≠ L) w3 (w3.setCell ⟨L, 1, none⟩ v') := Fr.setCell _ _ _ (by simp)
  have f13 : Fr (fun x => x ≠ mb ∧ lv.ownBlock ≠ some x) w w3 := f1.trans f3 (fun i hi hT => hT)
  have f14 : Fr (fun x => x ≠ mb ∧ lv.ownBlock ≠ some x ∧ x ≠ L) w (w3.setCell ⟨L, 1, none⟩ v') := f13.trans f4 (fun i hi hT => ⟨⟨hT.1, hT.2.1⟩, hT.2.2⟩)
  have hL3 : w3.heap[L]? = some (.cells #[.map (some mb), lv, .int .i64 srt, t3, t4] 82 (0, 0)) := f13.heap hr ⟨hLm, hne⟩
  have hnew : w3.heap[w.heap.size]? = some (.cells s.cells 48 (0, 0)) := by
    refine f3.heap (f1'.heap (heap_alloc_new w _) ?_) ?_
    · intro e; have := hm.1.lt; omega
    · intro e; have := own_lt h.own e; omega
  refine ⟨⟨Or.inl h.sL, ⟨mb, D.put (lit s.name) (.lit (.int .i64 w.heap.size)), ?_, Or.inl sM, ?_⟩, ?_, ?_, ?_⟩, f14⟩
  · have := heap_setCell_same w3 L 1 _ 82 v' hL3
    rw [this]; rfl
  · refine MapW.put hm (w.heap.size, s) (w' := w3.setCell ⟨L, 1, none⟩ v') ?_
    obtain ⟨es, clock, hh, r⟩ := hown1
    exact ⟨es, clock, f4.heap (f3.heap hh hnm) (Ne.symm hLm), r⟩
  · have := own_fr hown2 f4 (fun b hb' e => ?_)
    · simpa using this
    · subst e
      rcases hb with hb | hb
      · rw [hb] at hb'; exact hne hb'
      · rw [hb] at hb'; simp at hb'; omega
  · intro g hgv
    rcases hb with hb | hb
    · rw [hb] at hgv; exact Or.inl (h.sB g hgv)
    · rw [hb] at hgv; simp at hgv; right; omega
  · intro q hq
    rcases List.mem_append.1 hq with hq | hq
    · obtain ⟨s1, s2, s3⟩ := h.st q hq
      refine ⟨Or.inl s1, f14.heap s2 ⟨?_, ?_, ?_⟩, s3⟩
      · intro e; obtain ⟨es, clock, hh, _⟩ := hm.1; rw [← e, s2] at hh; cases hh
      · exact own_ne h.own s2 (by decide)
      · intro e; rw [e, hr] at s2; cases s2
    · simp at hq; subst hq
      exact ⟨Or.inr (Nat.le_refl _), f4.heap hnew (by intro e; omega), hs⟩

/-- A ledger that is being laid: the list and the map have come to k. -/
def Laid (w : World) (L nb : Nat) (ss : List St) (wr : World) : Prop := ∃ qs lv, LedV wr (fun x => w.heap.size ≤ x) L qs 0 lv (.slice none 0 0) (.map (some nb)) ∧ qs.map Prod.snd = ss ∧ Fr All w wr ∧ wr.cell? ⟨L, 0, none⟩ = some (.map (some w.heap.size)) ∧ wr.heap[nb]? = some (.map #[] 0)

theorem laid_start (w : World) : Laid w (w.heap.size + 1 + 1) (w.heap.size + 1) [] (((w.alloc (.map #[] 0)).alloc (.map #[] 0)).alloc (.cells #[.map (some w.heap.size), .slice none 0 0, .int .i64 0, .slice none 0 0, .map (some (w.heap.size + 1))] 82)) := by
  have hL : (((w.alloc (.map #[] 0)).alloc (.map #[] 0)).alloc (.cells #[.map (some w.heap.size), .slice none 0 0, .int .i64 0, .slice none 0 0, .map (some (w.heap.size + 1))] 82)).heap[w.heap.size + 1 + 1]? = some (.cells #[.map (some w.heap.size), .slice none 0 0, .int .i64 0, .slice none 0 0, .map (some (w.heap.size + 1))] 82 (0, 0)) := by
    have := heap_alloc_new ((w.alloc (.map #[] 0)).alloc (.map #[] 0)) (.cells #[.map (some w.heap.size), .slice none 0 0, .int .i64 0, .slice none 0 0, .map (some (w.heap.size + 1))] 82)
    simpa using this
  refine ⟨[], .slice none 0 0, ⟨by omega, ⟨w.heap.size, .map [], hL, Nat.le_refl _, MapW.empty ?_⟩, World.ownsRow_nil _ _ _ _, (fun g hg => by cases hg), (fun q hq => by cases hq)⟩, rfl, ((Fr.alloc _ _ _).tr (Fr.alloc _ _ _)).tr (Fr.alloc _ _ _), by rw [cell_of_row _ _ _ _ _ _ hL]; rfl, ?_⟩
  · exact ((World.ownsMap_made w Try.prog 9 pe).alloc _).alloc _
  · have := heap_alloc_new (w.alloc (.map #[] 0)) (.map #[] 0)
    rw [Below.heap_alloc _ _ _ (by simp)]
    simpa using this

theorem laid_step {w0 w w1 w3 : World} {L nb : Nat} {qs : List (Nat × St)} {lv v' : Value} {s : St} {D : DataW Unit} {ss ss' : List St}
    (h : LedV w (fun x => w0.heap.size ≤ x) L qs 0 lv (.slice none 0 0) (.map (some nb))) (hr : w.heap[L]? = some (.cells #[.map (some w0.heap.size), lv, .int .i64 0, .slice none 0 0, .map (some nb)] 82 (0, 0))) (sM : w0.heap.size ≤ w0.heap.size) (hm : MapW w w0.heap.size qs D) (hs : s.name.size ≤ maxLen)
    (hown1 : w1.ownsMap Try.prog 9 pe w0.heap.size (qs.length + 1) (D.put (lit s.name) (.lit (.int .i64 w.heap.size)))) (hg1 : (w.alloc (.cells s.cells 48)).grownBy w1 (some w0.heap.size))
    (o : Obj) (hown2 : w3.ownsRow 0 44 1 v' (qs.length + 1) ((qs.map fun q => ptr q.1) ++ [ptr w.heap.size])) (hg3 : (w1.alloc o).grownBy w3 lv.ownBlock) (hb : v'.ownBlock = lv.ownBlock ∨ v'.ownBlock = some (w1.alloc o).heap.size)
    (hf : Fr All w0 w) (hnb : w.heap[nb]? = some (.map #[] 0)) (hLn : L ≠ nb ∧ nb ≠ w0.heap.size) (hqs : qs.map Prod.snd = ss) (hss : ss' = ss ++ [s]) : Laid w0 L nb ss' (w3.setCell ⟨L, 1, none⟩ v') := by
  obtain ⟨r1, r2⟩ := led_new (S := fun x => w0.heap.size ≤ x) h hr sM hm hs hown1 hg1 o hown2 hg3 hb
  have r1 : LedV (w3.setCell ⟨L, 1, none⟩ v') (fun x => w0.heap.size ≤ x) L (qs ++ [(w.heap.size, s)]) 0 v' (.slice none 0 0) (.map (some nb)) := r1.mono fun x hx => by rcases hx with h | h; exact h; exact Nat.le_trans hf.size h
  refine ⟨_, v', r1, by rw [List.map_append, hqs, hss]; rfl, hf.trans r2 fun i hi _ => ⟨trivial, ?_, ?_, ?_⟩, ?_, r2.heap hnb ⟨hLn.2, ?_, Ne.symm hLn.1⟩⟩
  · omega
  · intro e; have := h.sB i e; omega
  · have := h.sL; omega
  · have hL3 : w3.heap[L]? = some (.cells #[.map (some w0.heap.size), lv, .int .i64 0, .slice none 0 0, .map (some nb)] 82 (0, 0)) := by
      have hne : lv.ownBlock ≠ some L := own_ne h.own hr (by decide)
      have hLm : L ≠ w0.heap.size := by
        intro e; rw [e] at hr
        obtain ⟨es, clock, hh, _⟩ := hm.1
        rw [hh] at hr; cases hr
      exact ((Fr.alloc (fun x => lv.ownBlock ≠ some x) _ _).tr (Fr.grown hg3 (fun k hk => by rw [hk]; simp))).heap (((Fr.alloc (fun x => x ≠ w0.heap.size) _ _).tr (Fr.grown hg1 (fun k hk => by simp at hk; subst hk; simp))).heap hr hLm) hne
    rw [cell_of_row _ L _ _ _ _ (heap_setCell_same w3 L 1 _ 82 v' hL3)]; rfl
  · intro e
    rcases h.own.2 with ⟨e', _⟩ | ⟨g, cap, cur, e', _, hgg, _⟩
    · rw [e'] at e; cases e
    · rw [e'] at e; simp only [Value.ownBlock, Option.some.injEq] at e; subst e
      rw [hnb] at hgg; cases hgg

/-- What ZZNewLedger leaves. -/
def Newed (w : World) (srt : Int) (ss : List St) (e : Ending) (w' : World) : Prop :=
  ∃ L qs lv nb, e = .returned (.pointer (some ⟨L, 0, none⟩)) ∧ LedV w' (fun x => w.heap.size ≤ x) L qs srt lv (.slice none 0 0) (.map (some nb)) ∧ qs.map Prod.snd = ss ∧ Fr All w w' ∧ w'.heap[nb]? = some (.map #[] 0)
theorem newed_of {w wr : World} {L nb mb : Nat} {qs : List (Nat × St)} {lv : Value} {srt : Int} {ss : List St} {D : DataW Unit} (h : LedV wr (fun x => w.heap.size ≤ x) L qs 0 lv (.slice none 0 0) (.map (some nb)))
    (hr : wr.heap[L]? = some (.cells #[.map (some mb), lv, .int .i64 0, .slice none 0 0, .map (some nb)] 82 (0, 0))) (sM : w.heap.size ≤ mb) (hm : MapW wr mb qs D) (hqs : qs.map Prod.snd = ss) (hf : Fr All w wr) (hnb : wr.heap[nb]? = some (.map #[] 0)) (hLn : L ≠ nb ∧ nb ≠ w.heap.size) :
    Newed w srt ss (.returned (.pointer (some ⟨L, 0, none⟩))) (wr.setCell ⟨L, 2, none⟩ (.int .i64 srt)) := by
  have f : Fr (fun x => x ≠ L) wr (wr.setCell ⟨L, 2, none⟩ (.int .i64 srt)) := Fr.setCell _ _ _ (by simp)
  have hLm : mb ≠ L := by
    intro e; rw [← e] at hr
    obtain ⟨es, clock, hh, _⟩ := hm.1
    rw [hh] at hr; cases hr
  refine ⟨L, qs, lv, nb, rfl, ⟨h.sL, ⟨mb, D, ?_, sM, hm.fr f hLm⟩, own_fr h.own f (fun b hb e => own_ne h.own hr (by decide) (by rw [← e]; exact hb)), h.sB, fun q hq => ⟨(h.st q hq).1, f.heap (h.st q hq).2.1 ?_, (h.st q hq).2.2⟩⟩, hqs, hf.trans f fun i hi _ => ⟨trivial, ?_⟩, f.heap hnb (Ne.symm hLn.1)⟩
  · rw [heap_setCell_same wr L 2 _ 82 _ hr]; rfl
  · intro e; have := (h.st q hq).2.1; rw [e, hr] at this; cases this
  · have := h.sL; omega

set_option maxRecDepth 100000 in
set_option maxHeartbeats 2000000 in
/-- ZZNewLedger. -/
theorem c18 {T : Nat → Prop} (w : World) (nv cv av ev bv : Value) (ns : List ByteArray) (cs ats : List Int) (es bs : List Bool) (srt : Int) (h1 : Strs T w nv ns) (h2 : I64s T w cv cs) (h3 : I64s T w av ats) (h4 : Bls T w ev es) (h5 : Bls T w bv bs)
    (e2 : cs.length = ns.length) (e3 : ats.length = ns.length) (e4 : es.length = ns.length) (e5 : bs.length = ns.length) (hsz : ∀ s ∈ ns, s.size ≤ maxLen) (hn : ns.length ≤ 1048576) :
    Calls Try.prog 18 #[nv, cv, av, ev, bv, .int .i64 srt, .slice none 0 0, .slice none 0 0, .slice none 0 0] w (Newed w srt (stsTo ns cs ats es bs ns.length)) := by
  obtain ⟨a1, k1, rfl, _, _, _, hp1⟩ := h1
  obtain ⟨a2, k2, rfl, _, _, _, hp2⟩ := h2
  obtain ⟨a3, k3, rfl, _, _, _, hp3⟩ := h3
  obtain ⟨a4, k4, rfl, _, _, _, hp4⟩ := h4
  obtain ⟨a5, k5, rfl, _, _, _, hp5⟩ := h5
  have hpH := hid (And.intro hp1 (And.intro hp2 (And.intro hp3 (And.intro hp4 hp5))))
  have eH := hid (And.intro e2 (And.intro e3 (And.intro e4 e5)))
  clear hp1 hp2 hp3 hp4 hp5 e2 e3 e4 e5
  have hmm := @run_makeMap Try.prog
  go_enter Try.func18, Try.ntmps18
  go_wp2
  have hL0 := laid_start w
  obtain ⟨L, hLe⟩ : ∃ L, L = w.heap.size + 1 + 1 := ⟨_, rfl⟩
  obtain ⟨nb, hnb⟩ : ∃ nb, nb = w.heap.size + 1 := ⟨_, rfl⟩
  obtain ⟨W, hW⟩ : ∃ W, W = (((w.alloc (.map #[] 0)).alloc (.map #[] 0)).alloc (.cells #[.map (some w.heap.size), .slice none 0 0, .int .i64 0, .slice none 0 0, .map (some (w.heap.size + 1))] 82)) := ⟨_, rfl⟩
  rw [← hW] at hL0 ⊢
  rw [← hLe, ← hnb] at hL0
  rw [← hLe]
  have hLn : L ≠ nb ∧ nb ≠ w.heap.size := by omega
  clear hLe hnb hW
  go_loopw [20] (fun i wr => ∃ k : Nat, k ≤ ns.length ∧ i = .int .i64 k ∧ Laid w L nb (stsTo ns cs ats es bs k) wr) (fun i _ => ns.length - (intOf i).toNat)
  case atStart => exact ⟨0, by omega, rfl, hL0⟩
  case round =>
    obtain ⟨k, hk, rfl, hlaid⟩ := hrel
    by_cases hlt : k < ns.length
    · obtain ⟨qs, lv, hled, hqs, hfr, hc0, hnbk⟩ := hlaid
      obtain ⟨p1, p2, p3, p4, p5⟩ := hpH.out
      have l2 : k < cs.length := by rw [eH.out.1]; exact hlt
      have l3 : k < ats.length := by rw [eH.out.2.1]; exact hlt
      have l4 : k < es.length := by rw [eH.out.2.2.1]; exact hlt
      have l5 : k < bs.length := by rw [eH.out.2.2.2]; exact hlt
      obtain ⟨b1, o1, rfl, _, d1⟩ := p1 (by omega)
      obtain ⟨b2, o2, rfl, _, d2⟩ := p2 (by omega)
      obtain ⟨b3, o3, rfl, _, d3⟩ := p3 (by omega)
      obtain ⟨b4, o4, rfl, _, d4⟩ := p4 (by omega)
      obtain ⟨b5, o5, rfl, _, d5⟩ := p5 (by omega)
      obtain ⟨x1, y1⟩ : ∃ x, ns[k]? = some x := ⟨ns[k], by simp [hlt]⟩
      obtain ⟨x2, y2⟩ : ∃ x, cs[k]? = some x := ⟨cs[k]'(by omega), by simp⟩
      obtain ⟨x3, y3⟩ : ∃ x, ats[k]? = some x := ⟨ats[k]'(by omega), by simp⟩
      obtain ⟨x4, y4⟩ : ∃ x, es[k]? = some x := ⟨es[k]'(by omega), by simp⟩
      obtain ⟨x5, y5⟩ : ∃ x, bs[k]? = some x := ⟨bs[k]'(by omega), by simp⟩
      have q1 := hfr.cellSome (cell_at d1 y1) trivial
      have q2 := hfr.cellSome (cell_at d2 y2) trivial
      have q3 := hfr.cellSome (cell_at d3 y3) trivial
      have q4 := hfr.cellSome (cell_at d4 y4) trivial
      have q5 := hfr.cellSome (cell_at d5 y5) trivial
      have hst : stAt ns cs ats es bs k = ⟨x1, x2, x3, x4, x5⟩ := by simp [stAt, List.getD, y1, y2, y3, y4, y5]
      have hx1 : x1.size ≤ maxLen := hsz x1 (List.mem_of_getElem? y1)
      have hAH := hid (And.intro hled (And.intro hqs (And.intro hfr (And.intro hc0 (And.intro hnbk hst)))))
      clear d1 d2 d3 d4 d5 y1 y2 y3 y4 y5 p1 p2 p3 p4 p5 hpH hled hqs hfr hst hnbk
      go_upto_region 5 with fail
      go_cut [21] from 30 to 76 (fun p wx => ∃ n, p = .pointer (some ⟨wr.heap.size, 0, none⟩) ∧ wx = (wr.drewN n).alloc (.cells #[.string x1, .int .i64 x2, .int .i64 x3, .bool x4, .bool x5] 48))
      case first =>
        go_region
        all_goals (go_wp2_with fail; go_meet)
        all_goals exact ⟨1, rfl, rfl⟩
      case rest =>
        obtain ⟨n, rfl, rfl⟩ := hcut
        obtain ⟨hled, hqs, hfr, hc0', hnbk, hst⟩ := hAH.out
        obtain ⟨mb, D, hr, sM, hm⟩ := hled.row
        obtain rfl : mb = w.heap.size := by rw [cell_of_row wr L _ _ _ _ hr] at hc0'; simpa using hc0'
        obtain ⟨la, ln, lc, rfl⟩ := own_shape hled.own
        have hLl := heap_lt hr
        have hLm : L ≠ w.heap.size := by
          intro e; rw [e] at hr
          obtain ⟨es', clock, hh, _⟩ := hm.1
          rw [hh] at hr; cases hr
        have hlen : qs.length = k := by have := congrArg List.length hqs; simpa [stsTo] using this
        have hBH := hid (And.intro hled (And.intro hr (And.intro sM (And.intro hm (And.intro (own_ne hled.own hr (by decide)) (own_map hled.own hm))))))
        obtain ⟨W0, hW0⟩ : ∃ W0, W0 = wr.drewN n := ⟨_, rfl⟩
        have hWf : Fr All wr W0 := by rw [hW0]; exact Fr.drewN _ _ _
        have hWs := hid (show W0.heap.size = wr.heap.size by rw [hW0]; rfl)
        rw [← hW0]
        have g0 := (Fr.alloc All W0 (.cells #[.string x1, .int .i64 x2, .int .i64 x3, .bool x4, .bool x5] 48))
        obtain ⟨W1, hW1⟩ : ∃ W1, W1 = W0.alloc (.cells #[.string x1, .int .i64 x2, .int .i64 x3, .bool x4, .bool x5] 48) := ⟨_, rfl⟩
        rw [← hW1] at g0 ⊢
        have p0 := g0.cellSome (hWf.cellSome hc0 trivial) trivial
        have p1 := g0.cellSome (hWf.cellSome q1 trivial) trivial
        have hm1 := hid ((hm.fr hWf trivial).fr g0 trivial).1
        have hW1H := hid hW1
        have hW0H := hid hW0
        clear hW1 hW0 hled hqs hfr hc0' hnbk hst hr sM hm q1 q2 q3 q4 q5 hc0
        go_upto_region 6 with fail
        go_cut [] from 30 to 76 (fun wx => wx.ownsMap Try.prog 9 pe w.heap.size (qs.length + 1) (D.put (lit x1) (.lit (.int .i64 wr.heap.size))) ∧ W1.grownBy wx (some w.heap.size))
        case first =>
          obtain ⟨w2, hrun2, hown2, hg2⟩ := World.ownsMap.update (w := W1.drew) (b := w.heap.size) (n := qs.length) (D := D) (by exact hm1.out) law9 Try.underlying79 (by unfold maxLen; omega) (key9 hx1) (pe_ptr wr.heap.size)
          have hrun3 : (Instr.mapUpdate 79 (.map (some w.heap.size)) (.string x1) (.pointer (some ⟨wr.heap.size, 0, none⟩))).run Try.prog W1.drew = .ok () w2 := hrun2
          have h2H := hid (And.intro hown2 hg2)
          clear hrun2 hown2 hg2
          go_region
          all_goals (go_wp2_with fail; go_meet)
          all_goals exact ⟨h2H.out.1, ⟨h2H.out.2.os, h2H.out.2.tape, h2H.out.2.output, h2H.out.2.size, h2H.out.2.block⟩⟩
        case rest =>
          obtain ⟨hown1, hg1⟩ := hcut
          have hb1 : wc.heap[L]? = some (.cells #[.map (some w.heap.size), (.slice la ln lc), .int .i64 0, .slice none 0 0, .map (some nb)] 82 (0, 0)) := (Fr.grown (T := fun x => x ≠ w.heap.size) hg1 (fun k hk => by simp at hk; subst hk; simp)).heap (g0.heap (hWf.heap hBH.out.2.1 trivial) trivial) hLm
          have c1 : wc.cell? ⟨L, 1, none⟩ = some (.slice la ln lc) := by rw [cell_of_row wc L _ _ _ _ hb1]; rfl
          have hLl1 := heap_lt hb1
          have hb1H := hid hb1
          have ho1 : wc.ownsRow 0 44 1 (.slice la ln lc) qs.length (qs.map fun q => ptr q.1) := own_fr (own_fr (own_fr hBH.out.1.own hWf (fun _ _ => trivial)) g0 (fun _ _ => trivial)) (Fr.grown (T := fun x => x ≠ w.heap.size) hg1 (fun k hk => by simp at hk; subst hk; simp)) (fun b hb e => hBH.out.2.2.2.2.2 (by rw [← e]; exact hb))
          have ho1H := hid ho1
          have hown1H := hid (And.intro hown1 hg1)
          clear hb1 ho1 hown1 hg1 p0 p1
          go_wp2_with (first
            | (at_builtin; refine wp_app rfl _ _ 40 rfl 0 44 (.pointer none) 1 8 Try.underlying40 Try.info44 rfl (by omega) _ _ _ rfl (ho1H.out.alloc _) wc.heap.size 0 1 1 [ptr wr.heap.size] rfl rfl (by exact arr1 _ _ _) (by simp [ptr, Value.oneCell']) (by unfold maxLen; omega) (by omega) (by omega) ?_; intro v' w3 hown3 hg3 hbk; obtain ⟨a', n', c', rfl⟩ := own_shape hown3; have hb3 := (hg3.block L (by simp; omega) (fun e => hBH.out.2.2.2.2.1 e.symm)).trans ((Below.heap_alloc wc _ L hLl1).trans hb1H.out); have z3 : w3.frozen? ⟨L, 1, none⟩ = false := frozen_of_row w3 L _ _ _ hb3; have c3 : w3.cell? ⟨L, 1, none⟩ = some (.slice la ln lc) := by { rw [cell_of_row w3 L _ _ _ _ hb3]; rfl })
            | go_in)
          go_roundw
          case rel =>
            refine ⟨k + 1, by omega, by go_num, ?_⟩
            obtain ⟨hled, hqs, hfr, hc0', hnbk, hst⟩ := hAH.out
            obtain ⟨_, hr, sM, hm, _⟩ := hBH.out
            have hw1 := hW1H.out
            have hg1 := hown1H.out.2
            rw [hw1] at hg1
            have hown1 := hown1H.out.1
            rw [← hWs.out] at hown1 hown3
            exact laid_step (hled.fr hWf fun _ _ => trivial) (hWf.heap hr trivial) sM (hm.fr hWf trivial) (s := ⟨x1, x2, x3, x4, x5⟩) hx1 hown1 hg1 _ hown3 hg3 hbk (hfr.tr hWf) (hWf.heap hnbk trivial) hLn hqs (by rw [stsTo_succ, hst])
          case measure => simp [intOf]; omega
    · obtain rfl : k = ns.length := by omega
      obtain ⟨qs, lv, hled, hqs, hfr, hc0, hnbk⟩ := hlaid
      obtain ⟨mb, D, hr, sM, hm⟩ := hled.row
      obtain ⟨la, ln, lc, rfl⟩ := own_shape hled.own
      have c2 : wr.cell? ⟨L, 2, none⟩ = some (.int .i64 0) := by rw [cell_of_row wr L _ _ _ _ hr]; rfl
      have z2 : wr.frozen? ⟨L, 2, none⟩ = false := frozen_of_row wr L _ _ _ hr
      have hAH := hid (And.intro hled (And.intro hr (And.intro sM (And.intro hm (And.intro hqs (And.intro hfr hnbk))))))
      clear hled hr sM hm hqs hfr hnbk hc0
      go_wp2
      refine wp_loop_rounds 1 ?_
      rw [rounds_succ]
      go_wp2
      refine wp_loop_rounds 1 ?_
      rw [rounds_succ]
      go_wp2
      go_ret
      obtain ⟨hled, hr, sM, hm, hqs, hfr, hnbk⟩ := hAH.out
      exact newed_of hled hr sM hm hqs hfr hnbk hLn

set_option maxRecDepth 100000 in
/-- ZZKnown. -/
theorem c19 (w : World) (S : Nat → Prop) (L : Nat) (qs : List (Nat × St)) (srt : Int) (lv t3 t4 : Value) (h : LedV w S L qs srt lv t3 t4) :
    Calls Try.prog 19 #[.pointer (some ⟨L, 0, none⟩)] w fun e w' => ∃ m : Nat, e = .returned (.int .i64 m) ∧ w' = w ∧ (m = qs.length ↔ (names (qs.map Prod.snd)).Nodup) := by
  obtain ⟨mb, D, hr, sM, hm⟩ := h.row
  have c0 : w.cell? ⟨L, 0, none⟩ = some (.map (some mb)) := by rw [cell_of_row w L _ _ _ _ hr]; rfl
  have hl := fun ty => hm.1.len Try.underlying79 ty
  have hi := hid (show Maps.size D = qs.length ↔ (names (qs.map Prod.snd)).Nodup from ⟨hm.2.2.2, fun h => (hm.2.2.1 h).1⟩)
  generalize Maps.size D = m at hl hi
  clear hm h hr
  go_enter Try.func19, Try.ntmps19
  go_wp2
  go_ret
  exact ⟨m, rfl, rfl, hi.out⟩

end Go.Proofs.Qxb6601232a
