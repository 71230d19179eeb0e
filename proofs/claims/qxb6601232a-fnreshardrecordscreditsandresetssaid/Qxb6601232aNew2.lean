/-
  SEAT b6601232a. THE WALK OF ZZNewLedger, WITH EARLIER RECORDS AND NUMBERS. By an AI agent.
-/
import Derived.Test.Qxb6601232aNew
import Derived.Test.Qxb6601232aGet
import Derived.Test.Qxb6601232aNest
namespace Go.Proofs.Qxb6601232a
open Go.RowKit
set_option linter.unusedVariables false
set_option linter.unusedSimpArgs false

/-- The records that the plain fields tell of. -/
def recAt (pss : List (List ByteArray)) (css : List (List Int)) (r : Nat) : List (ByteArray × Int) := (pss.getD r []).zip (css.getD r [])
def recsTo (pss : List (List ByteArray)) (css : List (List Int)) (k : Nat) : List (List (ByteArray × Int)) := (List.range k).map (recAt pss css)
theorem recsTo_succ (pss : List (List ByteArray)) (css : List (List Int)) (k : Nat) : recsTo pss css (k + 1) = recsTo pss css k ++ [recAt pss css k] := by simp [recsTo, List.range_succ]
theorem recsTo_len (pss : List (List ByteArray)) (css : List (List Int)) (k : Nat) : (recsTo pss css k).length = k := by simp [recsTo]

/-- The numbers as a map's data. -/
def numD (nus : List Int) : DataW Unit := nus.foldl (fun m n => m.put (.int .u64 n) (.agg [])) (.map [])
theorem numD_snoc (nus : List Int) (n : Int) : numD (nus ++ [n]) = (numD nus).put (.int .u64 n) (.agg []) := by simp [numD, List.foldl_append]
/-- What ZZNewLedger leaves. -/
def NewedG (w : World) (srt : Int) (ss : List St) (recs : List (List (ByteArray × Int))) (nus : List Int) (e : Ending) (w' : World) : Prop :=
  ∃ L qs lv t3 nb, e = .returned (.pointer (some ⟨L, 0, none⟩)) ∧ LedV w' (fun x => w.heap.size ≤ x) L qs srt lv t3 (.map (some nb)) ∧ qs.map Prod.snd = ss ∧ RecsW w' (fun x => w.heap.size ≤ x) t3 recs ∧ w'.ownsMap Try.prog 53 (unitElem (H := Unit)) nb nus.length (numD nus) ∧ w.heap.size ≤ nb ∧ Fr All w w'
/-- .. and more of it: the map of the numbers lies beside the ledger's own blocks. -/
def NewedX (w : World) (srt : Int) (ss : List St) (recs : List (List (ByteArray × Int))) (nus : List Int) (e : Ending) (w' : World) : Prop :=
  ∃ L qs lv t3 nb, e = .returned (.pointer (some ⟨L, 0, none⟩)) ∧ LedV w' (fun x => w.heap.size ≤ x ∧ x ≠ nb) L qs srt lv t3 (.map (some nb)) ∧ qs.map Prod.snd = ss ∧ RecsW w' (fun x => w.heap.size ≤ x) t3 recs ∧ w'.ownsMap Try.prog 53 (unitElem (H := Unit)) nb nus.length (numD nus) ∧ w.heap.size ≤ nb ∧ Fr All w w'
/-- .. while the records are laid. -/
def Laying (w : World) (L nb : Nat) (ss : List St) (srt : Int) (recs : List (List (ByteArray × Int))) (wr : World) : Prop :=
  ∃ qs lv t3, LedV wr (fun x => w.heap.size ≤ x) L qs srt lv t3 (.map (some nb)) ∧ qs.map Prod.snd = ss ∧ RecsW wr (fun x => w.heap.size ≤ x) t3 recs ∧ Fr All w wr ∧ wr.heap[nb]? = some (.map #[] 0) ∧ wr.cell? ⟨L, 0, none⟩ = some (.map (some w.heap.size))

theorem laying_start {w wr : World} {L nb mb : Nat} {qs : List (Nat × St)} {lv : Value} {srt : Int} {ss : List St} {D : DataW Unit} (h : LedV wr (fun x => w.heap.size ≤ x) L qs 0 lv (.slice none 0 0) (.map (some nb)))
    (hr : wr.heap[L]? = some (.cells #[.map (some mb), lv, .int .i64 0, .slice none 0 0, .map (some nb)] 82 (0, 0))) (sM : w.heap.size ≤ mb) (hm : MapW wr mb qs D) (hqs : qs.map Prod.snd = ss) (hf : Fr All w wr) (hnb : wr.heap[nb]? = some (.map #[] 0)) (hLn : L ≠ nb ∧ nb ≠ w.heap.size) (hmb : mb = w.heap.size) :
    Laying w L nb ss srt [] (wr.setCell ⟨L, 2, none⟩ (.int .i64 srt)) := by
  have f : Fr (fun x => x ≠ L) wr (wr.setCell ⟨L, 2, none⟩ (.int .i64 srt)) := Fr.setCell _ _ _ (by simp)
  have hLm : mb ≠ L := by
    intro e; rw [← e] at hr
    obtain ⟨es, clock, hh, _⟩ := hm.1
    rw [hh] at hr; cases hr
  refine ⟨qs, lv, .slice none 0 0, ⟨h.sL, ⟨mb, D, ?_, sM, hm.fr f hLm⟩, own_fr h.own f (fun b hb e => own_ne h.own hr (by decide) (by rw [← e]; exact hb)), h.sB, fun q hq => ⟨(h.st q hq).1, f.heap (h.st q hq).2.1 ?_, (h.st q hq).2.2⟩⟩, hqs, RecsW.nil _ _, hf.trans f fun i hi _ => ⟨trivial, ?_⟩, f.heap hnb (Ne.symm hLn.1), by rw [cell_of_row _ L _ _ _ _ (heap_setCell_same wr L 2 _ 82 _ hr), ← hmb]; rfl⟩
  · rw [heap_setCell_same wr L 2 _ 82 _ hr]; rfl
  · intro e; have := (h.st q hq).2.1; rw [e, hr] at this; cases this
  · have := h.sL; omega

theorem laying_next {w wo wr w3 : World} {L nb r : Nat} {qs : List (Nat × St)} {lv t3 v' : Value} {srt : Int} {ss : List St} {pss : List (List ByteArray)} {css : List (List Int)} {xs : List ByteArray} {ys : List Int} {cur : Array Value} {vs : List Value} {o : Obj}
    (hled : LedV wo (fun x => w.heap.size ≤ x) L qs srt lv t3 (.map (some nb))) (hqs : qs.map Prod.snd = ss) (hf0 : Fr All w wo) (hnb : wo.heap[nb]? = some (.map #[] 0)) (hra : recAt pss css r = xs.zip ys) (hfr : Fr All wo wr) (hg : wr.heap[wo.heap.size]? = some (.cells cur 71 (0, 0)))
    (hcs : cur.size = xs.length * 2) (htk : cur.toList.take (xs.length * 2) = flat2 ((xs.zip ys).take xs.length)) (hyl : ys.length = xs.length) (o3 : wr.ownsRow 0 69 1 t3 (recsTo pss css r).length vs) (oS : ∀ g, t3.ownBlock = some g → w.heap.size ≤ g) (ovl : vs.length = (recsTo pss css r).length)
    (oin : ∀ (i : Nat) (u : Value) (rec : List (ByteArray × Int)), vs[i]? = some u → (recsTo pss css r)[i]? = some rec → wr.ownsRow 0 71 2 u rec.length (flat2 rec) ∧ ∀ g, u.ownBlock = some g → w.heap.size ≤ g)
    (hown3 : w3.ownsRow 0 69 1 v' ((recsTo pss css r).length + 1) (vs ++ [.slice (some ⟨wo.heap.size, 0, none⟩) xs.length xs.length])) (hg3 : (wr.alloc o).grownBy w3 t3.ownBlock) (hbk : v'.ownBlock = t3.ownBlock ∨ v'.ownBlock = some (wr.alloc o).heap.size) (hx20 : xs.length ≤ 1048576) (hc0 : wo.cell? ⟨L, 0, none⟩ = some (.map (some w.heap.size))) :
    Laying w L nb ss srt (recsTo pss css (r + 1)) (w3.setCell ⟨L, 3, none⟩ v') := by
  have hld := hled.fr hfr (fun _ _ => trivial)
  have hnbr := hfr.heap hnb trivial
  obtain ⟨mb, D, hr, sM, hm⟩ := hld.row
  have hne3 := own_ne o3 hr (by decide)
  have f3 : Fr (fun x => t3.ownBlock ≠ some x) wr w3 := (Fr.alloc _ _ _).tr (Fr.grown hg3 (fun k hk => by rw [hk]; simp))
  have hL3 := f3.heap hr hne3
  have f4 : Fr (fun x => x ≠ L) w3 (w3.setCell ⟨L, 3, none⟩ v') := Fr.setCell _ _ _ (by simp)
  have hL4 := heap_setCell_same w3 L 3 _ 82 v' hL3
  have ff : Fr (fun x => t3.ownBlock ≠ some x ∧ x ≠ L) wr (w3.setCell ⟨L, 3, none⟩ v') := f3.trans f4 fun i hi hT => hT
  have hLl := heap_lt hr
  have hLm : mb ≠ L := by
    intro e; rw [← e] at hr
    obtain ⟨es, clock, hh, _⟩ := hm.1
    rw [hh] at hr; cases hr
  have hLnb : nb ≠ L := by intro e; rw [e, hr] at hnbr; cases hnbr
  have h3nb : t3.ownBlock ≠ some nb := by
    intro e
    rcases o3.2 with ⟨e', _⟩ | ⟨g, cap, cu, e', _, hgg, _⟩
    · rw [e'] at e; cases e
    · rw [e'] at e; simp only [Value.ownBlock, Option.some.injEq] at e; subst e
      rw [hnbr] at hgg; cases hgg
  have s0 : w.heap.size ≤ wo.heap.size := hf0.size
  have s1 : wo.heap.size ≤ wr.heap.size := hfr.size
  have hv'L : v'.ownBlock ≠ some L := by
    rcases hbk with h | h
    · rw [h]; exact hne3
    · rw [h]; simp; omega
  refine ⟨qs, lv, v', ⟨hld.sL, ⟨mb, D, hL4.trans rfl, sM, hm.fr ff ⟨own_map o3 hm, hLm⟩⟩, ?_, hld.sB, fun q hq => ?_⟩, hqs, ⟨vs ++ [.slice (some ⟨wo.heap.size, 0, none⟩) xs.length xs.length], ?_, ?_, by simp [ovl, recsTo_len], fun i u rec hu hrc' => ?_⟩, ?_, ff.heap hnbr ⟨h3nb, hLnb⟩, ?_⟩
  · exact own_fr hld.own ff (fun b hb => ⟨own_ne2 hld.own o3 (by decide) b hb, fun e => own_ne hld.own hr (by decide) (by rw [← e]; exact hb)⟩)
  · obtain ⟨a1, a2, a3⟩ := hld.st q hq
    exact ⟨a1, ff.heap a2 ⟨own_ne o3 a2 (by decide), fun e => by rw [e, hr] at a2; cases a2⟩, a3⟩
  · have := own_fr hown3 f4 (fun b hb e => hv'L (by rw [← e]; exact hb))
    rw [recsTo_succ, List.length_append]
    exact this
  · intro g hg'
    rcases hbk with h | h
    · rw [h] at hg'; exact oS g hg'
    · rw [h] at hg'; simp at hg'; omega
  · rw [recsTo_succ] at hrc'
    by_cases hil : i < (recsTo pss css r).length
    · rw [List.getElem?_append_left (by omega)] at hu hrc'
      obtain ⟨k1, k2⟩ := oin i u rec hu hrc'
      exact ⟨own_fr k1 ff (fun b hb => ⟨own_ne2 k1 o3 (by decide) b hb, fun e => own_ne k1 hr (by decide) (by rw [← e]; exact hb)⟩), k2⟩
    · have hi2 := (List.getElem?_eq_some_iff.1 hrc').1
      simp at hi2
      obtain rfl : i = (recsTo pss css r).length := by omega
      rw [List.getElem?_append_right (by omega)] at hu hrc'
      simp [ovl] at hu hrc'
      subst hu; subst hrc'
      rw [hra]
      have hzl : (xs.zip ys).length = xs.length := by simp [hyl]
      have ho : wr.ownsRow 0 71 2 (.slice (some ⟨wo.heap.size, 0, none⟩) xs.length xs.length) xs.length (flat2 (xs.zip ys)) := by
        have et : (xs.zip ys).take xs.length = xs.zip ys := List.take_of_length_le (by omega)
        rw [et] at htk
        exact own_of_row hg (Nat.zero_le _) hcs htk (by unfold maxLen; omega)
      rw [hzl]
      refine ⟨own_fr ho ff (fun b hb => ⟨own_ne2 ho o3 (by decide) b hb, fun e => own_ne ho hr (by decide) (by rw [← e]; exact hb)⟩), fun g hg' => ?_⟩
      simp [Value.ownBlock] at hg'
      omega
  · refine (hf0.tr hfr).trans ff fun i hi _ => ⟨trivial, fun e => ?_, fun e => ?_⟩
    · have := oS i e; omega
    · have := hld.sL; omega
  · have h0 := hfr.cellSome hc0 trivial
    rw [cell_of_row wr L _ _ _ _ hr] at h0
    rw [cell_of_row _ L _ _ _ _ hL4]; exact h0

/-- .. while the numbers are laid. -/
def Numb (w : World) (L nb : Nat) (ss : List St) (srt : Int) (recs : List (List (ByteArray × Int))) (nus : List Int) (wr : World) : Prop :=
  ∃ qs lv t3, LedV wr (fun x => w.heap.size ≤ x) L qs srt lv t3 (.map (some nb)) ∧ qs.map Prod.snd = ss ∧ RecsW wr (fun x => w.heap.size ≤ x) t3 recs ∧ Fr All w wr ∧ wr.cell? ⟨L, 0, none⟩ = some (.map (some w.heap.size)) ∧ wr.ownsMap Try.prog 53 (unitElem (H := Unit)) nb nus.length (numD nus)
theorem numb_start {w wr : World} {L nb : Nat} {ss : List St} {srt : Int} {recs : List (List (ByteArray × Int))} (h : Laying w L nb ss srt recs wr) : Numb w L nb ss srt recs [] wr := by
  obtain ⟨qs, lv, t3, h1, h2, h3, h4, h5, h6⟩ := h
  exact ⟨qs, lv, t3, h1, h2, h3, h4, h6, own_empty h5⟩
theorem own_not_map {w : World} {base : Nat} {e : TypeId} {size : Nat} {v : Value} {n : Nat} {xs : List Value} (ho : w.ownsRow base e size v n xs) {nb : Nat} {es : Array MapEntry} {c : Nat} (hn : w.heap[nb]? = some (.map es c)) : v.ownBlock ≠ some nb := by
  intro hb
  rcases ho.2 with ⟨e, _⟩ | ⟨g, cap, cur, e, _, hgg, _⟩
  · rw [e] at hb; cases hb
  · rw [e] at hb; simp only [Value.ownBlock, Option.some.injEq] at hb; subst hb
    rw [hn] at hgg; cases hgg
theorem numb_next {w wr w2 : World} {L nb : Nat} {ss : List St} {srt : Int} {recs : List (List (ByteArray × Int))} {nus : List Int} {x : Int} (h : Numb w L nb ss srt recs nus wr) (ho : w2.ownsMap Try.prog 53 (unitElem (H := Unit)) nb (nus.length + 1) ((numD nus).put (.int .u64 x) (.agg []))) (hg : wr.grownBy w2 (some nb)) (hne : nb ≠ w.heap.size) (hnl : w.heap.size ≤ nb) :
    Numb w L nb ss srt recs (nus ++ (some x).toList) w2 := by
  obtain ⟨qs, lv, t3, h1, h2, h3, h4, h5, es, c, hn, _⟩ := h
  have f : Fr (fun b => b ≠ nb) wr w2 := Fr.grown hg (fun k hk => by simp at hk; subst hk; simp)
  obtain ⟨mb, D, hr, sM, hm⟩ := h1.row
  have hmb : mb = w.heap.size := by rw [cell_of_row wr L _ _ _ _ hr] at h5; simpa using h5
  have hLn : L ≠ nb := by intro e; rw [e, hn] at hr; cases hr
  refine ⟨qs, lv, t3, ⟨h1.sL, ⟨mb, D, f.heap hr hLn, sM, hm.fr f (by omega)⟩, own_fr h1.own f (fun b hb e => own_not_map h1.own hn (by rw [← e]; exact hb)), h1.sB, fun q hq => ⟨(h1.st q hq).1, f.heap (h1.st q hq).2.1 (fun e => by have := (h1.st q hq).2.1; rw [e, hn] at this; cases this), (h1.st q hq).2.2⟩⟩, h2, ?_, h4.trans f fun i hi _ => ⟨trivial, by omega⟩, f.cellSome h5 hLn, ?_⟩
  · obtain ⟨vs, g1, g2, g3, g4⟩ := h3
    exact ⟨vs, own_fr g1 f (fun b hb e => own_not_map g1 hn (by rw [← e]; exact hb)), g2, g3, fun i u rec hu hr' => ⟨own_fr (g4 i u rec hu hr').1 f (fun b hb e => own_not_map (g4 i u rec hu hr').1 hn (by rw [← e]; exact hb)), (g4 i u rec hu hr').2⟩⟩
  · simp only [Option.toList_some]
    rw [numD_snoc]
    simpa using ho
theorem led_off {w : World} {S : Nat → Prop} {L nb mb : Nat} {qs : List (Nat × St)} {srt : Int} {lv t3 t4 : Value} (h : LedV w S L qs srt lv t3 t4) (hc : w.cell? ⟨L, 0, none⟩ = some (.map (some mb))) (hne : nb ≠ mb) {es : Array MapEntry} {c : Nat} (hn : w.heap[nb]? = some (.map es c)) : LedV w (fun x => S x ∧ x ≠ nb) L qs srt lv t3 t4 := by
  obtain ⟨sL, ⟨mb', D, hr, sM, hm⟩, ho, sB, st⟩ := h
  have hmb : mb' = mb := by rw [cell_of_row w L _ _ _ _ hr] at hc; simpa using hc
  refine ⟨⟨sL, fun e => by rw [e, hn] at hr; cases hr⟩, ⟨mb', D, hr, ⟨sM, by omega⟩, hm⟩, ho, fun g hg => ⟨sB g hg, fun e => own_not_map ho hn (by rw [← e]; exact hg)⟩, fun q hq => ⟨⟨(st q hq).1, fun e => ?_⟩, (st q hq).2⟩⟩
  have := (st q hq).2.1
  rw [e, hn] at this; cases this
theorem numb_done {w wr : World} {L nb : Nat} {ss : List St} {srt : Int} {recs : List (List (ByteArray × Int))} {nus : List Int} (h : Numb w L nb ss srt recs nus wr) (hnb : w.heap.size ≤ nb) (hne : nb ≠ w.heap.size) : NewedX w srt ss recs nus (.returned (.pointer (some ⟨L, 0, none⟩))) wr := by
  obtain ⟨qs, lv, t3, h1, h2, h3, h4, h5, h6⟩ := h
  have h6' := h6
  obtain ⟨es, c, hn, _⟩ := h6
  exact ⟨L, qs, lv, t3, nb, rfl, led_off h1 h5 hne hn, h2, h3, h6', hnb, h4⟩

set_option maxRecDepth 100000 in
set_option maxHeartbeats 4000000 in
/-- ZZNewLedger. -/
theorem c18x {T : Nat → Prop} (w : World) (nv cv av ev bv : Value) (ns : List ByteArray) (cs ats : List Int) (es bs : List Bool) (srt : Int) (h1 : Strs T w nv ns) (h2 : I64s T w cv cs) (h3 : I64s T w av ats) (h4 : Bls T w ev es) (h5 : Bls T w bv bs)
    (e2 : cs.length = ns.length) (e3 : ats.length = ns.length) (e4 : es.length = ns.length) (e5 : bs.length = ns.length) (hsz : ∀ s ∈ ns, s.size ≤ maxLen) (hn : ns.length ≤ 1048576)
    (pnv pcv nuv : Value) (pss : List (List ByteArray)) (css : List (List Int)) (nus : List Int) (h6 : Nest Value.string T w pnv pss) (h7 : Nest (Value.int .i64) T w pcv css) (h8 : U64s T w nuv nus) (e6 : css.length = pss.length) (e7 : ∀ (r : Nat) (xs : List ByteArray) (ys : List Int), pss[r]? = some xs → css[r]? = some ys → ys.length = xs.length) (hnw : ∀ n ∈ nus, (Lit.int .u64 n).wf = true)
    (b6 : pss.length ≤ 1048576) (b7 : ∀ xs ∈ pss, xs.length ≤ 1048576) (b8 : nus.length ≤ 1048576) :
    Calls Try.prog 18 #[nv, cv, av, ev, bv, .int .i64 srt, pnv, pcv, nuv] w (NewedX w srt (stsTo ns cs ats es bs ns.length) (recsTo pss css pss.length) nus) := by
  obtain ⟨a1, k1, rfl, _, _, _, hp1⟩ := h1
  obtain ⟨a2, k2, rfl, _, _, _, hp2⟩ := h2
  obtain ⟨a3, k3, rfl, _, _, _, hp3⟩ := h3
  obtain ⟨a4, k4, rfl, _, _, _, hp4⟩ := h4
  obtain ⟨a5, k5, rfl, _, _, _, hp5⟩ := h5
  have hpH := hid (And.intro hp1 (And.intro hp2 (And.intro hp3 (And.intro hp4 hp5))))
  have eH := hid (And.intro e2 (And.intro e3 (And.intro e4 e5)))
  clear hp1 hp2 hp3 hp4 hp5 e2 e3 e4 e5
  have gPH := hid (And.intro h6 (And.intro h7 (And.intro h8 (And.intro e6 (And.intro e7 (And.intro hnw b7))))))
  obtain ⟨vs6, ⟨a6, k6, rfl, -, -, -, -⟩, -, -⟩ := h6
  obtain ⟨vs7, ⟨a7, k7, rfl, -, -, -, -⟩, -, -⟩ := h7
  obtain ⟨a8, k8, rfl, -, -, -, -⟩ := h8
  clear e6 e7 hnw b7
  have hmm := @run_makeMap Try.prog
  go_enter Try.func18, Try.ntmps18
  go_wp2
  have hL0 := laid_start w
  obtain ⟨L, hLe⟩ : ∃ L, L = w.heap.size + 1 + 1 := ⟨_, rfl⟩
  obtain ⟨nb, hnb⟩ : ∃ nb, nb = w.heap.size + 1 := ⟨_, rfl⟩
  obtain ⟨W, hW⟩ : ∃ W, W = (((w.alloc (.map #[] 0)).alloc (.map #[] 0)).alloc (.cells #[.map (some w.heap.size), .slice none 0 0, .int .i64 0, .slice none 0 0, .map (some (w.heap.size + 1))] 82)) := ⟨_, rfl⟩
  rw [← hW] at hL0 ⊢
  rw [← hLe, ← hnb] at hL0
  rw [← hLe]
  have hLn : L ≠ nb ∧ nb ≠ w.heap.size := by omega
  have hnbs : w.heap.size ≤ nb := by omega
  clear hLe hnb hW
  go_loopw [20] (fun i wr => ∃ k : Nat, k ≤ ns.length ∧ i = .int .i64 k ∧ Laid w L nb (stsTo ns cs ats es bs k) wr) (fun i _ => ns.length - (intOf i).toNat)
  case atStart => exact ⟨0, by omega, rfl, hL0⟩
  case round =>
    obtain ⟨k, hk, rfl, hlaid⟩ := hrel
    by_cases hlt : k < ns.length
    · obtain ⟨qs, lv, hled, hqs, hfr, hc0, hnbk⟩ := hlaid
      obtain ⟨p1, p2, p3, p4, p5⟩ := hpH.out
      have l2 : k < cs.length := by rw [eH.out.1]; exact hlt
      have l3 : k < ats.length := by rw [eH.out.2.1]; exact hlt
      have l4 : k < es.length := by rw [eH.out.2.2.1]; exact hlt
      have l5 : k < bs.length := by rw [eH.out.2.2.2]; exact hlt
      obtain ⟨b1, o1, rfl, _, d1⟩ := p1 (by omega)
      obtain ⟨b2, o2, rfl, _, d2⟩ := p2 (by omega)
      obtain ⟨b3, o3, rfl, _, d3⟩ := p3 (by omega)
      obtain ⟨b4, o4, rfl, _, d4⟩ := p4 (by omega)
      obtain ⟨b5, o5, rfl, _, d5⟩ := p5 (by omega)
      obtain ⟨x1, y1⟩ : ∃ x, ns[k]? = some x := ⟨ns[k], by simp [hlt]⟩
      obtain ⟨x2, y2⟩ : ∃ x, cs[k]? = some x := ⟨cs[k]'(by omega), by simp⟩
      obtain ⟨x3, y3⟩ : ∃ x, ats[k]? = some x := ⟨ats[k]'(by omega), by simp⟩
      obtain ⟨x4, y4⟩ : ∃ x, es[k]? = some x := ⟨es[k]'(by omega), by simp⟩
      obtain ⟨x5, y5⟩ : ∃ x, bs[k]? = some x := ⟨bs[k]'(by omega), by simp⟩
      have q1 := hfr.cellSome (cell_at d1 y1) trivial
      have q2 := hfr.cellSome (cell_at d2 y2) trivial
      have q3 := hfr.cellSome (cell_at d3 y3) trivial
      have q4 := hfr.cellSome (cell_at d4 y4) trivial
      have q5 := hfr.cellSome (cell_at d5 y5) trivial
      have hst : stAt ns cs ats es bs k = ⟨x1, x2, x3, x4, x5⟩ := by simp [stAt, List.getD, y1, y2, y3, y4, y5]
      have hx1 : x1.size ≤ maxLen := hsz x1 (List.mem_of_getElem? y1)
      have hAH := hid (And.intro hled (And.intro hqs (And.intro hfr (And.intro hc0 (And.intro hnbk hst)))))
      clear d1 d2 d3 d4 d5 y1 y2 y3 y4 y5 p1 p2 p3 p4 p5 hpH hled hqs hfr hst hnbk
      go_upto_region 5 with fail
      go_cut [21] from 30 to 76 (fun p wx => ∃ n, p = .pointer (some ⟨wr.heap.size, 0, none⟩) ∧ wx = (wr.drewN n).alloc (.cells #[.string x1, .int .i64 x2, .int .i64 x3, .bool x4, .bool x5] 48))
      case first =>
        go_region
        all_goals (go_wp2_with fail; go_meet)
        all_goals exact ⟨1, rfl, rfl⟩
      case rest =>
        obtain ⟨n, rfl, rfl⟩ := hcut
        obtain ⟨hled, hqs, hfr, hc0', hnbk, hst⟩ := hAH.out
        obtain ⟨mb, D, hr, sM, hm⟩ := hled.row
        obtain rfl : mb = w.heap.size := by rw [cell_of_row wr L _ _ _ _ hr] at hc0'; simpa using hc0'
        obtain ⟨la, ln, lc, rfl⟩ := own_shape hled.own
        have hLl := heap_lt hr
        have hLm : L ≠ w.heap.size := by
          intro e; rw [e] at hr
          obtain ⟨es', clock, hh, _⟩ := hm.1
          rw [hh] at hr; cases hr
        have hlen : qs.length = k := by have := congrArg List.length hqs; simpa [stsTo] using this
        have hBH := hid (And.intro hled (And.intro hr (And.intro sM (And.intro hm (And.intro (own_ne hled.own hr (by decide)) (own_map hled.own hm))))))
        obtain ⟨W0, hW0⟩ : ∃ W0, W0 = wr.drewN n := ⟨_, rfl⟩
        have hWf : Fr All wr W0 := by rw [hW0]; exact Fr.drewN _ _ _
        have hWs := hid (show W0.heap.size = wr.heap.size by rw [hW0]; rfl)
        rw [← hW0]
        have g0 := (Fr.alloc All W0 (.cells #[.string x1, .int .i64 x2, .int .i64 x3, .bool x4, .bool x5] 48))
        obtain ⟨W1, hW1⟩ : ∃ W1, W1 = W0.alloc (.cells #[.string x1, .int .i64 x2, .int .i64 x3, .bool x4, .bool x5] 48) := ⟨_, rfl⟩
        rw [← hW1] at g0 ⊢
        have p0 := g0.cellSome (hWf.cellSome hc0 trivial) trivial
        have p1 := g0.cellSome (hWf.cellSome q1 trivial) trivial
        have hm1 := hid ((hm.fr hWf trivial).fr g0 trivial).1
        have hW1H := hid hW1
        have hW0H := hid hW0
        clear hW1 hW0 hled hqs hfr hc0' hnbk hst hr sM hm q1 q2 q3 q4 q5 hc0
        go_upto_region 6 with fail
        go_cut [] from 30 to 76 (fun wx => wx.ownsMap Try.prog 9 pe w.heap.size (qs.length + 1) (D.put (lit x1) (.lit (.int .i64 wr.heap.size))) ∧ W1.grownBy wx (some w.heap.size))
        case first =>
          obtain ⟨w2, hrun2, hown2, hg2⟩ := World.ownsMap.update (w := W1.drew) (b := w.heap.size) (n := qs.length) (D := D) (by exact hm1.out) law9 Try.underlying79 (by unfold maxLen; omega) (key9 hx1) (pe_ptr wr.heap.size)
          have hrun3 : (Instr.mapUpdate 79 (.map (some w.heap.size)) (.string x1) (.pointer (some ⟨wr.heap.size, 0, none⟩))).run Try.prog W1.drew = .ok () w2 := hrun2
          have h2H := hid (And.intro hown2 hg2)
          clear hrun2 hown2 hg2
          go_region
          all_goals (go_wp2_with fail; go_meet)
          all_goals exact ⟨h2H.out.1, ⟨h2H.out.2.os, h2H.out.2.tape, h2H.out.2.output, h2H.out.2.size, h2H.out.2.block⟩⟩
        case rest =>
          obtain ⟨hown1, hg1⟩ := hcut
          have hb1 : wc.heap[L]? = some (.cells #[.map (some w.heap.size), (.slice la ln lc), .int .i64 0, .slice none 0 0, .map (some nb)] 82 (0, 0)) := (Fr.grown (T := fun x => x ≠ w.heap.size) hg1 (fun k hk => by simp at hk; subst hk; simp)).heap (g0.heap (hWf.heap hBH.out.2.1 trivial) trivial) hLm
          have c1 : wc.cell? ⟨L, 1, none⟩ = some (.slice la ln lc) := by rw [cell_of_row wc L _ _ _ _ hb1]; rfl
          have hLl1 := heap_lt hb1
          have hb1H := hid hb1
          have ho1 : wc.ownsRow 0 44 1 (.slice la ln lc) qs.length (qs.map fun q => ptr q.1) := own_fr (own_fr (own_fr hBH.out.1.own hWf (fun _ _ => trivial)) g0 (fun _ _ => trivial)) (Fr.grown (T := fun x => x ≠ w.heap.size) hg1 (fun k hk => by simp at hk; subst hk; simp)) (fun b hb e => hBH.out.2.2.2.2.2 (by rw [← e]; exact hb))
          have ho1H := hid ho1
          have hown1H := hid (And.intro hown1 hg1)
          clear hb1 ho1 hown1 hg1 p0 p1
          go_wp2_with (first
            | (at_builtin; refine wp_app rfl _ _ 40 rfl 0 44 (.pointer none) 1 8 Try.underlying40 Try.info44 rfl (by omega) _ _ _ rfl (ho1H.out.alloc _) wc.heap.size 0 1 1 [ptr wr.heap.size] rfl rfl (by exact arr1 _ _ _) (by simp [ptr, Value.oneCell']) (by unfold maxLen; omega) (by omega) (by omega) ?_; intro v' w3 hown3 hg3 hbk; obtain ⟨a', n', c', rfl⟩ := own_shape hown3; have hb3 := (hg3.block L (by simp; omega) (fun e => hBH.out.2.2.2.2.1 e.symm)).trans ((Below.heap_alloc wc _ L hLl1).trans hb1H.out); have z3 : w3.frozen? ⟨L, 1, none⟩ = false := frozen_of_row w3 L _ _ _ hb3; have c3 : w3.cell? ⟨L, 1, none⟩ = some (.slice la ln lc) := by { rw [cell_of_row w3 L _ _ _ _ hb3]; rfl })
            | go_in)
          go_roundw
          case rel =>
            refine ⟨k + 1, by omega, by go_num, ?_⟩
            obtain ⟨hled, hqs, hfr, hc0', hnbk, hst⟩ := hAH.out
            obtain ⟨_, hr, sM, hm, _⟩ := hBH.out
            have hw1 := hW1H.out
            have hg1 := hown1H.out.2
            rw [hw1] at hg1
            have hown1 := hown1H.out.1
            rw [← hWs.out] at hown1 hown3
            exact laid_step (hled.fr hWf fun _ _ => trivial) (hWf.heap hr trivial) sM (hm.fr hWf trivial) (s := ⟨x1, x2, x3, x4, x5⟩) hx1 hown1 hg1 _ hown3 hg3 hbk (hfr.tr hWf) (hWf.heap hnbk trivial) hLn hqs (by rw [stsTo_succ, hst])
          case measure => simp [intOf]; omega
    · obtain rfl : k = ns.length := by omega
      obtain ⟨qs, lv, hled, hqs, hfr, hc0, hnbk⟩ := hlaid
      obtain ⟨mb, D, hr, sM, hm⟩ := hled.row
      obtain ⟨la, ln, lc, rfl⟩ := own_shape hled.own
      have c2 : wr.cell? ⟨L, 2, none⟩ = some (.int .i64 0) := by rw [cell_of_row wr L _ _ _ _ hr]; rfl
      have z2 : wr.frozen? ⟨L, 2, none⟩ = false := frozen_of_row wr L _ _ _ hr
      have hmb : mb = w.heap.size := by rw [cell_of_row wr L _ _ _ _ hr] at hc0; simpa using hc0
      have hAH := hid (laying_start (srt := srt) hled hr sM hm hqs hfr hnbk hLn hmb)
      clear hmb
      clear hled hr sM hm hqs hfr hnbk hc0
      go_wp2
      obtain ⟨W8, hW8⟩ : ∃ W8, W8 = wr.setCell ⟨L, 2, none⟩ (.int .i64 srt) := ⟨_, rfl⟩
      rw [← hW8] at hAH ⊢
      clear hW8 c2 z2 hL0 hpH eH hsz
      go_loopw [22] (fun i wr => ∃ r : Nat, r ≤ pss.length ∧ i = .int .i64 r ∧ Laying w L nb (stsTo ns cs ats es bs ns.length) srt (recsTo pss css r) wr) (fun i _ => pss.length - (intOf i).toNat)
      case atStart => exact ⟨0, by omega, rfl, by simpa [recsTo] using hAH.out⟩
      case round =>
        obtain ⟨r, hrl, rfl, hly⟩ := hrel
        obtain ⟨wo, hwo⟩ : ∃ wo : World, wo = wr := ⟨_, rfl⟩
        subst hwo
        by_cases hlt : r < pss.length
        · obtain ⟨⟨vs, ⟨ao, c, e, _, _, _, hp6⟩, hl6, hi6⟩, ⟨vt, ⟨ao', c', e', _, _, _, hp7⟩, hl7, hi7⟩, -, e6, e7, -, b7⟩ := gPH.out
          simp only [Value.slice.injEq, true_and] at e e'
          obtain ⟨rfl, rfl⟩ := e
          obtain ⟨rfl, rfl⟩ := e'
          obtain ⟨xs, hxs⟩ : ∃ x, pss[r]? = some x := ⟨_, List.getElem?_eq_getElem hlt⟩
          obtain ⟨ys, hys⟩ : ∃ x, css[r]? = some x := ⟨_, List.getElem?_eq_getElem (by omega)⟩
          obtain ⟨u, hu⟩ : ∃ x, vs[r]? = some x := ⟨_, List.getElem?_eq_getElem (by omega)⟩
          obtain ⟨t, ht⟩ : ∃ x, vt[r]? = some x := ⟨_, List.getElem?_eq_getElem (by omega)⟩
          obtain ⟨b6', o6, rfl, _, d6⟩ := hp6 (by omega)
          obtain ⟨b7', o7, rfl, _, d7⟩ := hp7 (by omega)
          obtain ⟨ua, uc, rfl, _, _, _, dx⟩ := hi6 r u xs hu hxs
          obtain ⟨ta, tc, rfl, _, _, _, dy⟩ := hi7 r t ys ht hys
          have hyl : ys.length = xs.length := e7 r xs ys hxs hys
          have hxl := b7 xs (List.mem_of_getElem? hxs)
          have hra : recAt pss css r = xs.zip ys := by simp [recAt, List.getD, hxs, hys]
          obtain ⟨qs, lv, t3, hled, hqs, hrec, hfr, hnbk, hc00⟩ := hly
          have g6 := hfr.cellSome (d6 r _ hu) trivial
          have g7 := hfr.cellSome (d7 r _ ht) trivial
          have l7 : r < css.length := by omega
          have hmk := run_mk (P := Try.prog) Try.underlying69 Try.info71 xs.length (by omega) (by unfold maxLen; omega)
          have hIH := hid (And.intro dx (And.intro dy hyl))
          have hLH := hid (And.intro hled (And.intro hqs (And.intro hrec (And.intro hfr (And.intro hnbk (And.intro hra hc00))))))
          have lb6 := World.block_lt_of_cell? wo _ g6
          have lb7 := World.block_lt_of_cell? wo _ g7
          clear hp6 hl6 hi6 hp7 hl7 hi7 e6 e7 b7 hxs hys hu ht d6 d7 dx dy hyl hra hled hqs hrec hfr hnbk hc00
          go_wp2
          obtain ⟨Wm, hWm⟩ : ∃ Wm, Wm = wo.alloc (.cells (made (.agg #[.string ByteArray.empty, .int .i64 0]) (xs.length * 2)) 71) := ⟨_, rfl⟩
          have hm0 : Hid (Fr All wo Wm ∧ Wm.heap[wo.heap.size]? = some (.cells (made (.agg #[.string ByteArray.empty, .int .i64 0]) (xs.length * 2)) 71 (0, 0))) := by rw [hWm]; exact ⟨Fr.alloc _ _ _, heap_alloc_new _ _⟩
          rw [← hWm]
          clear hWm
          go_loopw [24] (fun jv wr => ∃ (j : Nat) (cur : Array Value), j ≤ xs.length ∧ jv = .int .i64 j ∧ Fr All wo wr ∧ wr.heap[wo.heap.size]? = some (.cells cur 71 (0, 0)) ∧ cur.size = xs.length * 2 ∧ cur.toList.take (j * 2) = flat2 ((xs.zip ys).take j)) (fun jv _ => xs.length - (intOf jv).toNat)
          case atStart => exact ⟨0, _, by omega, rfl, hm0.out.1, hm0.out.2, size_made _ _, by simp [flat2]⟩
          case round =>
            obtain ⟨j, cur, hjl, rfl, hfr, hg, hcs, htk⟩ := hrel
            by_cases hjt : j < xs.length
            · obtain ⟨dx, dy, hyl⟩ := hIH.out
              obtain ⟨bx, ox, rfl, _, ex⟩ := dx (by omega)
              obtain ⟨by', oy, rfl, _, ey⟩ := dy (by omega)
              obtain ⟨x, hx⟩ : ∃ x, xs[j]? = some x := ⟨_, List.getElem?_eq_getElem hjt⟩
              obtain ⟨y, hy⟩ : ∃ x, ys[j]? = some x := ⟨_, List.getElem?_eq_getElem (by omega)⟩
              have hfo := hLH.out.2.2.2.1.tr hfr
              have i1 := hfr.cellSome g6 trivial
              have i2 := hfr.cellSome g7 trivial
              have i3 := hfo.cellSome (cell_at ex hx) trivial
              have i4 := hfo.cellSome (cell_at ey hy) trivial
              have lw := hLH.out.2.2.2.1.size
              have lx : bx ≠ wo.heap.size := Nat.ne_of_lt (Nat.lt_of_lt_of_le (World.block_lt_of_cell? w _ (cell_at ex hx)) lw)
              have ly : by' ≠ wo.heap.size := Nat.ne_of_lt (Nat.lt_of_lt_of_le (World.block_lt_of_cell? w _ (cell_at ey hy)) lw)
              have n6 : b6' ≠ wo.heap.size := Nat.ne_of_lt lb6
              have n7 : b7' ≠ wo.heap.size := Nat.ne_of_lt lb7
              have ly' : j < ys.length := by omega
              obtain ⟨y0, s0⟩ : ∃ y, wr.cell? ⟨wo.heap.size, j * 2, none⟩ = some y := ⟨cur[j * 2]'(by omega), by rw [cell_of_row wr _ _ _ _ _ hg]; simp⟩
              obtain ⟨y1, s1⟩ : ∃ y, wr.cell? ⟨wo.heap.size, j * 2 + 1, none⟩ = some y := ⟨cur[j * 2 + 1]'(by omega), by rw [cell_of_row wr _ _ _ _ _ hg]; simp⟩
              have v0 : wr.frozen? ⟨wo.heap.size, j * 2, none⟩ = false := frozen_of_row wr _ _ _ _ hg
              have v1 : wr.frozen? ⟨wo.heap.size, j * 2 + 1, none⟩ = false := frozen_of_row wr _ _ _ _ hg
              have hz : (xs.zip ys)[j]? = some (x, y) := by rw [List.getElem?_zip_eq_some]; exact ⟨hx, hy⟩
              have hKH := hid (And.intro hfr (And.intro hg (And.intro hcs (And.intro htk hz))))
              clear dx dy hyl ex ey hx hy hfo hfr hg hcs htk hz
              go_wp2
              go_region
              all_goals go_wp2
              all_goals
                go_roundw
                case rel =>
                  obtain ⟨hfr, hg, hcs, htk, hz⟩ := hKH.out
                  refine ⟨j + 1, put2 cur j (.string x) (.int .i64 y), by omega, by go_num, ?_, heap_put2 hg _ _, by rw [size_put2]; exact hcs, ?_⟩
                  · exact hfr.trans (((Fr.setCell (T := fun b => b ≠ wo.heap.size) _ _ _ (by simp)).tr (Fr.setCell _ _ _ (by simp))).tr (Fr.drew _ _)) fun i hi _ => ⟨trivial, by omega⟩
                  · rw [take_put2 _ _ _ _ (by omega), htk, List.take_add_one, hz, flat2_append]; rfl
                case measure => simp [intOf]; omega
            · obtain rfl : j = xs.length := by omega
              obtain ⟨hled, hqs, hrec, hf0, hnbk, hra, hc00⟩ := hLH.out
              have hled' := hled.fr hfr (fun _ _ => trivial)
              have hrec' := hrec.fr hfr (fun _ _ => trivial)
              obtain ⟨mb, D, hr, sM, hm⟩ := hled'.row
              obtain ⟨vs, o3, oS, ovl, oin⟩ := hrec'
              obtain ⟨ta3, tn3, tc3, rfl⟩ := own_shape o3
              obtain rfl := own_len o3
              have c3 : wr.cell? ⟨L, 3, none⟩ = some (.slice ta3 (recsTo pss css r).length tc3) := by rw [cell_of_row wr L _ _ _ _ hr]; rfl
              have hLl := heap_lt hr
              have hne3 := hid (own_ne o3 hr (by decide))
              have o3H := hid o3
              have hrH := hid hr
              have hrlenH := hid (recsTo_len pss css r)
              have hEH := hid (And.intro hfr (And.intro hg (And.intro hcs (And.intro htk (And.intro oS (And.intro ovl oin))))))
              clear hled hqs hrec hf0 hnbk hra hc00 hled' hm oin o3 hr sM hfr hg hcs htk oS ovl
              go_wp2_with (first
                | (at_builtin; refine wp_app rfl _ _ 50 rfl 0 69 (.slice none 0 0) 1 24 Try.underlying50 Try.info69 rfl (by omega) _ _ _ rfl (o3H.out.alloc _) wr.heap.size 0 1 1 [.slice (some ⟨wo.heap.size, 0, none⟩) xs.length xs.length] rfl rfl (by exact arr1 _ _ _) (by simp [Value.oneCell']) (by unfold maxLen; have := hrlenH.out; omega) (by have := hrlenH.out; omega) (by omega) ?_; intro v' w3 hown3 hg3 hbk; obtain ⟨a', n', c', rfl⟩ := own_shape hown3; have hb3 := (hg3.block L (by simp; omega) (fun e => hne3.out e.symm)).trans ((Below.heap_alloc wr _ L hLl).trans hrH.out); have z3 : w3.frozen? ⟨L, 3, none⟩ = false := frozen_of_row w3 L _ _ _ hb3; have c3' : w3.cell? ⟨L, 3, none⟩ = some (.slice ta3 (recsTo pss css r).length tc3) := (by rw [cell_of_row w3 L _ _ _ _ hb3]; rfl); have hb3H := hid (And.intro hb3 (And.intro hown3 (And.intro hg3 hbk))); clear hb3 hown3 hg3 hbk)
                | go_in)
              go_roundw
              case rel =>
                refine ⟨r + 1, by omega, by go_num, ?_⟩
                obtain ⟨hled, hqs, hrec, hf0, hnbk, hra, hc00⟩ := hLH.out
                obtain ⟨hfr, hg, hcs, htk, oS, ovl, oin⟩ := hEH.out
                obtain ⟨hb3, hown3, hg3, hbk⟩ := hb3H.out
                exact laying_next hled hqs hf0 hnbk hra hfr hg hcs htk hIH.out.2.2 o3H.out oS ovl oin hown3 hg3 hbk (by omega) hc00
              case measure => simp [intOf]; omega
        · obtain rfl : r = pss.length := by omega
          have hNu := hid (numb_start hly)
          clear hly
          go_wp2
          clear hlt hrl
          go_loopw [25] (fun i wr => ∃ k : Nat, k ≤ nus.length ∧ i = .int .i64 k ∧ Numb w L nb (stsTo ns cs ats es bs ns.length) srt (recsTo pss css pss.length) (nus.take k) wr) (fun i _ => nus.length - (intOf i).toNat)
          case atStart => exact ⟨0, by omega, rfl, by simpa using hNu.out⟩
          case round =>
            obtain ⟨k, hk, rfl, hnb⟩ := hrel
            by_cases hkt : k < nus.length
            · obtain ⟨-, -, ⟨ao, c, e, _, _, _, hp8⟩, -, -, hnw, -⟩ := gPH.out
              simp only [Value.slice.injEq, true_and] at e
              obtain ⟨rfl, rfl⟩ := e
              obtain ⟨b8', o8, rfl, _, d8⟩ := hp8 (by omega)
              obtain ⟨x, hx⟩ : ∃ x, nus[k]? = some x := ⟨_, List.getElem?_eq_getElem hkt⟩
              obtain ⟨qs, lv, t3, hled, hqs, hrec, hfr, hc00, hown⟩ := id hnb
              obtain ⟨mb, D, hr, sM, hm⟩ := hled.row
              have q4 : wr.cell? ⟨L, 4, none⟩ = some (.map (some nb)) := by rw [cell_of_row wr L _ _ _ _ hr]; rfl
              have q8 := hfr.cellSome (nums_cell d8 hx) trivial
              obtain ⟨w2, hrun2, hown2, hg2⟩ := World.ownsMap.update (w := wr.drew) (by exact hown) law53 Try.underlying80 (by unfold maxLen; simp; omega) (Maps.keyOf_int_mk Try.underlying53 (hnw x (List.mem_of_getElem? hx))) (unitElem_mk (H := Unit))
              have hKH := hid (And.intro hnb (And.intro hown2 (And.intro hg2 hx)))
              clear hp8 d8 hx hled hqs hrec hfr hc00 hown hr sM hm hnb hown2 hg2 hnw
              go_wp2
              go_region
              all_goals go_wp2
              all_goals
                go_roundw
                case rel =>
                  obtain ⟨hnb, hown2, hg2, hx⟩ := hKH.out
                  refine ⟨k + 1, by omega, by go_num, ?_⟩
                  rw [List.take_add_one, hx]
                  exact numb_next hnb hown2 ⟨hg2.os, hg2.tape, hg2.output, hg2.size, hg2.block⟩ hLn.2 hnbs
                case measure => simp [intOf]; omega
            · go_wp2
              go_ret
              obtain rfl : k = nus.length := by omega
              rw [List.take_length] at hnb
              exact numb_done hnb hnbs hLn.2

theorem c18g {T : Nat → Prop} (w : World) (nv cv av ev bv : Value) (ns : List ByteArray) (cs ats : List Int) (es bs : List Bool) (srt : Int) (h1 : Strs T w nv ns) (h2 : I64s T w cv cs) (h3 : I64s T w av ats) (h4 : Bls T w ev es) (h5 : Bls T w bv bs)
    (e2 : cs.length = ns.length) (e3 : ats.length = ns.length) (e4 : es.length = ns.length) (e5 : bs.length = ns.length) (hsz : ∀ s ∈ ns, s.size ≤ maxLen) (hn : ns.length ≤ 1048576)
    (pnv pcv nuv : Value) (pss : List (List ByteArray)) (css : List (List Int)) (nus : List Int) (h6 : Nest Value.string T w pnv pss) (h7 : Nest (Value.int .i64) T w pcv css) (h8 : U64s T w nuv nus) (e6 : css.length = pss.length) (e7 : ∀ (r : Nat) (xs : List ByteArray) (ys : List Int), pss[r]? = some xs → css[r]? = some ys → ys.length = xs.length) (hnw : ∀ n ∈ nus, (Lit.int .u64 n).wf = true)
    (b6 : pss.length ≤ 1048576) (b7 : ∀ xs ∈ pss, xs.length ≤ 1048576) (b8 : nus.length ≤ 1048576) :
    Calls Try.prog 18 #[nv, cv, av, ev, bv, .int .i64 srt, pnv, pcv, nuv] w (NewedG w srt (stsTo ns cs ats es bs ns.length) (recsTo pss css pss.length) nus) :=
  (c18x w nv cv av ev bv ns cs ats es bs srt h1 h2 h3 h4 h5 e2 e3 e4 e5 hsz hn pnv pcv nuv pss css nus h6 h7 h8 e6 e7 hnw b6 b7 b8).mono (by
    rintro e w' ⟨L, qs, lv, t3, nb, he, h1, h2, h3, h4, h5, h6⟩
    exact ⟨L, qs, lv, t3, nb, he, h1.mono (fun b hb => hb.1), h2, h3, h4, h5, h6⟩)

end Go.Proofs.Qxb6601232a
