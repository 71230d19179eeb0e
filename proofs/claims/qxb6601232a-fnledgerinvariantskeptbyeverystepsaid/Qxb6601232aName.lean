/-
  SEAT b6601232a. THE WALKS OF byName, ZZByName. By an AI agent.
-/
import Derived.Test.Qxb6601232aSort
import Derived.Test.Qxb6601232aClone
import Derived.BigRegion
import Derived.Deep.DeepCutAuto
namespace Go.Proofs.Qxb6601232a
open Go.RowKit
set_option linter.unusedVariables false
set_option linter.unusedSimpArgs false

theorem Rd.cut1 {T : Nat → Prop} {w : World} {a : Option Addr} {n c l : Nat} {xs : List Value} (hr : Rd T w (.slice a n c) n xs) (h1 : l ≤ n) : Rd T w (.slice (cutA a c l 1) (n - l) (c - l)) (n - l) (xs.drop l) := by
  obtain ⟨ao, c', he, hnc, hcm, hnil, hp⟩ := hr
  simp only [Value.slice.injEq, true_and] at he
  obtain ⟨rfl, rfl⟩ := he
  refine ⟨_, _, rfl, by omega, by omega, ?_, fun hpos => ?_⟩
  · intro h0
    cases a with
    | none => have := hnil rfl; omega
    | some a => unfold cutA at h0; split at h0
                · cases h0
                · simp at h0
  · obtain ⟨b, off, rfl, hT, hc⟩ := hp (by omega)
    refine ⟨b, off + l, ?_, hT, fun j u hj => ?_⟩
    · unfold cutA; rw [if_neg (by omega)]; simp [add_plain']
    · rw [List.getElem?_drop] at hj
      rw [Nat.add_assoc]; exact hc _ u hj
theorem c51n {T : Nat → Prop} (w : World) (ao : Option Addr) (n c : Nat) (ps : List Nat) (hn : n = ps.length) (h : Rd T w (.slice ao n c) n (ps.map ptr)) (hl : n ≤ 1099511627776) : Calls Try.prog 51 #[.slice ao n c] w (Cloned w 44 (ps.map ptr) n) := by
  subst hn; exact c51 w ao c ps h hl

theorem Try.size44 : (Try.prog.info? 44).map (·.size) = some 1 := by kernel_rfl

/-- What byName leaves: the same list's value, all of it in order of name. -/
def Named (w : World) (S : Nat → Prop) (L : Nat) (qs : List (Nat × St)) (lv t3 t4 : Value) (e : Ending) (w' : World) : Prop :=
  e = .returned lv ∧ ∃ qs', LedV w' S L qs' qs.length lv t3 t4 ∧ qs'.Perm qs ∧ Inc (qs'.map Prod.snd) ∧ Fr (fun x => ¬ S x) w w' ∧ Fr (fun x => lv.ownBlock ≠ some x ∧ x ≠ L) w w'

theorem named_of {w wr : World} {S : Nat → Prop} {L g cap : Nat} {qs qs' : List (Nat × St)} {lv t3 t4 : Value} {srt : Int} (h : LedV w S L qs srt lv t3 t4) (hf : Fr (fun x => lv.ownBlock ≠ some x) w wr)
    (ho : wr.ownsRow 0 44 1 lv qs.length (qs'.map fun q => ptr q.1)) (hp : qs'.Perm qs) (hi : Inc (qs'.map Prod.snd)) : Named w S L qs lv t3 t4 (.returned lv) (wr.setCell ⟨L, 2, none⟩ (.int .i64 qs.length)) := by
  obtain ⟨mb, D, hr, sM, hm⟩ := h.row
  have f : Fr (fun x => x ≠ L) wr (wr.setCell ⟨L, 2, none⟩ (.int .i64 qs.length)) := Fr.setCell _ _ _ (by simp)
  have hne : lv.ownBlock ≠ some L := own_ne h.own hr (by decide)
  have hLr := hf.heap hr hne
  have ft : Fr (fun x => lv.ownBlock ≠ some x ∧ x ≠ L) w (wr.setCell ⟨L, 2, none⟩ (.int .i64 qs.length)) := hf.trans f fun i hi hT => hT
  have hLm : mb ≠ L := by
    intro e; rw [← e] at hr
    obtain ⟨es, clock, hh, _⟩ := hm.1
    rw [hh] at hr; cases hr
  refine ⟨rfl, qs', ⟨h.sL, ⟨mb, D, ?_, sM, (hm.fr ft ⟨own_map h.own hm, hLm⟩).perm hp⟩, ?_, h.sB, fun q hq => ?_⟩, hp, hi, ft.mono fun i hi hT => ⟨fun e => hT (h.sB i e), fun e => hT (by rw [e]; exact h.sL)⟩, ft⟩
  · rw [heap_setCell_same wr L 2 _ 82 _ hLr]; rfl
  · rw [hp.length_eq]
    exact own_fr ho f (fun b hb e => hne (by rw [← e]; exact hb))
  · obtain ⟨s1, s2, s3⟩ := h.st q (hp.mem_iff.1 hq)
    exact ⟨s1, ft.heap s2 ⟨own_ne h.own s2 (by decide), fun e => by rw [e, hr] at s2; cases s2⟩, s3⟩

theorem pair_inj' {qs : List (Nat × St)} {s : Nat} (hn : (names (qs.map Prod.snd)).Nodup) {p q : Nat × St} (hp : p ∈ qs.take s) (hq : q ∈ qs.drop s) : p.2.name ≠ q.2.name := by
  unfold names List.Nodup at hn
  rw [List.map_map, List.pairwise_map, ← List.take_append_drop s qs, List.pairwise_append] at hn
  exact hn.2.2 p hp q hq
theorem drew_set {wr w1 : World} {g : Nat} (a : Addr) (v : Value) (h : w1.heap = wr.heap ∧ w1.os = wr.os ∧ w1.tape = wr.tape ∧ w1.output = wr.output) (ha : a.block = g := by rfl) : Fr (fun x => x ≠ g) wr (w1.setCell a v) := by
  have f : Fr (fun x => x ≠ g) w1 (w1.setCell a v) := Fr.setCell _ _ _ (by simp [ha])
  exact ⟨f.os.trans h.2.1, f.tape.trans h.2.2.1, f.output.trans h.2.2.2, by rw [← h.1]; exact f.size, fun k hk hT => by rw [← h.1]; exact f.block k (by rw [h.1]; exact hk) hT⟩

set_option maxRecDepth 100000 in
set_option maxHeartbeats 4000000 in
/-- byName, where some standing is new. -/
theorem c47_pos (w : World) (S : Nat → Prop) (L s : Nat) (qs : List (Nat × St)) (lv t3 t4 : Value) (h : LedV w S L qs s lv t3 t4) (hn : (names (qs.map Prod.snd)).Nodup) (hs : s < qs.length) (hinc : Incq (qs.take s)) (hlen : qs.length ≤ 1099511627776) :
    Calls Try.prog 47 #[.pointer (some ⟨L, 0, none⟩)] w (Named w S L qs lv t3 t4) := by
  obtain ⟨mb, D, hr, sM, hm⟩ := h.row
  have hrd := Rd.own (T := All) h.own (fun _ _ _ => trivial)
  obtain ⟨la, n0, lc, rfl⟩ := own_shape h.own
  obtain rfl := own_len h.own
  rcases h.own.2 with ⟨e, _⟩ | ⟨g, cap, cur, e, _, hg, hgc, hcm, hcs, htk⟩
  · exfalso; simp at e; omega
  simp only [Value.slice.injEq, true_and] at e
  obtain ⟨rfl, rfl⟩ := e
  have c1 : w.cell? ⟨L, 1, none⟩ = some (.slice (some ⟨g, 0, none⟩) qs.length lc) := by rw [cell_of_row w L _ _ _ _ hr]; rfl
  have c2 : w.cell? ⟨L, 2, none⟩ = some (.int .i64 s) := by rw [cell_of_row w L _ _ _ _ hr]; rfl
  have hsl := fun W => run_cut_l (P := Try.prog) Try.underlying40 Try.size44 (some ⟨g, 0, none⟩) qs.length lc s (by omega) .i64 W
  have hcut0 := hid (hrd.cut1 (l := s) (by omega))
  have hKH := hid (And.intro h (And.intro hn (And.intro hinc (And.intro hr (And.intro hg (And.intro hcs htk))))))
  clear h hn hinc hr hg hcs htk hrd sM hm
  go_enter Try.func47, Try.ntmps47
  go_upto_region 1 with fail
  go_cut [3] (fun p wx => ∃ a n c, p = .slice a n c ∧ Fr All w wx ∧ wx.ownsRow w.heap.size 44 1 (.slice a n c) (qs.length - s) (((qs.drop s).map Prod.fst).map ptr))
  case first =>
    go_region_with (go_at_call 51; refine (c51n (T := All) _ _ _ _ ((qs.drop s).map Prod.fst) (by simp) (by rw [List.map_map, List.map_drop]; exact Rd.fr hcut0.out (by first | exact Fr.drewN _ _ _ | exact Fr.drew _ _ | exact (Fr.drewN _ _ _).tr (Fr.drew _ _))) (by omega)).mono ?_; rintro e w2 ⟨v2, rfl, g2, o2⟩; obtain ⟨a', n', c', rfl⟩ := own_shape o2)
    all_goals (go_wp2_with fail; go_meet)
    all_goals exact ⟨_, _, _, rfl, (by first | exact (Fr.drewN _ _ _).tr g2 | exact (Fr.drew _ _).tr g2), by simpa using o2⟩
  case rest =>
    obtain ⟨fa, fn, fc, rfl, hfW, hof⟩ := hcut
    obtain rfl := own_len hof
    rcases hof.2 with ⟨e, e'⟩ | ⟨f0, cap', cur', e, hf0, hgf, hgc', hcm', hcs', htk'⟩
    · exfalso; omega
    simp only [Value.slice.injEq, true_and] at e
    obtain ⟨rfl, rfl⟩ := e
    have hFl : (qs.drop s).length = qs.length - s := by simp
    obtain ⟨h, hn, hinc, hr, hg, hcs, htk⟩ := hKH.out
    have hA : ∀ q ∈ qs.drop s, At wc f0 q := by
      intro q hq
      obtain ⟨s1, s2, s3⟩ := h.st q (List.mem_of_mem_drop hq)
      have hb := hfW.heap s2 trivial
      refine ⟨by rw [cell_of_row wc _ _ _ _ _ hb]; rfl, ?_⟩
      have := heap_lt s2; omega
    have hnF : (names ((qs.drop s).map Prod.snd)).Nodup := by
      refine List.Nodup.sublist ?_ hn
      exact ((List.drop_sublist s qs).map _).map _
    have hrow : ∀ j q, (qs.drop s)[j]? = some q → wc.cell? ⟨f0, j, none⟩ = some (ptr q.1) := by
      intro j q hj
      have hjl : j < qs.length - s := by have := (List.getElem?_eq_some_iff.1 hj).1; simpa using this
      rw [cell_of_row wc f0 _ _ _ _ hgf, ← Array.getElem?_toList, ← List.getElem?_take_of_lt (show j < (qs.length - s) * 1 by omega), htk']
      simp only [List.getElem?_map, hj, Option.map_some]
    have hz : ∀ j, wc.frozen? ⟨f0, j, none⟩ = false := fun j => frozen_of_row wc f0 _ _ _ hgf
    have hc := c52_pos wc f0 fc (qs.drop s) (by omega) hA hnF ⟨by omega, hcm'⟩ (by omega) hrow hz (heap_lt hgf)
    rw [hFl] at hc
    have hfH := hid (And.intro hfW hf0)
    clear h hn hinc hr hg hcs htk hA hnF hrow hz hof hgf htk' hcs' c1 c2 hsl hcut0 hfW hf0 hFl
    go_wp2_with (go_at_call 52; refine hc.mono ?_; rintro e W ⟨rfl, F', hperm, hincF, hfs, hrdF⟩; have fW : Fr All w W := (by exact hfH.out.1.trans hfs (fun i hi _ => ⟨trivial, by intro e; simp [Value.ownBlock] at e; have := hfH.out.2; omega⟩)); have hLW := fW.heap hKH.out.2.2.2.1 trivial; have c1 : W.cell? ⟨L, 1, none⟩ = some (.slice (some ⟨g, 0, none⟩) qs.length lc) := (by rw [cell_of_row W L _ _ _ _ hLW]; rfl); have c2 : W.cell? ⟨L, 2, none⟩ = some (.int .i64 s) := (by rw [cell_of_row W L _ _ _ _ hLW]; rfl); have hSH := hid (And.intro hperm (And.intro hincF (And.intro hrdF (And.intro fW hLW)))); clear hperm hincF hrdF fW hLW hfs hc)
    go_quiet (fail)
    go_wp2
    obtain ⟨W2, hW2⟩ : ∃ W2, W2 = W.drewN nq := ⟨_, rfl⟩
    have hWf : Fr All W W2 := by rw [hW2]; exact Fr.drewN _ _ _
    rw [← hW2]
    clear hW2 c1 c2
    obtain ⟨hperm, hincF, hrdF, fW, hLW⟩ := hSH.out
    obtain ⟨h, hn, hinc, hr, hg, hcs, htk⟩ := hKH.out
    have f2 : Fr All w W2 := fW.tr hWf
    have hL2 := hid (f2.heap hr trivial)
    have hg2 := f2.heap hg trivial
    have hFl : F'.length = qs.length - s := by rw [hperm.length_eq]; simp
    have hfc : ∀ j q, F'[j]? = some q → W2.cell? ⟨f0, j, none⟩ = some (ptr q.1) := by
      intro j q hj
      obtain ⟨ao, c', e, _, _, _, hp⟩ := hrdF
      simp only [Value.slice.injEq, true_and] at e
      obtain ⟨rfl, _, rfl⟩ := e
      have hjl : j < F'.length := (List.getElem?_eq_some_iff.1 hj).1
      obtain ⟨b, off, e1, _, hcell⟩ := hp (by simp; omega)
      simp only [Option.some.injEq, Addr.mk.injEq, and_true] at e1
      obtain ⟨rfl, rfl⟩ := e1
      have := hcell j (ptr q.1) (by simp [hj])
      rw [Nat.zero_add] at this
      exact hWf.cellSome this trivial
    have hnmc : ∀ q ∈ qs, W2.cell? ⟨q.1, 0, none⟩ = some (.string q.2.name) ∧ q.1 ≠ g := by
      intro q hq
      obtain ⟨_, s2, _⟩ := h.st q hq
      refine ⟨by rw [cell_of_row W2 _ _ _ _ _ (f2.heap s2 trivial)]; rfl, fun e => ?_⟩
      rw [e, hg] at s2; cases s2
    have hgL : L ≠ g := by intro e; rw [e, hg] at hr; cases hr
    have hg0 : f0 ≠ g := by have := heap_lt hg; have := hfH.out.2; omega
    have hNH := hid (And.intro hfc (And.intro hnmc (And.intro hFl (And.intro f2 (And.intro hg2 (And.intro hcs htk))))))
    have hPH := hid (And.intro hperm hincF)
    have hmem : Hid (∀ q ∈ F', q ∈ qs) := fun q hq => List.mem_of_mem_drop (hperm.mem_iff.1 hq)
    clear h hn hinc hr hg hcs htk hperm hincF hrdF fW hLW hSH hfc hnmc hg2 f2 hFl hWf
    go_loopw [4, 5, 6] (fun o p nx wr => ∃ (old pl next : Nat) (M : List (Nat × St)) (cur : Array Value), o = .int .i64 old ∧ p = .int .i64 pl ∧ nx = .int .i64 next ∧ Hid (pl = old + next) ∧ old ≤ s ∧ next ≤ qs.length - s ∧ Mg (qs.take s) F' old next M ∧ Fr (fun x => x ≠ g) W2 wr ∧ Hid (wr.heap[g]? = some (.cells cur 44 (0, 0)) ∧ cur.size = lc ∧ Rows cur qs.length (qs.take s) old pl M)) (fun _ p _ _ => (intOf p).toNat)
    case atStart =>
      obtain ⟨hfc, hnmc, hFl, f2, hg2, hcs, htk⟩ := hNH.out
      refine ⟨s, qs.length, qs.length - s, [], cur, rfl, rfl, rfl, (by show _ = _; omega), Nat.le_refl _, Nat.le_refl _, ?_, Fr.refl _ _, hg2, by omega, ⟨by omega, fun j q hj hq => ?_, fun j q hj => by simp at hj, by simp⟩⟩
      · have := Mg.start (qs.take s) F'
        rw [hFl, List.length_take, Nat.min_eq_left (by omega)] at this
        exact this
      · rw [List.getElem?_take_of_lt hj] at hq
        rw [← Array.getElem?_toList, ← List.getElem?_take_of_lt (show j < qs.length * 1 by omega), htk]
        simp only [List.getElem?_map, hq, Option.map_some]
    case round =>
      obtain ⟨old, pl, next, M, cu, rfl, rfl, rfl, hpl, ho, hnx, hmg, hfr, hrw⟩ := hrel
      have c1 : wr.cell? ⟨L, 1, none⟩ = some (.slice (some ⟨g, 0, none⟩) qs.length lc) := hfr.cellSome (by rw [cell_of_row W2 L _ _ _ _ hL2.out]; rfl) hgL
      by_cases hn0 : next = 0
      · subst hn0
        have c2 : wr.cell? ⟨L, 2, none⟩ = some (.int .i64 s) := hfr.cellSome (by rw [cell_of_row W2 L _ _ _ _ hL2.out]; rfl) hgL
        have z2 : wr.frozen? ⟨L, 2, none⟩ = false := frozen_of_row wr L _ _ _ (hfr.heap hL2.out hgL)
        have hmH := hid (And.intro hmg hfr)
        clear hmg hfr
        go_wp2
        go_ret
        obtain ⟨hmg, hfr⟩ := hmH.out
        obtain ⟨hgg, hcs, hrows⟩ := hrw.out
        obtain ⟨h, hn, hinc, hr, hg, _, _⟩ := hKH.out
        have hplo : pl = old := hpl.out
        subst hplo
        obtain ⟨d1, d2⟩ := hmg.done hinc
        have hp : (((qs.take s).take pl) ++ M).Perm qs := by
          refine d2.trans ((hPH.out.1.append_left _).trans ?_)
          rw [List.take_append_drop]
        refine named_of (g := g) (cap := lc) h ((hNH.out.2.2.2.1.trans hfr fun i hi hT => ⟨trivial, fun e => hT (by rw [e]; rfl)⟩)) ?_ hp d1.inc
        exact ⟨by rw [List.length_map, hp.length_eq]; omega, .inr ⟨g, lc, cu, rfl, Nat.zero_le _, hgg, by omega, hcm, by omega, by rw [Nat.mul_one]; exact hrows.done (by simp; omega)⟩⟩
      · obtain ⟨n', rfl⟩ : ∃ n', next = n' + 1 := ⟨next - 1, by omega⟩
        obtain ⟨p', rfl⟩ : ∃ p', pl = p' + 1 := ⟨pl - 1, by have : pl = old + (n' + 1) := hpl.out; omega⟩
        have hple : p' + 1 ≤ qs.length := by have : p' + 1 = old + (n' + 1) := hpl.out; omega
        obtain ⟨fq, hfq⟩ : ∃ q, F'[n']? = some q := ⟨F'[n']'(by rw [hNH.out.2.2.1]; omega), by simp⟩
        have hfqm := hmem.out fq (List.mem_of_getElem? hfq)
        have d1 : wr.cell? ⟨f0, n', none⟩ = some (.pointer (some ⟨fq.1, 0, none⟩)) := hfr.cellSome (hNH.out.1 n' fq hfq) hg0
        have d2 : wr.cell? ⟨fq.1, 0, none⟩ = some (.string fq.2.name) := hfr.cellSome (hNH.out.2.1 fq hfqm).1 (hNH.out.2.1 fq hfqm).2
        have hpcu : p' < cu.size := by have := hrw.out.2.2.sz; omega
        have d3 : wr.cell? ⟨g, p', none⟩ = some (cu[p']'hpcu) := by rw [cell_of_row wr g _ _ _ _ hrw.out.1]; simp
        have d4 : wr.frozen? ⟨g, p', none⟩ = false := frozen_of_row wr g _ _ _ hrw.out.1
        cases old with
        | zero =>
          have hH := hid (And.intro hmg (And.intro hfr hfq))
          clear hmg hfr hfq
          go_wp2
          go_quiet (fail)
          go_wp2
          go_region
          all_goals go_wp2
          all_goals
            go_roundw
            case rel =>
              obtain ⟨hmg, hfr, hfq⟩ := hH.out
              obtain ⟨hgg, hcs, hrows⟩ := hrw.out
              obtain ⟨h, hn, hinc, hr, hg, _, _⟩ := hKH.out
              have hpe : p' + 1 = 0 + (n' + 1) := hpl.out
              refine ⟨0, p', n', fq :: M, cu.setIfInBounds p' (ptr fq.1), rfl, by go_num, by go_num, (by show _ = _; omega), by omega, by omega, ?_, ?_, heap_setCell_same _ g p' cu 44 _ hgg, by simpa using hcs, ?_⟩
              · exact hmg.fresh hinc hPH.out.2 (by omega) hfq (fun h => by omega) (by omega)
              · exact hfr.tr (drew_set _ _ ⟨rfl, rfl, rfl, rfl⟩)
              · exact hrows.put (by omega) (Nat.le_refl _) (by omega) fq
            case measure => simp [intOf]
        | succ o' =>
          have hos : o' < s := by omega
          obtain ⟨pq, hpq⟩ : ∃ q, (qs.take s)[o']? = some q := ⟨_, List.getElem?_eq_getElem (by simp; omega)⟩
          have hpqm : pq ∈ qs := List.mem_of_mem_take (List.mem_of_getElem? hpq)
          have d5 : wr.cell? ⟨g, o', none⟩ = some (.pointer (some ⟨pq.1, 0, none⟩)) := by
            rw [cell_of_row wr g _ _ _ _ hrw.out.1]; exact hrw.out.2.2.lo o' pq (by omega) hpq
          have d6 : wr.cell? ⟨pq.1, 0, none⟩ = some (.string pq.2.name) := hfr.cellSome (hNH.out.2.1 pq hpqm).1 (hNH.out.2.1 pq hpqm).2
          have hpe : p' = o' + n' + 1 := by have : p' + 1 = (o' + 1) + (n' + 1) := hpl.out; omega
          have hnn : pq.2.name ≠ fq.2.name := by
            intro e
            have hn := hKH.out.2.1
            have e1 := pair_inj' hn (List.mem_of_getElem? hpq) (hPH.out.1.mem_iff.1 (List.mem_of_getElem? hfq))
            exact e1 e
          have he : (pq.2.name.toList == fq.2.name.toList) = false := by simpa using fun e => hnn (ba_toList_inj e)
          have hol : o' < qs.length := by omega
          have hop : o' < p' := by omega
          have hpeH := hid hpe
          clear hpe hnn
          cases hd : bless fq.2.name pq.2.name
          · have hd' : bless pq.2.name fq.2.name = true := by
              rcases bless_total pq.2.name fq.2.name with k | k | k
              · exact k
              · rw [k] at he; simp at he
              · rw [hd] at k; cases k
            have hlt : Op.bytesLess pq.2.name.toList fq.2.name.toList = true := hd'
            have hH := hid (And.intro hmg (And.intro hfr (And.intro hfq (And.intro hpq (show lts pq fq from hd')))))
            clear hmg hfr hfq hpq hd hd'
            go_wp2
            go_quiet (fail)
            go_wp2
            go_region
            all_goals go_wp2
            all_goals
              go_roundw
              case rel =>
                obtain ⟨hmg, hfr, hfq, hpq, hd⟩ := hH.out
                obtain ⟨hgg, hcs, hrows⟩ := hrw.out
                obtain ⟨h, hn, hinc, hr, hg, _, _⟩ := hKH.out
                have hpe : p' + 1 = (o' + 1) + (n' + 1) := hpl.out
                refine ⟨o' + 1, p', n', fq :: M, cu.setIfInBounds p' (ptr fq.1), by go_num, by go_num, by go_num, (by show _ = _; omega), by omega, by omega, ?_, ?_, heap_setCell_same _ g p' cu 44 _ hgg, by simpa using hcs, ?_⟩
                · exact hmg.fresh hinc hPH.out.2 (by omega) hfq (fun _ q hq => by rw [show o' + 1 - 1 = o' from rfl, hpq] at hq; cases hq; exact hd) (by simp; omega)
                · exact hfr.tr (drew_set _ _ ⟨rfl, rfl, rfl, rfl⟩)
                · exact hrows.put (by omega) (by omega) (by omega) fq
              case measure => simp [intOf]
          · have hlt : Op.bytesLess pq.2.name.toList fq.2.name.toList = false := by
              cases k : Op.bytesLess pq.2.name.toList fq.2.name.toList
              · rfl
              · exact (bless_asymm hd k).elim
            have hH := hid (And.intro hmg (And.intro hfr (And.intro hfq (And.intro hpq (show lts fq pq from hd)))))
            clear hmg hfr hfq hpq hd
            go_wp2
            go_quiet (fail)
            go_wp2
            go_region
            all_goals go_wp2
            all_goals
              go_roundw
              case rel =>
                obtain ⟨hmg, hfr, hfq, hpq, hd⟩ := hH.out
                obtain ⟨hgg, hcs, hrows⟩ := hrw.out
                obtain ⟨h, hn, hinc, hr, hg, _, _⟩ := hKH.out
                have hpe : p' + 1 = (o' + 1) + (n' + 1) := hpl.out
                refine ⟨o', p', n' + 1, pq :: M, cu.setIfInBounds p' (ptr pq.1), by go_num, by go_num, by go_num, (by show _ = _; omega), by omega, by omega, ?_, ?_, heap_setCell_same _ g p' cu 44 _ hgg, by simpa using hcs, ?_⟩
                · exact hmg.old hinc hPH.out.2 (by omega) (by omega) hpq hfq hd
                · exact hfr.tr (drew_set _ _ ⟨rfl, rfl, rfl, rfl⟩)
                · exact hrows.put (by omega) (by omega) (by omega) pq
              case measure => simp [intOf]

set_option maxRecDepth 100000 in
set_option maxHeartbeats 4000000 in
/-- byName, where no standing is new. -/
theorem c47_zero (w : World) (S : Nat → Prop) (L : Nat) (qs : List (Nat × St)) (lv t3 t4 : Value) (h : LedV w S L qs qs.length lv t3 t4) (hinc : Incq qs) (hlen : qs.length ≤ 1099511627776)
    (hsort : ∀ (p : Option Addr) (cap : Nat) (fv : Value) (w : World), Calls Try.prog 52 #[.slice p 0 cap, fv] w fun e w' => e = .returned (.tuple #[]) ∧ w' = w) :
    Calls Try.prog 47 #[.pointer (some ⟨L, 0, none⟩)] w (Named w S L qs lv t3 t4) := by
  obtain ⟨mb, D, hr, sM, hm⟩ := h.row
  have hrd := Rd.own (T := All) h.own (fun _ _ _ => trivial)
  obtain ⟨la, n0, lc, rfl⟩ := own_shape h.own
  obtain rfl := own_len h.own
  have c1 : w.cell? ⟨L, 1, none⟩ = some (.slice la qs.length lc) := by rw [cell_of_row w L _ _ _ _ hr]; rfl
  have c2 : w.cell? ⟨L, 2, none⟩ = some (.int .i64 qs.length) := by rw [cell_of_row w L _ _ _ _ hr]; rfl
  have hsl : ∀ W, (Instr.slice 40 (.slice la qs.length lc) (some (.int .i64 (qs.length : Int))) none none).run Try.prog W = .ok (.slice (cutA la lc qs.length 1) 0 (lc - qs.length)) W := fun W => by
    have := run_cut_l (P := Try.prog) Try.underlying40 Try.size44 la qs.length lc qs.length (Nat.le_refl _) .i64 W
    rwa [Nat.sub_self] at this
  have hcut0 := hid (by have := hrd.cut1 (l := qs.length) (Nat.le_refl _); rw [Nat.sub_self, List.drop_of_length_le (by simp)] at this; exact this : Rd All w (.slice (cutA la lc qs.length 1) 0 (lc - qs.length)) 0 [])
  have hKH := hid (And.intro h (And.intro hinc hr))
  clear h hinc hr hrd sM hm
  go_enter Try.func47, Try.ntmps47
  go_upto_region 1 with fail
  go_cut [3] (fun p wx => ∃ a c, p = .slice a 0 c ∧ Fr All w wx)
  case first =>
    go_region_with (go_at_call 51; refine (c51n (T := All) _ _ _ _ [] (by simp) (by exact Rd.fr hcut0.out (by first | exact Fr.drewN _ _ _ | exact Fr.drew _ _ | exact (Fr.drewN _ _ _).tr (Fr.drew _ _))) (by omega)).mono ?_; rintro e w2 ⟨v2, rfl, g2, o2⟩; obtain ⟨a', n', c', rfl⟩ := own_shape o2; obtain rfl := own_len o2)
    all_goals (go_wp2_with fail; go_meet)
    all_goals exact ⟨_, _, rfl, (by first | exact (Fr.drewN _ _ _).tr g2 | exact (Fr.drew _ _).tr g2)⟩
  case rest =>
    obtain ⟨fa, fc, rfl, hfW⟩ := hcut
    have hLW := hfW.heap hKH.out.2.2 trivial
    have c1 : wc.cell? ⟨L, 1, none⟩ = some (.slice la qs.length lc) := (by rw [cell_of_row wc L _ _ _ _ hLW]; rfl)
    have c2 : wc.cell? ⟨L, 2, none⟩ = some (.int .i64 qs.length) := (by rw [cell_of_row wc L _ _ _ _ hLW]; rfl)
    have z2 : wc.frozen? ⟨L, 2, none⟩ = false := frozen_of_row wc L _ _ _ hLW
    have hfH := hid hfW
    clear hLW hfW hsl hcut0
    go_wp2_with (go_at_call 52; refine (hsort _ _ _ _).mono ?_; rintro e W ⟨rfl, rfl⟩)
    go_quiet (fail)
    go_wp2
    refine wp_loop_rounds 1 ?_
    rw [rounds_succ]
    go_wp2
    go_ret
    obtain ⟨h, hinc, hr⟩ := hKH.out
    exact named_of (g := 0) (cap := 0) h (hfH.out.any.tr (Fr.drewN _ _ _)) (own_fr (own_fr h.own hfH.out (fun _ _ => trivial)) (Fr.drewN All _ _) (fun _ _ => trivial)) (List.Perm.refl _) hinc.inc

end Go.Proofs.Qxb6601232a
