/-
  SEAT b6601232a. RECORDS OF CREDITS; THE WALKS OF reshard, ZZReshard. By an AI agent.
-/
import Derived.Test.Qxb6601232aName2
import Derived.Test.Qxb6601232aPart
import Derived.BigRegion
import Derived.Deep.RegionHeld3
namespace Go.Proofs.Qxb6601232a
open Go.RowKit
set_option linter.unusedVariables false
set_option linter.unusedSimpArgs false

theorem Try.info71 : (Try.prog.info? 71).map (fun i => (i.zero, i.size, i.bytes)) = some (some (.agg #[.string ByteArray.empty, .int .i64 0]), 2, 24) := by kernel_rfl
theorem Try.info69 : (Try.prog.info? 69).map (fun i => (i.zero, i.size, i.bytes)) = some (some (.slice none 0 0), 1, 24) := by kernel_rfl

/-- A credit's cells; the cells of a record. -/
def crc (c : ByteArray × Int) : List Value := [.string c.1, .int .i64 c.2]
def flat2 (cs : List (ByteArray × Int)) : List Value := cs.flatMap crc
theorem flat2_nil : flat2 [] = [] := rfl
theorem flat2_cons (c : ByteArray × Int) (cs : List (ByteArray × Int)) : flat2 (c :: cs) = crc c ++ flat2 cs := rfl
theorem flat2_append (a b : List (ByteArray × Int)) : flat2 (a ++ b) = flat2 a ++ flat2 b := by simp [flat2]
theorem length_flat2 (cs : List (ByteArray × Int)) : (flat2 cs).length = cs.length * 2 := by
  induction cs with
  | nil => rfl
  | cons r rs ih => simp [flat2_cons, crc, ih]; omega
theorem flat2_get (cs : List (ByteArray × Int)) (k j : Nat) (c : ByteArray × Int) (hk : cs[k]? = some c) (hj : j < 2) : (flat2 cs)[k * 2 + j]? = (crc c)[j]? := by
  induction cs generalizing k with
  | nil => simp at hk
  | cons q rs ih =>
    cases k with
    | zero =>
      simp at hk; subst hk
      rw [flat2_cons, List.getElem?_append_left (by simp [crc]; omega)]; simp
    | succ k =>
      simp at hk
      rw [flat2_cons, List.getElem?_append_right (by simp [crc]; omega)]
      rw [← ih k hk]; congr 1; simp [crc]; omega
def put2 (cur : Array Value) (k : Nat) (a b : Value) : Array Value := (cur.setIfInBounds (k * 2) a).setIfInBounds (k * 2 + 1) b
theorem size_put2 (cur : Array Value) (k : Nat) (a b : Value) : (put2 cur k a b).size = cur.size := by simp [put2]
theorem take_put2 (cur : Array Value) (k : Nat) (a b : Value) (h : k * 2 + 1 < cur.size) : (put2 cur k a b).toList.take ((k + 1) * 2) = cur.toList.take (k * 2) ++ [a, b] := by
  have hl : cur.toList.length = cur.size := rfl
  apply List.ext_getElem?
  intro j
  simp only [put2, Array.toList_setIfInBounds]
  by_cases h0 : j < k * 2
  · rw [List.getElem?_take_of_lt (by omega), List.getElem?_append_left (by simp; omega)]
    rw [List.getElem?_set_ne (by omega), List.getElem?_set_ne (by omega), List.getElem?_take_of_lt h0]
  · by_cases h1 : j < (k + 1) * 2
    · rw [List.getElem?_take_of_lt h1, List.getElem?_append_right (by simp; omega)]
      simp only [List.length_take, hl]
      rw [Nat.min_eq_left (by omega)]
      obtain rfl | rfl : j = k * 2 ∨ j = k * 2 + 1 := by omega
      · rw [List.getElem?_set_ne (by omega), List.getElem?_set_self (by omega)]; simp
      · rw [List.getElem?_set_self (by simp; omega)]; simp
    · rw [List.getElem?_eq_none (by simp; omega), List.getElem?_eq_none (by simp; omega)]
theorem heap_put2 {w : World} {g k : Nat} {cur : Array Value} {t : TypeId} (hg : w.heap[g]? = some (.cells cur t (0, 0))) (a b : Value) :
    ((w.setCell ⟨g, k * 2, none⟩ a).setCell ⟨g, k * 2 + 1, none⟩ b).heap[g]? = some (.cells (put2 cur k a b) t (0, 0)) :=
  heap_setCell_same _ g (k * 2 + 1) _ t b (heap_setCell_same w g (k * 2) cur t a hg)

/-- The earlier records: they lie in blocks that S names. -/
def RecsW (w : World) (S : Nat → Prop) (t3 : Value) (recs : List (List (ByteArray × Int))) : Prop :=
  ∃ vs, w.ownsRow 0 69 1 t3 recs.length vs ∧ (∀ g, t3.ownBlock = some g → S g) ∧ vs.length = recs.length ∧
    ∀ (i : Nat) (u : Value) (rec : List (ByteArray × Int)), vs[i]? = some u → recs[i]? = some rec → w.ownsRow 0 71 2 u rec.length (flat2 rec) ∧ ∀ g, u.ownBlock = some g → S g
theorem RecsW.mono {w : World} {S S' : Nat → Prop} {t3 : Value} {recs : List (List (ByteArray × Int))} (h : RecsW w S t3 recs) (hs : ∀ b, S b → S' b) : RecsW w S' t3 recs := by
  obtain ⟨vs, h1, h2, h3, h4⟩ := h
  exact ⟨vs, h1, fun g hg => hs g (h2 g hg), h3, fun i u rec hu hr => ⟨(h4 i u rec hu hr).1, fun g hg => hs g ((h4 i u rec hu hr).2 g hg)⟩⟩
theorem RecsW.fr {T : Nat → Prop} {w w' : World} {S : Nat → Prop} {t3 : Value} {recs : List (List (ByteArray × Int))} (h : RecsW w S t3 recs) (f : Fr T w w') (hT : ∀ b, S b → T b) : RecsW w' S t3 recs := by
  obtain ⟨vs, h1, h2, h3, h4⟩ := h
  exact ⟨vs, own_fr h1 f (fun b hb => hT b (h2 b hb)), h2, h3, fun i u rec hu hr => ⟨own_fr (h4 i u rec hu hr).1 f (fun b hb => hT b ((h4 i u rec hu hr).2 b hb)), (h4 i u rec hu hr).2⟩⟩
/-- .. while a block of another kind is written. -/
theorem RecsW.other {w w' : World} {S : Nat → Prop} {t3 : Value} {recs : List (List (ByteArray × Int))} {b : Nat} {cs : Array Value} {t : TypeId} {fz : Nat × Nat} (h : RecsW w S t3 recs) (f : Fr (fun x => x ≠ b) w w') (hb : w.heap[b]? = some (.cells cs t fz)) (h1 : t ≠ 69) (h2 : t ≠ 71) : RecsW w' S t3 recs := by
  obtain ⟨vs, g1, g2, g3, g4⟩ := h
  refine ⟨vs, own_fr g1 f (fun x hx e => own_ne g1 hb h1 (by rw [← e]; exact hx)), g2, g3, fun i u rec hu hr => ?_⟩
  obtain ⟨k1, k2⟩ := g4 i u rec hu hr
  exact ⟨own_fr k1 f (fun x hx e => own_ne k1 hb h2 (by rw [← e]; exact hx)), k2⟩
theorem RecsW.nil (w : World) (S : Nat → Prop) : RecsW w S (.slice none 0 0) [] := ⟨[], World.ownsRow_nil _ _ _ _, (fun g hg => by cases hg), rfl, (fun i u rec hu => by simp at hu)⟩

/-- What a resharding does to a standing. -/
def reset (s : St) : St := { s with cr := 0, ex := s.bn }
theorem reset_name (s : St) : (reset s).name = s.name := rfl
/-- The first k have been set back. -/
def backTo (k : Nat) (qs : List (Nat × St)) : List (Nat × St) := (qs.take k).map (fun q => (q.1, reset q.2)) ++ qs.drop k
theorem backTo_zero (qs : List (Nat × St)) : backTo 0 qs = qs := by simp [backTo]
theorem backTo_all (qs : List (Nat × St)) : backTo qs.length qs = qs.map fun q => (q.1, reset q.2) := by simp [backTo]
theorem backTo_len (k : Nat) (qs : List (Nat × St)) : (backTo k qs).length = qs.length := by simp [backTo]; omega
theorem backTo_names (k : Nat) (qs : List (Nat × St)) : names ((backTo k qs).map Prod.snd) = names (qs.map Prod.snd) := by
  unfold backTo names
  conv => rhs; rw [← List.take_append_drop k qs]
  simp only [List.map_append, List.map_map, Function.comp_def, reset_name]
theorem backTo_get {k : Nat} {qs : List (Nat × St)} {q : Nat × St} (h : qs[k]? = some q) : (backTo k qs)[k]? = some q := by
  have hk := (List.getElem?_eq_some_iff.1 h).1
  unfold backTo
  rw [List.getElem?_append_right (by simp; omega)]
  simp only [List.length_map, List.length_take, Nat.min_eq_left (Nat.le_of_lt hk), Nat.sub_self, List.getElem?_drop, Nat.add_zero]
  exact h
theorem backTo_step {k : Nat} {qs : List (Nat × St)} {q : Nat × St} (h : qs[k]? = some q) (hn : (names (qs.map Prod.snd)).Nodup) (hb : ∀ p ∈ backTo k qs, p.1 = q.1 → p = q) : (backTo k qs).map (fun p => if p.1 = q.1 then (q.1, reset q.2) else p) = backTo (k + 1) qs := by
  have hk := (List.getElem?_eq_some_iff.1 h).1
  have hd : qs.drop k = q :: qs.drop (k + 1) := by
    rw [List.drop_eq_getElem_cons hk]; congr 1
    exact (List.getElem?_eq_some_iff.1 h).2
  have hA : ∀ p ∈ (qs.take k).map (fun q => (q.1, reset q.2)), p.1 ≠ q.1 := by
    intro p hp e
    have hpq := hb p (by unfold backTo; exact List.mem_append_left _ hp) e
    obtain ⟨r, hr, rfl⟩ := List.mem_map.1 hp
    have := pair_inj' (s := k) hn hr (by rw [hd]; exact List.mem_cons_self ..)
    apply this
    rw [← hpq]; rfl
  have hB : ∀ p ∈ qs.drop (k + 1), p.1 ≠ q.1 := by
    intro p hp e
    have hpq := hb p (by unfold backTo; refine List.mem_append_right _ ?_; rw [hd]; exact List.mem_cons_of_mem _ hp) e
    have hq1 : q ∈ qs.take (k + 1) := by rw [List.take_add_one, h]; simp
    exact pair_inj' (s := k + 1) hn hq1 hp (by rw [hpq])
  unfold backTo
  rw [List.map_append, hd, List.map_cons, List.take_add_one, h]
  simp only [if_true, Option.toList_some, List.map_append, List.map_cons, List.map_nil, List.append_assoc, List.cons_append, List.nil_append]
  congr 1
  · conv => rhs; rw [← List.map_id ((qs.take k).map (fun q => (q.1, reset q.2)))]
    refine List.map_congr_left fun p hp => ?_
    rw [if_neg (hA p hp)]; rfl
  · congr 1
    conv => rhs; rw [← List.map_id (qs.drop (k + 1))]
    refine List.map_congr_left fun p hp => ?_
    rw [if_neg (hB p hp)]; rfl

/-- reshard's loop. -/
def Back (W1 : World) (S : Nat → Prop) (L : Nat) (qs : List (Nat × St)) (lv t3 t4 : Value) (recs : List (List (ByteArray × Int))) (k : Nat) (wr : World) : Prop :=
  LedV wr S L (backTo k qs) qs.length lv t3 t4 ∧ RecsW wr S t3 recs ∧ Fr (fun x => ¬ S x) W1 wr ∧ ∃ cur : Array Value, wr.heap[W1.heap.size]? = some (.cells cur 71 (0, 0)) ∧ cur.size = qs.length * 2 ∧ cur.toList.take (k * 2) = flat2 ((qs.take k).map fun q => (q.2.name, q.2.cr))
theorem back_next {W1 wr w0 : World} {S : Nat → Prop} {L : Nat} {qs : List (Nat × St)} {lv t3 t4 : Value} {recs : List (List (ByteArray × Int))} {k : Nat} {q : Nat × St} (h : Back W1 S L qs lv t3 t4 recs k wr) (hS : ∀ b, S b → b < W1.heap.size) (hn : (names (qs.map Prod.snd)).Nodup) (hq : qs[k]? = some q)
    (h0 : w0.heap = wr.heap ∧ w0.os = wr.os ∧ w0.tape = wr.tape ∧ w0.output = wr.output) :
    Back W1 S L qs lv t3 t4 recs (k + 1) ((((w0.setCell ⟨W1.heap.size, k * 2, none⟩ (.string q.2.name)).setCell ⟨W1.heap.size, k * 2 + 1, none⟩ (.int .i64 q.2.cr)).setCell ⟨q.1, 1, none⟩ (.int .i64 0)).setCell ⟨q.1, 3, none⟩ (.bool q.2.bn)) := by
  obtain ⟨hl, hrc, hf, cur, hg, hcs, htk⟩ := h
  have hk := (List.getElem?_eq_some_iff.1 hq).1
  have f0 : Fr All wr w0 := ⟨h0.2.1, h0.2.2.1, h0.2.2.2, by rw [h0.1]; exact Nat.le_refl _, fun b _ _ => by rw [h0.1]⟩
  have hg0 := f0.heap hg trivial
  have f1 : Fr (fun x => x ≠ W1.heap.size) w0 ((w0.setCell ⟨W1.heap.size, k * 2, none⟩ (.string q.2.name)).setCell ⟨W1.heap.size, k * 2 + 1, none⟩ (.int .i64 q.2.cr)) := (Fr.setCell _ _ _ (by simp)).tr (Fr.setCell _ _ _ (by simp))
  have hg1 := heap_put2 (k := k) hg0 (.string q.2.name) (.int .i64 q.2.cr)
  generalize hw1 : (w0.setCell ⟨W1.heap.size, k * 2, none⟩ (.string q.2.name)).setCell ⟨W1.heap.size, k * 2 + 1, none⟩ (.int .i64 q.2.cr) = w1 at f1 hg1 ⊢
  have hl1 : LedV w1 S L (backTo k qs) qs.length lv t3 t4 := (hl.fr f0 fun _ _ => trivial).fr f1 (fun b hb e => by have := hS b hb; omega)
  have hqm : q ∈ backTo k qs := List.mem_of_getElem? (backTo_get hq)
  obtain ⟨sq, hqb, hqs⟩ := hl1.st q hqm
  have f2 : Fr (fun x => x ≠ q.1) w1 ((w1.setCell ⟨q.1, 1, none⟩ (.int .i64 0)).setCell ⟨q.1, 3, none⟩ (.bool q.2.bn)) := (Fr.setCell _ _ _ (by simp)).tr (Fr.setCell _ _ _ (by simp))
  have hqb2 : ((w1.setCell ⟨q.1, 1, none⟩ (.int .i64 0)).setCell ⟨q.1, 3, none⟩ (.bool q.2.bn)).heap[q.1]? = some (.cells (reset q.2).cells 48 (0, 0)) := by
    rw [heap_setCell_same _ q.1 3 _ 48 _ (heap_setCell_same w1 q.1 1 _ 48 _ hqb)]; rfl
  have hnb : (names ((backTo k qs).map Prod.snd)).Nodup := by rw [backTo_names]; exact hn
  obtain ⟨u1, u2⟩ := led_upd hl1 hnb (b := q.1) (s := q.2) (s' := reset q.2) hqm rfl hqb2 f2
  have key : ∀ p ∈ backTo k qs, p.1 = q.1 → p = q := by
    intro p hp e
    refine pair_inj hnb hp hqm ?_
    have hpb := (hl1.st p hp).2.1
    rw [e, hqb] at hpb
    simp only [Option.some.injEq, Obj.cells.injEq, and_true] at hpb
    exact (cells_name hpb).symm
  rw [backTo_step hq hn key] at u1
  have hqW : q.1 ≠ W1.heap.size := by have := hS _ sq; omega
  refine ⟨u1, ?_, ?_, _, f2.heap hg1 (Ne.symm hqW), by rw [size_put2]; exact hcs, ?_⟩
  · exact ((hrc.fr f0 fun _ _ => trivial).fr f1 (fun b hb e => by have := hS b hb; omega)).other f2 hqb (by decide) (by decide)
  · refine ((hf.tr f0.any).trans f1 fun i hi hT => ⟨hT, by omega⟩).trans f2 fun i hi hT => ⟨hT, fun e => hT (by rw [e]; exact sq)⟩
  · rw [take_put2 _ _ _ _ (by omega), htk, List.take_add_one, hq, List.map_append, flat2_append]; rfl

theorem Back.drew {W1 wr : World} {S : Nat → Prop} {L : Nat} {qs : List (Nat × St)} {lv t3 t4 : Value} {recs : List (List (ByteArray × Int))} {k : Nat} (h : Back W1 S L qs lv t3 t4 recs k wr) : Back W1 S L qs lv t3 t4 recs k wr.drew := by
  obtain ⟨hl, hrc, hf, cur, hg, hcs, htk⟩ := h
  exact ⟨hl.fr (Fr.drew All _) (fun _ _ => trivial), hrc.fr (Fr.drew All _) (fun _ _ => trivial), hf.tr (Fr.drew _ _), cur, hg, hcs, htk⟩
theorem back_start {W1 : World} {S : Nat → Prop} {L : Nat} {qs : List (Nat × St)} {lv t3 t4 : Value} {recs : List (List (ByteArray × Int))} {z : Value} (h : LedV W1 S L qs qs.length lv t3 t4) (hr : RecsW W1 S t3 recs) : Back W1 S L qs lv t3 t4 recs 0 (W1.alloc (.cells (made z (qs.length * 2)) 71)) :=
  ⟨by rw [backTo_zero]; exact h.fr (Fr.alloc All _ _) (fun _ _ => trivial), hr.fr (Fr.alloc All _ _) (fun _ _ => trivial), Fr.alloc _ _ _, _, heap_alloc_new _ _, size_made _ _, by simp [flat2]⟩
/-- byName keeps the records. -/
theorem recs_named {w W1 : World} {S : Nat → Prop} {L : Nat} {qs : List (Nat × St)} {lv t3 : Value} {recs : List (List (ByteArray × Int))} (hr : RecsW w S t3 recs) (f : Fr (fun x => lv.ownBlock ≠ some x ∧ x ≠ L) w W1) (ho : w.ownsRow 0 44 1 lv qs.length (qs.map fun q => ptr q.1)) {cs : Array Value} (hL : w.heap[L]? = some (.cells cs 82 (0, 0))) : RecsW W1 S t3 recs := by
  obtain ⟨vs, g1, g2, g3, g4⟩ := hr
  have hne : ∀ {e size v n xs}, w.ownsRow 0 e size v n xs → e = 69 ∨ e = 71 → ∀ b, v.ownBlock = some b → lv.ownBlock ≠ some b ∧ b ≠ L := by
    intro e size v n xs hv he b hb
    refine ⟨fun h => ?_, fun h => ?_⟩
    · exact own_ne2 ho hv (by rcases he with rfl | rfl <;> decide) b h hb
    · subst h; exact own_ne hv hL (by rcases he with rfl | rfl <;> decide) hb
  exact ⟨vs, own_fr g1 f (hne g1 (Or.inl rfl)), g2, g3, fun i u rec hu hr => ⟨own_fr (g4 i u rec hu hr).1 f (hne (g4 i u rec hu hr).1 (Or.inr rfl)), (g4 i u rec hu hr).2⟩⟩

/-- What reshard leaves. -/
def Resharded (w : World) (S : Nat → Prop) (L : Nat) (qs : List (Nat × St)) (lv : Value) (recs : List (List (ByteArray × Int))) (e : Ending) (w' : World) : Prop :=
  e = .returned (.tuple #[]) ∧ ∃ (qs' : List (Nat × St)) (t3' : Value) (nb : Nat), LedV w' (fun x => S x ∨ w.heap.size ≤ x) L (qs'.map fun q => (q.1, reset q.2)) qs.length lv t3' (.map (some nb)) ∧ qs'.Perm qs ∧ Inc (qs'.map Prod.snd) ∧
    RecsW w' (fun x => S x ∨ w.heap.size ≤ x) t3' (recs ++ [qs'.map fun q => (q.2.name, q.2.cr)]) ∧ w'.heap[nb]? = some (.map #[] 0) ∧ Fr (fun x => ¬ S x) w w'

/-- .. and more of it: the ledger's own blocks are the old ones, the map of the numbers is new. -/
def ReshardedX (w : World) (S : Nat → Prop) (L : Nat) (qs : List (Nat × St)) (lv : Value) (recs : List (List (ByteArray × Int))) (e : Ending) (w' : World) : Prop :=
  e = .returned (.tuple #[]) ∧ ∃ (qs' : List (Nat × St)) (t3' : Value) (nb : Nat), LedV w' S L (qs'.map fun q => (q.1, reset q.2)) qs.length lv t3' (.map (some nb)) ∧ qs'.Perm qs ∧ Inc (qs'.map Prod.snd) ∧
    RecsW w' (fun x => S x ∨ w.heap.size ≤ x) t3' (recs ++ [qs'.map fun q => (q.2.name, q.2.cr)]) ∧ w'.heap[nb]? = some (.map #[] 0) ∧ w.heap.size ≤ nb ∧ Fr (fun x => ¬ S x) w w'
theorem resharded_of {w W1 wr w3 : World} {S : Nat → Prop} {L n mb : Nat} {qs qs' : List (Nat × St)} {lv t3 t4 v' : Value} {recs : List (List (ByteArray × Int))} {vs : List Value} {o : Obj}
    (hB : Back W1 S L qs' lv t3 t4 recs n wr) (hS1 : ∀ b, S b → b < W1.heap.size) (hp : qs'.Perm qs) (hi : Inc (qs'.map Prod.snd)) (hfr : Fr (fun x => ¬ S x) w W1) (hpl : qs'.length = n) (o3 : wr.ownsRow 0 69 1 t3 recs.length vs) (oS : ∀ g, t3.ownBlock = some g → S g) (ovl : vs.length = recs.length)
    (hb3 : w3.heap[L]? = some (.cells #[.map (some mb), lv, .int .i64 qs'.length, t3, t4] 82 (0, 0))) (hown3 : w3.ownsRow 0 69 1 v' (recs.length + 1) (vs ++ [.slice (some ⟨W1.heap.size, 0, none⟩) n n])) (hg3 : (wr.alloc o).grownBy w3 t3.ownBlock) (hbk : v'.ownBlock = t3.ownBlock ∨ v'.ownBlock = some (wr.alloc o).heap.size) (hn40 : n ≤ 1099511627776) :
    ReshardedX w S L qs lv recs (.returned (.tuple #[])) (((w3.setCell ⟨L, 3, none⟩ v').setCell ⟨L, 4, none⟩ (.map (some w3.heap.size))).alloc (.map #[] 0)) := by
  obtain ⟨hled, hrc, hf, cur, hg, hcs, htk⟩ := hB
  rw [← hpl, backTo_all] at hled
  obtain ⟨mb', D, hr, sM, hm⟩ := hled.row
  have hne3 := own_ne o3 hr (by decide)
  have f3 : Fr (fun x => t3.ownBlock ≠ some x) wr w3 := (Fr.alloc _ _ _).tr (Fr.grown hg3 (fun k hk => by rw [hk]; simp))
  have hL3 := f3.heap hr hne3
  have f4 : Fr (fun x => x ≠ L) w3 ((w3.setCell ⟨L, 3, none⟩ v').setCell ⟨L, 4, none⟩ (.map (some w3.heap.size))) := (Fr.setCell _ _ _ (by simp)).tr (Fr.setCell _ _ _ (by simp))
  have hL4 := heap_setCell_same _ L 4 _ 82 (.map (some w3.heap.size)) (heap_setCell_same w3 L 3 _ 82 v' hL3)
  have hsz : ((w3.setCell ⟨L, 3, none⟩ v').setCell ⟨L, 4, none⟩ (.map (some w3.heap.size))).heap.size = w3.heap.size := by simp
  generalize (w3.setCell ⟨L, 3, none⟩ v').setCell ⟨L, 4, none⟩ (.map (some w3.heap.size)) = w4 at f4 hL4 hsz ⊢
  have fa : Fr All w4 (w4.alloc (.map #[] 0)) := Fr.alloc _ _ _
  have ff : Fr (fun x => t3.ownBlock ≠ some x ∧ x ≠ L) wr (w4.alloc (.map #[] 0)) := (f3.trans f4 fun i hi hT => hT).tr fa.any
  have hLl := heap_lt hr
  have hLm : mb' ≠ L := by
    intro e; rw [← e] at hr
    obtain ⟨es, clock, hh, _⟩ := hm.1
    rw [hh] at hr; cases hr
  have s1 : w.heap.size ≤ W1.heap.size := hfr.size
  have s2 : W1.heap.size ≤ wr.heap.size := hf.size
  have hv'L : v'.ownBlock ≠ some L := by
    rcases hbk with h | h
    · rw [h]; exact hne3
    · rw [h]; simp; omega
  refine ⟨rfl, qs', v', w3.heap.size, ⟨hled.sL, ⟨mb', D, fa.heap (hL4.trans (by rw [← hp.length_eq]; rfl)) trivial, sM, hm.fr ff ⟨own_map o3 hm, hLm⟩⟩, ?_, hled.sB, fun q hq => ?_⟩, hp, hi, ⟨vs ++ [.slice (some ⟨W1.heap.size, 0, none⟩) n n], ?_, ?_, by simp [ovl], fun i u rec hu hrc' => ?_⟩, ?_, ?_, ?_⟩
  · exact own_fr hled.own ff (fun b hb => ⟨own_ne2 hled.own o3 (by decide) b hb, fun e => own_ne hled.own hr (by decide) (by rw [← e]; exact hb)⟩)
  · obtain ⟨a1, a2, a3⟩ := hled.st q hq
    exact ⟨a1, ff.heap a2 ⟨own_ne o3 a2 (by decide), fun e => by rw [e, hr] at a2; cases a2⟩, a3⟩
  · have := own_fr (own_fr hown3 f4 (fun b hb e => hv'L (by rw [← e]; exact hb))) fa (fun _ _ => trivial)
    simpa using this
  · intro g hg'
    rcases hbk with h | h
    · rw [h] at hg'; exact Or.inl (oS g hg')
    · rw [h] at hg'; simp at hg'; right; omega
  · obtain ⟨vs2, p1, p2, p3, p4⟩ := hrc
    have evs : vs2 = vs := by
      rcases p1.2 with ⟨e1, e1'⟩ | ⟨g1, c1, cu1, e1, _, hh1, _, _, _, ht1⟩
      · have l1 := p1.1; have l2 := o3.1
        rw [e1'] at l1 l2
        simp at l1 l2
        rw [l1, l2]
      · rcases o3.2 with ⟨e2, e2'⟩ | ⟨g2, c2, cu2, e2, _, hh2, _, _, _, ht2⟩
        · rw [e1] at e2; cases e2
        · rw [e1] at e2
          simp only [Value.slice.injEq, Option.some.injEq, Addr.mk.injEq, and_true, true_and] at e2
          obtain ⟨rfl, rfl⟩ := e2
          rw [hh1] at hh2
          simp only [Option.some.injEq, Obj.cells.injEq, and_true] at hh2
          rw [← ht1, ← ht2, hh2]
    subst evs
    by_cases hil : i < recs.length
    · rw [List.getElem?_append_left (by omega)] at hu hrc'
      obtain ⟨k1, k2⟩ := p4 i u rec hu hrc'
      exact ⟨own_fr k1 ff (fun b hb => ⟨own_ne2 k1 o3 (by decide) b hb, fun e => own_ne k1 hr (by decide) (by rw [← e]; exact hb)⟩), fun g hg' => Or.inl (k2 g hg')⟩
    · have hi2 := (List.getElem?_eq_some_iff.1 hrc').1
      simp at hi2
      obtain rfl : i = recs.length := by omega
      rw [List.getElem?_append_right (by omega)] at hu hrc'
      simp [ovl] at hu hrc'
      subst hu; subst hrc'
      have hlq : (qs'.map fun q => (q.2.name, q.2.cr)).length = n := by simp [hpl]
      have ho : wr.ownsRow 0 71 2 (.slice (some ⟨W1.heap.size, 0, none⟩) n n) n (flat2 (qs'.map fun q => (q.2.name, q.2.cr))) := by
        have et : qs'.take n = qs' := List.take_of_length_le (by omega)
        rw [et] at htk
        refine own_of_row hg (Nat.zero_le _) (by rw [hcs, hpl]) htk ?_
        have := hled.own.2
        unfold maxLen; omega
      rw [hlq]
      refine ⟨own_fr ho ff (fun b hb => ⟨own_ne2 ho o3 (by decide) b hb, fun e => own_ne ho hr (by decide) (by rw [← e]; exact hb)⟩), fun g hg' => ?_⟩
      simp [Value.ownBlock] at hg'
      right; omega
  · have := heap_alloc_new w4 (.map #[] 0)
    rw [hsz] at this; exact this
  · exact Nat.le_trans s1 (Nat.le_trans s2 f3.size)
  · exact (hfr.tr hf).trans ff fun i hi hT => ⟨hT, fun e => hT (oS i e), fun e => hT (by rw [e]; exact hled.sL)⟩

set_option maxRecDepth 100000 in
set_option maxHeartbeats 4000000 in
/-- reshard. -/
theorem c50 (w : World) (S : Nat → Prop) (L s : Nat) (qs : List (Nat × St)) (lv t3 t4 : Value) (recs : List (List (ByteArray × Int))) (h : LedV w S L qs s lv t3 t4) (hn : (names (qs.map Prod.snd)).Nodup) (hs : s ≤ qs.length) (hinc : Incq (qs.take s)) (hlen : qs.length ≤ 1099511627776)
    (hS : ∀ b, S b → b < w.heap.size) (hrec : RecsW w S t3 recs) (hrl : recs.length ≤ 1099511627775) :
    Calls Try.prog 50 #[.pointer (some ⟨L, 0, none⟩)] w (ReshardedX w S L qs lv recs) := by
  have hc := c47 w S L s qs lv t3 t4 h hn hs hinc hlen
  have hmk := run_mk (P := Try.prog) Try.underlying69 Try.info71 qs.length (by omega) (by unfold maxLen; omega)
  have hmm := @run_makeMap Try.prog
  obtain ⟨la, ln, lc, rfl⟩ := own_shape h.own
  obtain rfl := own_len h.own
  obtain ⟨ta, tn, tc, rfl⟩ : ∃ a n c, t3 = .slice a n c := by obtain ⟨vs, h1, _⟩ := hrec; exact own_shape h1
  have hKH := hid (And.intro hn (And.intro hS (And.intro h hrec)))
  clear hn hinc hS h hrec
  go_enter Try.func50, Try.ntmps50
  go_wp2_with fail
  refine hc.mono ?_
  rintro e W1 ⟨rfl, qs', hled, hp, hinc', hfr, hft⟩
  have hpl := hp.length_eq
  have hS1 : ∀ b, S b → b < W1.heap.size := fun b hb => Nat.lt_of_lt_of_le (hKH.out.2.1 b hb) hfr.size
  have hB0 : Hid (Back W1 S L qs' (.slice la qs.length lc) (.slice ta tn tc) t4 recs 0 (W1.alloc (.cells (made (.agg #[.string ByteArray.empty, .int .i64 0]) (qs.length * 2)) 71))) := by
    obtain ⟨mb, D, hr, _⟩ := hKH.out.2.2.1.row
    have := back_start (z := .agg #[.string ByteArray.empty, .int .i64 0]) (by rw [hpl]; exact hled) (recs_named hKH.out.2.2.2 hft hKH.out.2.2.1.own hr)
    rw [hpl] at this; exact this
  have hn' : Hid ((names (qs'.map Prod.snd)).Nodup) := (perm_names (hp.map _)).nodup_iff.2 hKH.out.1
  have hNH := hid (And.intro hp (And.intro hinc' (And.intro hfr (And.intro hled hS1))))
  clear hp hinc' hfr hft hled hS1 hc
  go_wp2
  obtain ⟨Wa, hWa⟩ : ∃ Wa, Wa = W1.alloc (.cells (made (.agg #[.string ByteArray.empty, .int .i64 0]) (qs.length * 2)) 71) := ⟨_, rfl⟩
  rw [← hWa] at hB0 ⊢
  have hplH := hid hpl
  clear hWa hpl
  go_loopw [13] (fun i wr => ∃ k : Nat, k ≤ qs.length ∧ i = .int .i64 k ∧ Back W1 S L qs' (.slice la qs.length lc) (.slice ta tn tc) t4 recs k wr) (fun i _ => qs.length - (intOf i).toNat)
  case atStart => exact ⟨0, by omega, rfl, hB0.out⟩
  case round =>
    obtain ⟨k, hk, rfl, hB⟩ := hrel
    by_cases hlt : k < qs.length
    · obtain ⟨hled, hrc, hf, cur, hg, hcs, htk⟩ := id hB
      obtain ⟨q, hq⟩ : ∃ q, qs'[k]? = some q := ⟨_, List.getElem?_eq_getElem (by rw [hplH.out]; exact hlt)⟩
      have hqm := List.mem_of_getElem? (backTo_get hq)
      obtain ⟨sq, hqb, hqsz⟩ := hled.st q hqm
      rcases hled.own.2 with ⟨e, e'⟩ | ⟨g, cap, cu, e, _, hgg, hgc, hcm, hcs', htk'⟩
      · exfalso; have := backTo_len k qs'; have := hplH.out; omega
      simp only [Value.slice.injEq] at e
      obtain ⟨rfl, -, rfl⟩ := e
      have d0 : wr.cell? ⟨g, k, none⟩ = some (.pointer (some ⟨q.1, 0, none⟩)) := by
        have hbl := backTo_len k qs'
        have hpl := hplH.out
        rw [cell_of_row wr g _ _ _ _ hgg, ← Array.getElem?_toList, ← List.getElem?_take_of_lt (show k < (backTo k qs').length * 1 by omega), htk']
        simp only [List.getElem?_map, backTo_get hq, Option.map_some]; rfl
      have x0 : wr.cell? ⟨q.1, 0, none⟩ = some (.string q.2.name) := by rw [cell_of_row wr q.1 _ _ _ _ hqb]; rfl
      have x1 : wr.cell? ⟨q.1, 1, none⟩ = some (.int .i64 q.2.cr) := by rw [cell_of_row wr q.1 _ _ _ _ hqb]; rfl
      have x3 : wr.cell? ⟨q.1, 3, none⟩ = some (.bool q.2.ex) := by rw [cell_of_row wr q.1 _ _ _ _ hqb]; rfl
      have x4 : wr.cell? ⟨q.1, 4, none⟩ = some (.bool q.2.bn) := by rw [cell_of_row wr q.1 _ _ _ _ hqb]; rfl
      have z1 : wr.frozen? ⟨q.1, 1, none⟩ = false := frozen_of_row wr q.1 _ _ _ hqb
      have z3 : wr.frozen? ⟨q.1, 3, none⟩ = false := frozen_of_row wr q.1 _ _ _ hqb
      have hpl := hplH.out
      obtain ⟨y0, s0⟩ : ∃ y, wr.cell? ⟨W1.heap.size, k * 2, none⟩ = some y := ⟨cur[k * 2]'(by omega), by rw [cell_of_row wr _ _ _ _ _ hg]; simp⟩
      obtain ⟨y1, s1⟩ : ∃ y, wr.cell? ⟨W1.heap.size, k * 2 + 1, none⟩ = some y := ⟨cur[k * 2 + 1]'(by omega), by rw [cell_of_row wr _ _ _ _ _ hg]; simp⟩
      have v0 : wr.frozen? ⟨W1.heap.size, k * 2, none⟩ = false := frozen_of_row wr _ _ _ _ hg
      have v1 : wr.frozen? ⟨W1.heap.size, k * 2 + 1, none⟩ = false := frozen_of_row wr _ _ _ _ hg
      have hqW : q.1 ≠ W1.heap.size := by have := hNH.out.2.2.2.2 _ sq; omega
      have hgW : g ≠ W1.heap.size := by intro e; rw [e, hg] at hgg; cases hgg
      have hBH := hid (And.intro hB hq)
      clear hled hrc hf hg hcs htk hB hq hqm hqb hqsz sq hgg hgc hcm hcs' htk' hpl
      go_wp2
      go_region
      all_goals go_wp2
      all_goals
        go_roundw
        case rel =>
          exact ⟨k + 1, by omega, by go_num, (back_next hBH.out.1 hNH.out.2.2.2.2 hn'.out hBH.out.2 ⟨rfl, rfl, rfl, rfl⟩).drew⟩
        case measure => simp [intOf]; omega
    · obtain rfl : k = qs.length := by omega
      obtain ⟨hled, hrc, hf, cur, hg, hcs, htk⟩ := id hB
      obtain ⟨mb, D, hr, sM, hm⟩ := hled.row
      obtain ⟨vs, o3, oS, ovl, oin⟩ := hrc
      obtain rfl := own_len o3
      have c3 : wr.cell? ⟨L, 3, none⟩ = some (.slice ta recs.length tc) := by rw [cell_of_row wr L _ _ _ _ hr]; rfl
      have hLl := heap_lt hr
      have hne3 := hid (own_ne o3 hr (by decide))
      have o3H := hid o3
      have hrH := hid hr
      have hBH := hid hB
      clear hled hf hg hcs htk hB hm oin o3 hr sM
      go_wp2_with (first
        | (at_builtin; refine wp_app rfl _ _ 50 rfl 0 69 (.slice none 0 0) 1 24 Try.underlying50 Try.info69 rfl (by omega) _ _ _ rfl (o3H.out.alloc _) wr.heap.size 0 1 1 [.slice (some ⟨W1.heap.size, 0, none⟩) qs.length qs.length] rfl rfl (by exact arr1 _ _ _) (by simp [Value.oneCell']) (by unfold maxLen; omega) (by omega) (by omega) ?_; intro v' w3 hown3 hg3 hbk; obtain ⟨a', n', c', rfl⟩ := own_shape hown3; have hb3 := (hg3.block L (by simp; omega) (fun e => hne3.out e.symm)).trans ((Below.heap_alloc wr _ L hLl).trans hrH.out); have z3 : w3.frozen? ⟨L, 3, none⟩ = false := frozen_of_row w3 L _ _ _ hb3; have z4 : w3.frozen? ⟨L, 4, none⟩ = false := frozen_of_row w3 L _ _ _ hb3; have c3' : w3.cell? ⟨L, 3, none⟩ = some (.slice ta recs.length tc) := (by rw [cell_of_row w3 L _ _ _ _ hb3]; rfl); have c4' : w3.cell? ⟨L, 4, none⟩ = some t4 := (by rw [cell_of_row w3 L _ _ _ _ hb3]; rfl); have hLl3 := heap_lt hb3; have hb3H := hid (And.intro hb3 (And.intro hown3 (And.intro hg3 hbk))); clear hb3 hown3 hg3 hbk)
        | go_in)
      go_end0
      exact resharded_of hBH.out hNH.out.2.2.2.2 hNH.out.1 hNH.out.2.1 hNH.out.2.2.1 (hplH.out) o3H.out oS ovl hb3H.out.1 hb3H.out.2.1 hb3H.out.2.2.1 hb3H.out.2.2.2 hlen

set_option maxRecDepth 100000 in
/-- ZZReshard. -/
theorem c40x (w : World) (S : Nat → Prop) (L s : Nat) (qs : List (Nat × St)) (lv t3 t4 : Value) (recs : List (List (ByteArray × Int))) (h : LedV w S L qs s lv t3 t4) (hn : (names (qs.map Prod.snd)).Nodup) (hs : s ≤ qs.length) (hinc : Incq (qs.take s)) (hlen : qs.length ≤ 1099511627776)
    (hS : ∀ b, S b → b < w.heap.size) (hrec : RecsW w S t3 recs) (hrl : recs.length ≤ 1099511627775) :
    Calls Try.prog 40 #[.pointer (some ⟨L, 0, none⟩)] w (ReshardedX w S L qs lv recs) := by
  have hc := c50 w S L s qs lv t3 t4 recs h hn hs hinc hlen hS hrec hrl
  clear h hn hinc hS hrec
  go_enter Try.func40, Try.ntmps40
  go_wp2_with (go_at_call 50; refine hc.mono ?_; rintro e w' ⟨rfl, hN⟩; have hNH := hid hN; clear hN)
  go_end0
  exact ⟨rfl, hNH.out⟩
theorem c40 (w : World) (S : Nat → Prop) (L s : Nat) (qs : List (Nat × St)) (lv t3 t4 : Value) (recs : List (List (ByteArray × Int))) (h : LedV w S L qs s lv t3 t4) (hn : (names (qs.map Prod.snd)).Nodup) (hs : s ≤ qs.length) (hinc : Incq (qs.take s)) (hlen : qs.length ≤ 1099511627776)
    (hS : ∀ b, S b → b < w.heap.size) (hrec : RecsW w S t3 recs) (hrl : recs.length ≤ 1099511627775) :
    Calls Try.prog 40 #[.pointer (some ⟨L, 0, none⟩)] w (Resharded w S L qs lv recs) :=
  (c40x w S L s qs lv t3 t4 recs h hn hs hinc hlen hS hrec hrl).mono (by
    rintro e w' ⟨he, qs', t3', nb, h1, h2, h3, h4, h5, _, h7⟩
    exact ⟨he, qs', t3', nb, h1.mono (fun b hb => Or.inl hb), h2, h3, h4, h5, h7⟩)

end Go.Proofs.Qxb6601232a
