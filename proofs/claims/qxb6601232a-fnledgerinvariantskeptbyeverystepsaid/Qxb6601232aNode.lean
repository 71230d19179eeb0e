/-
  SEAT b6601232a. THE WALK OF node. By an AI agent.
-/
import Derived.Test.Qxb6601232aLed
namespace Go.Proofs.Qxb6601232a
open Go.RowKit
set_option linter.unusedVariables false

theorem hid {p : Prop} (h : p) : Hid p := h
theorem arr1 (w : World) (x : Value) (t : TypeId) : ∀ j u, [x][j]? = some u → (w.alloc (.cells #[x] t)).cell? ⟨w.heap.size, 0 + j, none⟩ = some u := by
  intro j u h
  cases j with
  | zero => simpa using h
  | succ j => simp at h
theorem Try.info44 : (Try.prog.info? 44).map (fun i => (i.zero, i.size, i.bytes)) = some (some (.pointer none), 1, 8) := by kernel_rfl
theorem zero44 (w : World) : (zeroValue 44).run Try.prog w = .ok (.pointer none) w := by kernel_rfl

/-- append on a row of the call's own, at the operation. -/
theorem wp_app {P : Program} {ops : Array Oper} {rest : List Oper} {o : Oper} {a : Act} {w : World} {Q : Exit → Act → World → Prop} (hgd : o.guard = none) (s x : Operand) (t : TypeId)
    (ho : o.op = .call { callee := .builtin .append, args := #[s, x], argTypes := #[t, t] })
    (base : Nat) (e : TypeId) (z : Value) (size bytes : Nat) (ht : P.underlying t = some (.slice e)) (hinfo : (P.info? e).map (fun i => (i.zero, i.size, i.bytes)) = some (some z, size, bytes))
    (hzs : z.cells.size = size) (hsz : 0 < size) (v : Value) (n : Nat) (xs : List Value) (hs : a.eval s = v) (hown : w.ownsRow base e size v n xs)
    (b off m c : Nat) (news : List Value) (hx : a.eval x = .slice (some ⟨b, off, none⟩) m c) (hl : news.length = m * size) (hnews : ∀ j u, news[j]? = some u → w.cell? ⟨b, off + j, none⟩ = some u) (h1 : ∀ u ∈ news, u.oneCell' = true)
    (h63 : n + m ≤ maxLen) (hbytes : (n + m) * bytes ≤ 140737488355328) (hbase : base ≤ w.heap.size)
    (h : ∀ v' w', w'.ownsRow base e size v' (n + m) (xs ++ news) → w.grownBy w' v.ownBlock → (v'.ownBlock = v.ownBlock ∨ v'.ownBlock = some w.heap.size) → wpList P ops Q rest (a.put o.dst v') w') :
    wpList P ops Q (o :: rest) a w := by
  refine wpList_plain hgd fun K' hK' => ?_
  obtain ⟨v', w', hr, h2, h3, h4⟩ := run_app (P := P) w base t o.type e z size bytes ht hinfo hzs hsz v n xs hown b off m c news hl hnews h1 h63 hbytes hbase
  unfold Oper.wp execOp
  simp only [ho, resolve, invoke, builtin, Sem.run_bind, Sem.run_pure, Result.andThen_ok, List.map_toArray, List.map_cons, List.map_nil, hs, hx, hr]
  exact hK' _ _ (h v' w' h2 h3 h4)

theorem pe_nil_inv {v : Value} {ps : List MemPlace} (h : pe v = some (.nil, ps)) : v = .pointer none := by
  unfold pe at h
  split at h
  · rfl
  · split at h
    · simp at h
    · cases h
  · cases h

/-- A look-up of a name. -/
theorem look_known {w : World} {mb : Nat} {qs : List (Nat × St)} {D : DataW Unit} (h : MapW w mb qs D) (hn : (names (qs.map Prod.snd)).Nodup) {q : Nat × St} (hq : q ∈ qs) (hs : q.2.name.size ≤ maxLen) :
    (Instr.lookup 79 (.map (some mb)) (.string q.2.name) true).run Try.prog w = .ok (.tuple #[ptr q.1, .bool true]) w := by
  obtain ⟨h1, h2, h3, _⟩ := h
  obtain ⟨v, ps, hr, hv⟩ := h1.look_ok law9 Try.underlying79 (zero44 w) pe_nil (key9 hs)
  rw [(h3 hn).2 q hq] at hv
  rw [pe_inv hv, h2] at hr
  have : (getS (qs.map Prod.snd) q.2.name).isSome = true := getS_isSome.2 (List.mem_map.2 ⟨q.2, List.mem_map.2 ⟨q, hq, rfl⟩, rfl⟩)
  rw [this] at hr
  exact hr
theorem look_unknown {w : World} {mb : Nat} {qs : List (Nat × St)} {D : DataW Unit} (h : MapW w mb qs D) {nm : ByteArray} (hg : getS (qs.map Prod.snd) nm = none) (hs : nm.size ≤ maxLen) :
    (Instr.lookup 79 (.map (some mb)) (.string nm) true).run Try.prog w = .ok (.tuple #[.pointer none, .bool false]) w := by
  obtain ⟨h1, h2, _, _⟩ := h
  obtain ⟨v, ps, hr, hv⟩ := h1.look_ok law9 Try.underlying79 (zero44 w) pe_nil (key9 hs)
  have hh : Maps.has D (lit nm) = false := by rw [h2, hg]; rfl
  rw [Maps.atKey_of_not_has hh] at hv
  rw [pe_nil_inv hv, hh] at hr
  exact hr

/-- What node leaves. -/
def Noded (w : World) (S : Nat → Prop) (L : Nat) (qs : List (Nat × St)) (srt : Int) (t3 t4 : Value) (nm : ByteArray) (e : Ending) (w' : World) : Prop :=
  ∃ b qs' lv', e = .returned (.pointer (some ⟨b, 0, none⟩)) ∧ LedV w' (fun x => S x ∨ w.heap.size ≤ x) L qs' srt lv' t3 t4 ∧ qs'.map Prod.snd = touch (qs.map Prod.snd) nm ∧ (∃ s, (b, s) ∈ qs' ∧ s.name = nm) ∧ Fr (fun x => ¬ S x) w w'

theorem heap_lt {w : World} {L : Nat} {o : Obj} (h : w.heap[L]? = some o) : L < w.heap.size := lt_of_block h

theorem own_lt {w : World} {base : Nat} {e : TypeId} {size : Nat} {v : Value} {n : Nat} {xs : List Value} (ho : w.ownsRow base e size v n xs) {g : Nat} (hg : v.ownBlock = some g) : g < w.heap.size := by
  rcases ho.2 with ⟨e, _⟩ | ⟨g, cap, cur, e, _, hgg, _⟩
  · rw [e] at hg; cases hg
  · rw [e] at hg; simp only [Value.ownBlock, Option.some.injEq] at hg; subst hg
    exact lt_of_block hgg
theorem own_map {w : World} {mb : Nat} {qs : List (Nat × St)} {D : DataW Unit} {base : Nat} {e : TypeId} {size : Nat} {v : Value} {n : Nat} {xs : List Value} (ho : w.ownsRow base e size v n xs) (hm : MapW w mb qs D) : v.ownBlock ≠ some mb := by
  intro hb
  obtain ⟨es, clock, hh, _⟩ := hm.1
  rcases ho.2 with ⟨e, _⟩ | ⟨g, cap, cur, e, _, hgg, _⟩
  · rw [e] at hb; cases hb
  · rw [e] at hb; simp only [Value.ownBlock, Option.some.injEq] at hb; subst hb
    rw [hh] at hgg; cases hgg
theorem noded_new {w w1 w3 : World} {S : Nat → Prop} {L mb : Nat} {qs : List (Nat × St)} {srt : Int} {lv v' t3 t4 : Value} {nm : ByteArray} {D : DataW Unit}
    (h : LedV w S L qs srt lv t3 t4) (hr : w.heap[L]? = some (.cells #[.map (some mb), lv, .int .i64 srt, t3, t4] 82 (0, 0))) (sM : S mb) (hm : MapW w mb qs D) (hg : getS (qs.map Prod.snd) nm = none) (hs : nm.size ≤ maxLen)
    (hown1 : w1.ownsMap Try.prog 9 pe mb (qs.length + 1) (D.put (lit nm) (.lit (.int .i64 w.heap.size)))) (hg1 : (w.alloc (.cells (fresh nm).cells 48)).grownBy w1 (some mb))
    (o : Obj) (hown2 : w3.ownsRow 0 44 1 v' (qs.length + 1) ((qs.map fun q => ptr q.1) ++ [ptr w.heap.size])) (hg3 : (w1.alloc o).grownBy w3 lv.ownBlock) (hb : v'.ownBlock = lv.ownBlock ∨ v'.ownBlock = some (w1.alloc o).heap.size) :
    Noded w S L qs srt t3 t4 nm (.returned (ptr w.heap.size)) (w3.setCell ⟨L, 1, none⟩ v') := by
  have hne : lv.ownBlock ≠ some L := own_ne h.own hr (by decide)
  have hnm : lv.ownBlock ≠ some mb := own_map h.own hm
  have hLm : L ≠ mb := by
    intro e; subst e
    obtain ⟨es, clock, hh, _⟩ := hm.1
    rw [hh] at hr; cases hr
  have hLl := heap_lt hr
  have hs1 : w.heap.size + 1 ≤ w1.heap.size := by have := hg1.size; simpa using this
  have hs3 : w1.heap.size + 1 ≤ w3.heap.size := by have := hg3.size; simpa using this
  -- one frame from w to the end for blocks that are neither L, mb, nor the list's
  have f1 : Fr (fun x => x ≠ mb) w w1 := (Fr.alloc _ _ _).tr (Fr.grown hg1 (fun k hk => by simp at hk; subst hk; simp))
  have f1' : Fr (fun x => x ≠ mb) (w.alloc (.cells (fresh nm).cells 48)) w1 := Fr.grown hg1 (fun k hk => by simp at hk; subst hk; simp)
  have f3 : Fr (fun x => lv.ownBlock ≠ some x) w1 w3 := (Fr.alloc _ _ _).tr (Fr.grown hg3 (fun k hk => by rw [hk]; simp))
  have f4 : Fr (fun x => x ≠ L) w3 (w3.setCell ⟨L, 1, none⟩ v') := Fr.setCell _ _ _ (by simp)
  have f13 : Fr (fun x => x ≠ mb ∧ lv.ownBlock ≠ some x) w w3 := f1.trans f3 (fun i hi hT => hT)
  have f14 : Fr (fun x => x ≠ mb ∧ lv.ownBlock ≠ some x ∧ x ≠ L) w (w3.setCell ⟨L, 1, none⟩ v') := f13.trans f4 (fun i hi hT => ⟨⟨hT.1, hT.2.1⟩, hT.2.2⟩)
  have hL3 : w3.heap[L]? = some (.cells #[.map (some mb), lv, .int .i64 srt, t3, t4] 82 (0, 0)) := f13.heap hr ⟨hLm, hne⟩
  have hnew : w3.heap[w.heap.size]? = some (.cells (fresh nm).cells 48 (0, 0)) := by
    refine f3.heap (f1'.heap (heap_alloc_new w _) ?_) ?_
    · intro e; have := hm.1.lt; omega
    · intro e; have := own_lt h.own e; omega
  refine ⟨w.heap.size, qs ++ [(w.heap.size, fresh nm)], v', rfl, ⟨Or.inl h.sL, ⟨mb, D.put (lit nm) (.lit (.int .i64 w.heap.size)), ?_, Or.inl sM, ?_⟩, ?_, ?_, ?_⟩, ?_, ⟨fresh nm, by simp, rfl⟩, ?_⟩
  · have := heap_setCell_same w3 L 1 _ 82 v' hL3
    rw [this]; rfl
  · refine MapW.put hm (w.heap.size, fresh nm) (w' := w3.setCell ⟨L, 1, none⟩ v') ?_
    obtain ⟨es, clock, hh, r⟩ := hown1
    exact ⟨es, clock, f4.heap (f3.heap hh hnm) (Ne.symm hLm), r⟩
  · have := own_fr hown2 f4 (fun b hb' e => ?_)
    · simpa using this
    · subst e
      rcases hb with hb | hb
      · rw [hb] at hb'; exact hne hb'
      · rw [hb] at hb'; simp at hb'; omega
  · intro g hgv
    rcases hb with hb | hb
    · rw [hb] at hgv; exact Or.inl (h.sB g hgv)
    · rw [hb] at hgv; simp at hgv; right; omega
  · intro q hq
    rcases List.mem_append.1 hq with hq | hq
    · obtain ⟨s1, s2, s3⟩ := h.st q hq
      refine ⟨Or.inl s1, f14.heap s2 ⟨?_, ?_, ?_⟩, s3⟩
      · intro e; obtain ⟨es, clock, hh, _⟩ := hm.1; rw [← e, s2] at hh; cases hh
      · exact own_ne h.own s2 (by decide)
      · intro e; rw [e, hr] at s2; cases s2
    · simp at hq; subst hq
      refine ⟨Or.inr (Nat.le_refl _), f4.heap hnew (by intro e; omega), by simpa [fresh] using hs⟩
  · rw [List.map_append, touch, hg]; rfl
  · refine f14.mono fun i hi hT => ⟨?_, ?_, ?_⟩
    · intro e; subst e; exact hT sM
    · intro e; exact hT (h.sB i e)
    · intro e; subst e; exact hT h.sL

theorem noded_own {w w1 : World} {S : Nat → Prop} {L mb : Nat} {qs : List (Nat × St)} {srt : Int} {lv t3 t4 : Value} {ob : Obj} (hLl : L < w.heap.size) (sM : S mb) (h : LedV w S L qs srt lv t3 t4)
    (hg1 : (w.alloc ob).grownBy w1 (some mb)) (hm : lv.ownBlock ≠ some mb) (o : Obj) : (w1.alloc o).ownsRow 0 44 1 lv qs.length (qs.map fun q => ptr q.1) :=
  (own_fr (h.own.alloc ob) (Fr.grown (T := fun x => x ≠ mb) hg1 (fun k hk => by simp at hk; subst hk; simp)) (fun b hb e => hm (by rw [← e]; exact hb))).alloc o

set_option maxRecDepth 100000 in
set_option maxHeartbeats 1000000 in
/-- node. -/
theorem c55 (w : World) (S : Nat → Prop) (L : Nat) (qs : List (Nat × St)) (srt : Int) (lv t3 t4 : Value) (nm : ByteArray) (h : LedV w S L qs srt lv t3 t4)
    (hn : (names (qs.map Prod.snd)).Nodup) (hs : nm.size ≤ maxLen) (hlen : qs.length ≤ 1099511627776) :
    Calls Try.prog 55 #[.pointer (some ⟨L, 0, none⟩), .string nm] w (Noded w S L qs srt t3 t4 nm) := by
  obtain ⟨mb, D, hr, sM, hm⟩ := h.row
  have c0 : w.cell? ⟨L, 0, none⟩ = some (.map (some mb)) := by rw [cell_of_row w L _ _ _ _ hr]; rfl
  cases hg : getS (qs.map Prod.snd) nm with
  | some s =>
    have hsm := getS_mem hg
    obtain ⟨q, hq, rfl⟩ := List.mem_map.1 hsm
    obtain rfl := getS_name hg
    have hlk := look_known hm hn hq hs
    have hH : Hid (Noded w S L qs srt t3 t4 q.2.name (.returned (ptr q.1)) w) := by
      refine ⟨q.1, qs, lv, rfl, h.mono (fun b hb => Or.inl hb), ?_, ⟨q.2, hq, rfl⟩, Fr.refl _ _⟩
      rw [touch, hg]; rfl
    clear h hr hm hg hsm hq hn sM
    generalize ptr q.1 = pv at hlk hH
    go_enter Try.func55, Try.ntmps55
    go_wp2
    go_ret
    exact hH.out
  | none =>
    have hlk := look_unknown hm hg hs
    obtain ⟨la, ln, lc, rfl⟩ := own_shape h.own
    have hKH : Hid (LedV w S L qs srt (.slice la ln lc) t3 t4 ∧ w.heap[L]? = some (.cells #[.map (some mb), (.slice la ln lc), .int .i64 srt, t3, t4] 82 (0, 0)) ∧ S mb ∧ MapW w mb qs D ∧ getS (qs.map Prod.snd) nm = none) := ⟨h, hr, sM, hm, hg⟩
    have hLl := heap_lt hr
    have hLm : L ≠ mb := by
      intro e; subst e
      obtain ⟨es, clock, hh, _⟩ := hm.1
      rw [hh] at hr; cases hr
    have hne : (Value.slice la ln lc).ownBlock ≠ some L := own_ne h.own hr (by decide)
    have hnH : Hid ((Value.slice la ln lc).ownBlock ≠ some L) := hne
    have hmH : Hid ((Value.slice la ln lc).ownBlock ≠ some mb) := own_map h.own hm
    clear h hr hm hg hn sM hne
    go_enter Try.func55, Try.ntmps55
    go_wp2_with (first
      | (at_mapUpdate; refine wpList_mapUpdate_own _ rfl _ _ _ 79 rfl 9 44 law9 Try.underlying79 pe mb qs.length D rfl (hKH.out.2.2.2.1.1.alloc _) (by unfold maxLen; omega) _ _ _ rfl rfl (key9 hs) _ [] (pe_ptr w.heap.size) ?_; intro w1 hown1 hg1; have hb1 := (hg1.block L (by simp; omega) (by simp; exact hLm)).trans ((Below.heap_alloc w _ L hLl).trans hKH.out.2.1); have hLl1 := heap_lt hb1; have c1 : w1.cell? ⟨L, 1, none⟩ = some (.slice la ln lc) := by { rw [cell_of_row w1 L _ _ _ _ hb1]; rfl }; have hb1H := hid hb1; clear hb1)
      | (at_builtin; refine wp_app rfl _ _ 40 rfl 0 44 (.pointer none) 1 8 Try.underlying40 Try.info44 rfl (by omega) _ _ _ rfl (noded_own hLl hKH.out.2.2.1 hKH.out.1 hg1 hmH.out _) w1.heap.size 0 1 1 [ptr w.heap.size] rfl rfl (by exact arr1 _ _ _) (by simp [ptr, Value.oneCell']) (by unfold maxLen; omega) (by omega) (by omega) ?_; intro v' w3 hown3 hg3 hbk; obtain ⟨a', n', c', rfl⟩ := own_shape hown3; have hb3 := (hg3.block L (by simp; omega) (fun e => hnH.out e.symm)).trans ((Below.heap_alloc w1 _ L hLl1).trans hb1H.out); have z3 : w3.frozen? ⟨L, 1, none⟩ = false := frozen_of_row w3 L _ _ _ hb3; have c3 : w3.cell? ⟨L, 1, none⟩ = some (.slice la ln lc) := by { rw [cell_of_row w3 L _ _ _ _ hb3]; rfl })
      | go_in)
    go_ret
    exact noded_new hKH.out.1 hKH.out.2.1 hKH.out.2.2.1 hKH.out.2.2.2.1 hKH.out.2.2.2.2 hs hown1 hg1 _ hown3 hg3 hbk

end Go.Proofs.Qxb6601232a
