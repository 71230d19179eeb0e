/-
  SEAT b6601232a. WHAT EVERY STEP KEEPS: the ledger's rules, its records, its numbers. By an AI agent.
-/
import Derived.Test.Qxb6601232aKept
import Derived.Test.Qxb6601232aTwo
namespace Go.Proofs.Qxb6601232a
open Go.RowKit
set_option linter.unusedVariables false
set_option linter.unusedSimpArgs false

/-- The standing's rules. -/
def Ok (s : St) : Prop := StOk s.cr s.acts s.ex s.bn
theorem ok_fresh (n : ByteArray) : Ok (fresh n) := by simp [Ok, StOk, fresh]
theorem ok_reset {s : St} (h : Ok s) : Ok (reset s) := by
  obtain ⟨h1, h2, h3, h4, h5⟩ := h
  refine ⟨h1, h2, fun h => h, fun _ => rfl, fun a b => ?_⟩
  simp only [reset] at a b
  rw [a] at b; cases b
theorem ok_eff {s : St} (h : Ok s) (k : Kd) : Ok (eff k s) := by
  unfold eff
  cases hx : s.ex
  · obtain ⟨h1, h2, h3, h4, h5⟩ := h
    have hb : s.bn = false := by
      cases hb : s.bn
      · rfl
      · have := h3 hb; rw [hx] at this; cases this
    have ha : s.acts < 2 := by
      refine Int.not_le.1 fun h => ?_
      have := h2.2 h; rw [hb] at this; cases this
    simp only [Bool.false_eq_true, if_false]
    cases k
    · exact ⟨h1, h2, fun h => (by rw [show s.bn = true from h] at hb; cases hb), (fun h => by cases h), (fun h => by cases h)⟩
    · exact ⟨h1, h2, fun h => (by rw [show s.bn = true from h] at hb; cases hb), (fun h => by cases h), (fun h => by cases h)⟩
    · have hw : wrap64 (s.acts + 1) = s.acts + 1 := by unfold wrap64; omega
      unfold Ok StOk
      rw [hw]
      refine ⟨by show 0 ≤ s.acts + 1; omega, by show decide (2 ≤ s.acts + 1) = true ↔ 2 ≤ s.acts + 1; simp, fun _ => rfl, fun _ => rfl, fun _ h => ?_⟩
      have h' : decide (2 ≤ s.acts + 1) = false := h
      simp at h'
      show s.acts + 1 = 1
      omega
  · simp; exact h
theorem ok_step {ss : List St} (h : ∀ s ∈ ss, Ok s) (o : Kd × ByteArray) : ∀ s ∈ step ss o, Ok s := by
  intro s hs
  unfold step at hs
  obtain ⟨t, ht, rfl⟩ := List.mem_map.1 hs
  have hto : Ok t := by
    unfold touch at ht
    split at ht
    · exact h t ht
    · rcases List.mem_append.1 ht with h1 | h1
      · exact h t h1
      · simp at h1; subst h1; exact ok_fresh _
  split
  · exact ok_eff hto _
  · exact hto
theorem ok_part {ss : List St} (h : ∀ s ∈ ss, Ok s) (H A M : List ByteArray) : ∀ s ∈ part ss H A M, Ok s := by
  unfold part
  generalize opsOf H A M = os
  induction os generalizing ss with
  | nil => exact h
  | cons o os ih => exact ih (ok_step h o)
theorem incq_names {l : List (Nat × St)} : Incq l ↔ (names (l.map Prod.snd)).Pairwise fun a b => bless a b = true := by
  unfold Incq names
  rw [List.pairwise_map, List.pairwise_map]
  exact Iff.rfl
theorem incq_pre {qs qs' : List (Nat × St)} {s : Nat} {t : List ByteArray} (hi : Incq (qs.take s)) (hs : s ≤ qs.length) (he : names (qs'.map Prod.snd) = names (qs.map Prod.snd) ++ t) : Incq (qs'.take s) := by
  rw [incq_names] at *
  have e1 : names ((qs.take s).map Prod.snd) = (names (qs.map Prod.snd)).take s := by simp [names, List.map_take]
  have e2 : names ((qs'.take s).map Prod.snd) = (names (qs'.map Prod.snd)).take s := by simp [names, List.map_take]
  rw [e2, he, List.take_append_of_le_length (by simp [names]; exact hs), ← e1]
  exact hi

/-- A block that holds records. -/
def isRec (w : World) (x : Nat) : Prop := ∃ cs t fz, w.heap[x]? = some (.cells cs t fz) ∧ (t = 69 ∨ t = 71)
theorem own_isRec {w : World} {base : Nat} {e : TypeId} {size : Nat} {v : Value} {n : Nat} {xs : List Value} (h : w.ownsRow base e size v n xs) (he : e = 69 ∨ e = 71) {g : Nat} (hg : v.ownBlock = some g) : isRec w g := by
  rcases h.2 with ⟨e', _⟩ | ⟨g', cap, cur, e', _, hgg, _⟩
  · rw [e'] at hg; cases hg
  · rw [e'] at hg; simp only [Value.ownBlock, Option.some.injEq] at hg; subst hg
    exact ⟨_, _, _, hgg, he⟩
theorem recs_isRec {w : World} {S : Nat → Prop} {t3 : Value} {recs : List (List (ByteArray × Int))} (h : RecsW w S t3 recs) : RecsW w (fun x => S x ∧ isRec w x) t3 recs := by
  obtain ⟨vs, h1, h2, h3, h4⟩ := h
  exact ⟨vs, h1, fun g hg => ⟨h2 g hg, own_isRec h1 (Or.inl rfl) hg⟩, h3, fun i u rec hu hr => ⟨(h4 i u rec hu hr).1, fun g hg => ⟨(h4 i u rec hu hr).2 g hg, own_isRec (h4 i u rec hu hr).1 (Or.inr rfl) hg⟩⟩⟩
theorem led_narrow {w : World} {S : Nat → Prop} {L : Nat} {qs : List (Nat × St)} {srt : Int} {lv t3 t4 : Value} (h : LedV w S L qs srt lv t3 t4) : LedV w (fun x => S x ∧ x < w.heap.size ∧ ¬ isRec w x) L qs srt lv t3 t4 := by
  obtain ⟨sL, ⟨mb, D, hr, sM, hm⟩, ho, sB, st⟩ := h
  have key : ∀ (x : Nat) (cs : Array Value) (t : TypeId) (fz : Nat × Nat), w.heap[x]? = some (.cells cs t fz) → t ≠ 69 → t ≠ 71 → x < w.heap.size ∧ ¬ isRec w x := by
    intro x cs t fz hx h1 h2
    refine ⟨lt_of_block hx, ?_⟩
    rintro ⟨cs', t', fz', hx', ht⟩
    rw [hx] at hx'
    simp only [Option.some.injEq, Obj.cells.injEq] at hx'
    rcases ht with ht | ht
    · exact h1 (hx'.2.1.trans ht)
    · exact h2 (hx'.2.1.trans ht)
  refine ⟨⟨sL, key _ _ _ _ hr (by decide) (by decide)⟩, ⟨mb, D, hr, ⟨sM, ?_⟩, hm⟩, ho, fun g hg => ⟨sB g hg, ?_⟩, fun q hq => ⟨⟨(st q hq).1, key _ _ _ _ (st q hq).2.1 (by decide) (by decide)⟩, (st q hq).2⟩⟩
  · obtain ⟨es, c, hb, _⟩ := hm.1
    refine ⟨lt_of_block hb, ?_⟩
    rintro ⟨cs', t', fz', hx', ht⟩
    rw [hb] at hx'; cases hx'
  · rcases ho.2 with ⟨e', _⟩ | ⟨g', cap, cur, e', _, hgg, _⟩
    · rw [e'] at hg; cases hg
    · rw [e'] at hg; simp only [Value.ownBlock, Option.some.injEq] at hg; subst hg
      exact key _ _ _ _ hgg (by decide) (by decide)

/-- How many nodes there can be by then. -/
def cap (i : Nat) : Nat := 65536 + i * 196608
theorem cap_succ (i : Nat) : cap (i + 1) = cap i + 196608 := by unfold cap; rw [Nat.add_mul]; omega
theorem cap_mono {i j : Nat} (h : i ≤ j) : cap i ≤ cap j := by unfold cap; exact Nat.add_le_add_left (Nat.mul_le_mul_right _ h) _
theorem cap_le {i : Nat} (h : i ≤ 4096) : cap i ≤ 805371904 := by
  have h1 := cap_mono h
  have h2 : cap 4096 = 805371904 := rfl
  omega
theorem cap_zero : cap 0 = 65536 := rfl
/-- What every step keeps: u is the world before the ledger was made. -/
def Inv (u W : World) (L : Nat) (nus : List Int) (i rc : Nat) (qs : List (Nat × St)) (s : Nat) (lv t3 : Value) (nb : Nat) (recs : List (List (ByteArray × Int))) (m : Nat) (D : DataW Unit) : Prop :=
  LedV W (fun x => u.heap.size ≤ x ∧ x ≠ nb) L qs s lv t3 (.map (some nb)) ∧ u.heap.size ≤ nb ∧ RecsW W (fun x => u.heap.size ≤ x) t3 recs ∧ recs.length = rc ∧ rc ≤ i ∧ (names (qs.map Prod.snd)).Nodup ∧ s ≤ qs.length ∧ Incq (qs.take s) ∧
    (∀ t ∈ qs.map Prod.snd, Ok t) ∧ qs.length ≤ cap i ∧ W.ownsMap Try.prog 53 (unitElem (H := Unit)) nb m D ∧ (rc = 0 → D = numD nus) ∧ (rc ≠ 0 → D = .map []) ∧ Fr (fun x => x < u.heap.size) u W
/-- .. in short. -/
def Kp (u : World) (L : Nat) (nus : List Int) (i rc : Nat) (W : World) : Prop := ∃ qs s lv t3 nb recs m D, Inv u W L nus i rc qs s lv t3 nb recs m D

/-- The ledger's own blocks, while W is there. -/
def Own (u W : World) (nb : Nat) : Nat → Prop := fun x => (u.heap.size ≤ x ∧ x ≠ nb) ∧ x < W.heap.size ∧ ¬ isRec W x
theorem Inv.led {u W : World} {L : Nat} {nus : List Int} {i rc : Nat} {qs : List (Nat × St)} {s : Nat} {lv t3 : Value} {nb : Nat} {recs : List (List (ByteArray × Int))} {m : Nat} {D : DataW Unit} (h : Inv u W L nus i rc qs s lv t3 nb recs m D) : LedV W (Own u W nb) L qs s lv t3 (.map (some nb)) := led_narrow h.1
/-- A step that writes the ledger's own blocks alone. -/
theorem Inv.own_step {u W W' : World} {L : Nat} {nus : List Int} {i rc : Nat} {qs qs' : List (Nat × St)} {s s' : Nat} {lv lv' t3 : Value} {nb : Nat} {recs : List (List (ByteArray × Int))} {m : Nat} {D : DataW Unit} (h : Inv u W L nus i rc qs s lv t3 nb recs m D)
    (hl : LedV W' (fun x => Own u W nb x ∨ W.heap.size ≤ x) L qs' s' lv' t3 (.map (some nb))) (hf : Fr (fun x => ¬ Own u W nb x) W W') {i' : Nat} (hi : i ≤ i') (hn : (names (qs'.map Prod.snd)).Nodup) (hs : s' ≤ qs'.length) (hq : Incq (qs'.take s')) (hok : ∀ t ∈ qs'.map Prod.snd, Ok t) (hlen : qs'.length ≤ cap i') :
    Inv u W' L nus i' rc qs' s' lv' t3 nb recs m D := by
  obtain ⟨h1, h2, h3, h4, h5, h6, h7, h8, h9, h10, h11, h12, h13, h14⟩ := h
  have hnb : nb < W.heap.size := by obtain ⟨es, c, hb, _⟩ := h11; exact lt_of_block hb
  refine ⟨hl.mono fun b hb => ?_, h2, ?_, h4, by omega, hn, hs, hq, hok, hlen, ownsMap_fr h11 hf (fun hO => hO.1.2 rfl), h12, h13, h14.trans hf fun x hx hT => ⟨hT, fun hO => ?_⟩⟩
  · rcases hb with hb | hb
    · exact hb.1
    · have := h14.size
      exact ⟨by omega, by omega⟩
  · exact ((recs_isRec h3).fr hf (fun b hb hO => hO.2.2 hb.2)).mono (fun b hb => hb.1)
  · have h0 : x < u.heap.size := hT
    have := hO.1.1; omega
theorem Inv.parted {u W W' : World} {L : Nat} {nus : List Int} {i rc : Nat} {qs : List (Nat × St)} {s : Nat} {lv t3 : Value} {nb : Nat} {recs : List (List (ByteArray × Int))} {m : Nat} {D : DataW Unit} (h : Inv u W L nus i rc qs s lv t3 nb recs m D) {H A M : List ByteArray} (hH : H.length ≤ 65536) (hA : A.length ≤ 65536) (hM : M.length ≤ 65536) {e : Ending}
    (hp : Parted W (Own u W nb) L (qs.map Prod.snd) s t3 (.map (some nb)) H A M e W') : Kp u L nus (i + 1) rc W' := by
  obtain ⟨_, qs', lv', hl, hqs, hf⟩ := hp
  have h' := h
  obtain ⟨h1, h2, h3, h4, h5, h6, h7, h8, h9, h10, h11, h12, h13, h14⟩ := h'
  obtain ⟨t, ht⟩ := fold_pre (opsOf H A M) (qs.map Prod.snd)
  have hnm : names (qs'.map Prod.snd) = names (qs.map Prod.snd) ++ t := by rw [hqs]; exact ht
  have hlen : qs'.length ≤ qs.length + (H.length + A.length + M.length) := by
    have := length_fold (opsOf H A M) (qs.map Prod.snd)
    have e : qs'.length = (part (qs.map Prod.snd) H A M).length := by rw [← hqs]; simp
    rw [e]
    refine Nat.le_trans this ?_
    simp [opsOf]
    omega
  have hsl : qs.length ≤ qs'.length := by
    have := congrArg List.length hnm
    simp [names] at this; omega
  exact ⟨qs', s, lv', t3, nb, recs, m, D, h.own_step hl hf (Nat.le_succ i) (by rw [hqs]; exact nodup_part h6 H A M) (by omega) (incq_pre h8 h7 hnm) (by rw [hqs]; exact ok_part h9 H A M) (by rw [cap_succ]; omega)⟩
theorem Inv.name {u W W' : World} {L : Nat} {nus : List Int} {i rc : Nat} {qs : List (Nat × St)} {s : Nat} {lv t3 : Value} {nb : Nat} {recs : List (List (ByteArray × Int))} {m : Nat} {D : DataW Unit} (h : Inv u W L nus i rc qs s lv t3 nb recs m D) {e : Ending}
    (hp : Named W (Own u W nb) L qs lv t3 (.map (some nb)) e W') : ∃ qs', Inv u W' L nus i rc qs' qs.length lv t3 nb recs m D ∧ Inc (qs'.map Prod.snd) ∧ qs'.length = qs.length := by
  obtain ⟨_, qs', hl, hpm, hi, hf, _⟩ := hp
  have h' := h
  obtain ⟨h1, h2, h3, h4, h5, h6, h7, h8, h9, h10, h11, h12, h13, h14⟩ := h'
  have hlen := hpm.length_eq
  refine ⟨qs', h.own_step (hl.mono fun b hb => Or.inl hb) hf (Nat.le_refl i) hi.nodup (by omega) ?_ (fun t ht => h9 t ((hpm.map _).mem_iff.1 ht)) (by omega), hi, hlen⟩
  rw [← hlen, List.take_length]
  unfold Inc at hi
  rw [List.pairwise_map] at hi
  exact hi
/-- A resharding. -/
theorem Inv.resh {u W W' : World} {L : Nat} {nus : List Int} {i rc : Nat} {qs : List (Nat × St)} {s : Nat} {lv t3 : Value} {nb : Nat} {recs : List (List (ByteArray × Int))} {m : Nat} {D : DataW Unit} (h : Inv u W L nus i rc qs s lv t3 nb recs m D) {e : Ending}
    (hp : ReshardedX W (fun x => (u.heap.size ≤ x ∧ x ≠ nb) ∧ x < W.heap.size) L qs lv recs e W') :
    ∃ (qs' : List (Nat × St)) (t3' : Value) (nb' : Nat), Inv u W' L nus (i + 1) (rc + 1) (qs'.map fun q => (q.1, reset q.2)) qs.length lv t3' nb' (recs ++ [qs'.map fun q => (q.2.name, q.2.cr)]) 0 (.map []) ∧ Inc (qs'.map Prod.snd) ∧ qs'.length = qs.length := by
  obtain ⟨_, qs', t3', nb', hl, hpm, hi, hr, hn, hnb, hf⟩ := hp
  obtain ⟨h1, h2, h3, h4, h5, h6, h7, h8, h9, h10, h11, h12, h13, h14⟩ := h
  have hlen := hpm.length_eq
  have hsz := h14.size
  refine ⟨qs', t3', nb', ⟨hl.mono fun b hb => ⟨hb.1.1, by have := hb.2; omega⟩, by omega, hr.mono fun b hb => ?_, by simp [h4], by omega, ?_, by simp [hlen], ?_, ?_, by rw [List.length_map, hlen, cap_succ]; omega, own_empty hn, fun h => by omega, fun _ => rfl, h14.trans hf fun x hx hT => ⟨hT, fun hS => ?_⟩⟩, hi, hlen⟩
  · rcases hb with hb | hb
    · exact hb.1.1
    · omega
  · rw [names_reset]; exact hi.nodup
  · rw [← hlen]
    have : (qs'.map fun q => (q.1, reset q.2)).take qs'.length = qs'.map fun q => (q.1, reset q.2) := List.take_of_length_le (by simp)
    rw [this]
    have := inc_reset hi
    unfold Inc at this
    rw [List.pairwise_map] at this
    exact this
  · intro t ht
    rw [List.map_map] at ht
    obtain ⟨q, hq, rfl⟩ := List.mem_map.1 ht
    exact ok_reset (h9 q.2 (List.mem_map.2 ⟨q, hpm.mem_iff.1 hq, rfl⟩))
  · have h0 : x < u.heap.size := hT
    have := hS.1.1; omega
/-- .. reads the same where only the tape has moved on, or more lies there. -/
theorem Inv.fr {u W W' : World} {L : Nat} {nus : List Int} {i rc : Nat} {qs : List (Nat × St)} {s : Nat} {lv t3 : Value} {nb : Nat} {recs : List (List (ByteArray × Int))} {m : Nat} {D : DataW Unit} (h : Inv u W L nus i rc qs s lv t3 nb recs m D) (f : Fr All W W') : Inv u W' L nus i rc qs s lv t3 nb recs m D := by
  obtain ⟨h1, h2, h3, h4, h5, h6, h7, h8, h9, h10, h11, h12, h13, h14⟩ := h
  exact ⟨h1.fr f (fun _ _ => trivial), h2, h3.fr f (fun _ _ => trivial), h4, h5, h6, h7, h8, h9, h10, ownsMap_fr h11 f trivial, h12, h13, h14.tr f.any⟩
theorem Inv.up {u W : World} {L : Nat} {nus : List Int} {i rc : Nat} {qs : List (Nat × St)} {s : Nat} {lv t3 : Value} {nb : Nat} {recs : List (List (ByteArray × Int))} {m : Nat} {D : DataW Unit} (h : Inv u W L nus i rc qs s lv t3 nb recs m D) : Inv u W L nus (i + 1) rc qs s lv t3 nb recs m D := by
  obtain ⟨h1, h2, h3, h4, h5, h6, h7, h8, h9, h10, h11, h12, h13, h14⟩ := h
  exact ⟨h1, h2, h3, h4, by omega, h6, h7, h8, h9, by rw [cap_succ]; omega, h11, h12, h13, h14⟩
theorem recs_off {w : World} {S : Nat → Prop} {nb : Nat} {t3 : Value} {recs : List (List (ByteArray × Int))} (h : RecsW w S t3 recs) {es : Array MapEntry} {c : Nat} (hn : w.heap[nb]? = some (.map es c)) : RecsW w (fun x => (S x ∧ x ≠ nb) ∧ x < w.heap.size) t3 recs :=
  (recs_isRec h).mono fun b hb => by
    obtain ⟨h1, cs, t, fz, h2, _⟩ := hb
    refine ⟨⟨h1, fun e => ?_⟩, lt_of_block h2⟩
    rw [e, hn] at h2; cases h2
/-- The last record, as a reader finds it. -/
theorem recs_last {w : World} {S : Nat → Prop} {t3 : Value} {recs : List (List (ByteArray × Int))} {last : List (ByteArray × Int)} (h : RecsW w S t3 (recs ++ [last])) :
    ∃ a c, t3 = .slice a (recs.length + 1) c ∧ ∃ b off, a = some ⟨b, off, none⟩ ∧
      ∃ ua uc, w.cell? ⟨b, off + recs.length, none⟩ = some (.slice ua last.length uc) ∧ Rd All w (.slice ua last.length uc) last.length (flat2 last) := by
  obtain ⟨vs, o, _, ovl, oin⟩ := h
  obtain ⟨a, n, c, rfl⟩ := own_shape o
  obtain rfl := own_len o
  have hl : (recs ++ [last]).length = recs.length + 1 := by simp
  obtain ⟨ao, c', e, _, _, _, hp⟩ := Rd.own (T := All) o (fun _ _ _ => trivial)
  rw [hl] at e hp ovl ⊢
  simp only [Value.slice.injEq] at e
  obtain ⟨rfl, _, rfl⟩ := e
  obtain ⟨b, off, rfl, _, hc⟩ := hp (by omega)
  obtain ⟨u, hu⟩ : ∃ u, vs[recs.length]? = some u := ⟨_, List.getElem?_eq_getElem (by omega)⟩
  have hrec : (recs ++ [last])[recs.length]? = some last := by simp
  obtain ⟨o1, _⟩ := oin _ u _ hu hrec
  obtain ⟨ua, n1, uc, rfl⟩ := own_shape o1
  obtain rfl := own_len o1
  exact ⟨_, _, rfl, b, off, rfl, ua, uc, hc _ _ hu, Rd.own (T := All) o1 (fun _ _ _ => trivial)⟩

/-- The calls, over what every step keeps. -/
theorem Inv.k19 {u W : World} {L : Nat} {nus : List Int} {i rc : Nat} {qs : List (Nat × St)} {s : Nat} {lv t3 : Value} {nb : Nat} {recs : List (List (ByteArray × Int))} {m : Nat} {D : DataW Unit} (h : Inv u W L nus i rc qs s lv t3 nb recs m D) : Calls Try.prog 19 #[.pointer (some ⟨L, 0, none⟩)] W fun e w' => e = .returned (.int .i64 qs.length) ∧ w' = W :=
  (c19 W _ L qs s lv t3 _ h.1).mono (by
    rintro e w' ⟨m', rfl, hw, hm⟩
    exact ⟨by rw [hm.2 h.2.2.2.2.2.1], hw⟩)
theorem Inv.len {u W : World} {L : Nat} {nus : List Int} {i rc : Nat} {qs : List (Nat × St)} {s : Nat} {lv t3 : Value} {nb : Nat} {recs : List (List (ByteArray × Int))} {m : Nat} {D : DataW Unit} (h : Inv u W L nus i rc qs s lv t3 nb recs m D) (hi : i ≤ 4096) : qs.length ≤ 805371904 := Nat.le_trans h.2.2.2.2.2.2.2.2.2.1 (cap_le hi)
theorem Inv.k45 {u W : World} {L : Nat} {nus : List Int} {i rc : Nat} {qs : List (Nat × St)} {s : Nat} {lv t3 : Value} {nb : Nat} {recs : List (List (ByteArray × Int))} {m : Nat} {D : DataW Unit} (h : Inv u W L nus i rc qs s lv t3 nb recs m D) (hi : i ≤ 4096) : Calls Try.prog 45 #[.pointer (some ⟨L, 0, none⟩)] W fun e w' => e = .returned (.bool true) ∧ Qt W w' := by
  have hl := h.len hi
  obtain ⟨h1, h2, h3, h4, h5, h6, h7, h8, h9, h10, h11, h12, h13, h14⟩ := h
  exact c45 W _ L s qs lv t3 _ h1 h6 h7 h8 (fun q hq => h9 q.2 (List.mem_map.2 ⟨q, hq, rfl⟩)) (by omega)
theorem Inv.k20 {u W : World} {L : Nat} {nus : List Int} {i rc : Nat} {qs : List (Nat × St)} {s : Nat} {lv t3 : Value} {nb : Nat} {recs : List (List (ByteArray × Int))} {m : Nat} {D : DataW Unit} (h : Inv u W L nus i rc qs s lv t3 nb recs m D) : Calls Try.prog 20 #[.pointer (some ⟨L, 0, none⟩)] W fun e w' => e = .returned (.int .i64 (Maps.size D)) ∧ w' = W := by
  obtain ⟨h1, h2, h3, h4, h5, h6, h7, h8, h9, h10, h11, h12, h13, h14⟩ := h
  exact c20 W _ L nb m qs s lv t3 D h1 h11
theorem Inv.k29 {T : Nat → Prop} {u W : World} {L : Nat} {nus : List Int} {i rc : Nat} {qs : List (Nat × St)} {s : Nat} {lv t3 : Value} {nb : Nat} {recs : List (List (ByteArray × Int))} {m : Nat} {D : DataW Unit} (h : Inv u W L nus i rc qs s lv t3 nb recs m D) (hrc : rc = 0) {v : Value} (hv : U64s T W v nus) (hwf : ∀ n ∈ nus, (Lit.int .u64 n).wf = true) (hl : nus.length ≤ 65536) :
    Calls Try.prog 29 #[.pointer (some ⟨L, 0, none⟩), v, .int .i64 (Maps.size (numD nus))] W fun e w' => e = .returned (.bool true) ∧ Fr All W w' := by
  obtain ⟨h1, h2, h3, h4, h5, h6, h7, h8, h9, h10, h11, h12, h13, h14⟩ := h
  rw [h12 hrc] at h11
  exact c29 W _ L nb m qs s lv t3 v nus h1 h11 hv hwf (by omega)
theorem Inv.k21 {u W : World} {L : Nat} {nus : List Int} {i rc : Nat} {qs : List (Nat × St)} {s : Nat} {lv t3 : Value} {nb : Nat} {recs : List (List (ByteArray × Int))} {m : Nat} {D : DataW Unit} (h : Inv u W L nus i rc qs s lv t3 nb recs m D) (hi : i ≤ 4096) : Calls Try.prog 21 #[.pointer (some ⟨L, 0, none⟩)] W fun e w' => e = .returned lv ∧ ∃ qs', Inv u w' L nus i rc qs' qs.length lv t3 nb recs m D ∧ Inc (qs'.map Prod.snd) ∧ qs'.length = qs.length := by
  have hl := h.len hi
  have h' := h
  obtain ⟨h1, h2, h3, h4, h5, h6, h7, h8, h9, h10, h11, h12, h13, h14⟩ := h'
  refine (c21 W _ L s qs lv t3 _ h.led h6 h7 h8 (by omega)).mono fun e w' hN => ?_
  exact ⟨hN.1, h.name hN⟩
theorem Inv.k40 {u W : World} {L : Nat} {nus : List Int} {i rc : Nat} {qs : List (Nat × St)} {s : Nat} {lv t3 : Value} {nb : Nat} {recs : List (List (ByteArray × Int))} {m : Nat} {D : DataW Unit} (h : Inv u W L nus i rc qs s lv t3 nb recs m D) (hi : i ≤ 4096) : Calls Try.prog 40 #[.pointer (some ⟨L, 0, none⟩)] W fun e w' => e = .returned (.tuple #[]) ∧ ∃ (qs' : List (Nat × St)) (t3' : Value) (nb' : Nat), Inv u w' L nus (i + 1) (rc + 1) (qs'.map fun q => (q.1, reset q.2)) qs.length lv t3' nb' (recs ++ [qs'.map fun q => (q.2.name, q.2.cr)]) 0 (.map []) ∧ Inc (qs'.map Prod.snd) ∧ qs'.length = qs.length := by
  have hl := h.len hi
  have h' := h
  obtain ⟨h1, h2, h3, h4, h5, h6, h7, h8, h9, h10, h11, h12, h13, h14⟩ := h'
  obtain ⟨es, c, hn, _⟩ := h11
  refine (c40x W _ L s qs lv t3 _ recs h1.bound h6 h7 h8 (by omega) (fun b hb => hb.2) (recs_off h3 hn) (by omega)).mono fun e w' hN => ?_
  exact ⟨hN.1, h.resh hN⟩
theorem Inv.k32 {u W : World} {L : Nat} {nus : List Int} {i rc : Nat} {qs : List (Nat × St)} {s : Nat} {lv t3 : Value} {nb : Nat} {recs : List (List (ByteArray × Int))} {m : Nat} {D : DataW Unit} (h : Inv u W L nus i rc qs s lv t3 nb recs m D) (hi : i ≤ 4096) {num : Int} {hv av mv : Value} {H A M : List ByteArray} (q1 : Strs (fun x => x < u.heap.size) W hv H) (q2 : Strs (fun x => x < u.heap.size) W av A) (q3 : Strs (fun x => x < u.heap.size) W mv M)
    (b1 : H.length ≤ 65536) (b2 : A.length ≤ 65536) (b3 : M.length ≤ 65536) (hsz : ∀ n ∈ H ++ A ++ M, n.size ≤ maxLen) :
    Calls Try.prog 32 #[.pointer (some ⟨L, 0, none⟩), .agg #[.int .u64 num, hv, av, mv]] W fun e w' => e = .returned (.tuple #[]) ∧ Kp u L nus (i + 1) rc w' := by
  have hl := h.len hi
  have h' := h
  obtain ⟨h1, h2, h3, h4, h5, h6, h7, h8, h9, h10, h11, h12, h13, h14⟩ := h'
  refine (c32 W _ L qs _ s num lv t3 _ hv av mv H A M h.led rfl h6 (fun b hb => hb.2.1) (fun b hb hO => ?_) q1 q2 q3 hsz (by simp; omega)).mono fun e w' hP => ?_
  · have h0 : b < u.heap.size := hb
    have := hO.1.1; omega
  · exact ⟨hP.1, h.parted b1 b2 b3 hP⟩
theorem Inv.k28 {a : Option Addr} {n c : Nat} {u W : World} {L : Nat} {nus : List Int} {i rc : Nat} {qs : List (Nat × St)} {s : Nat} {lv : Value} {nb : Nat} {recs : List (List (ByteArray × Int))} {m : Nat} {D : DataW Unit} (h : Inv u W L nus i rc qs s lv (.slice a n c) nb recs m D) :
    Calls Try.prog 28 #[.pointer (some ⟨L, 0, none⟩)] W fun e w' => e = .returned (.slice a n c) ∧ w' = W := c28 W _ L qs s lv _ a n c h.1
/-- The slice of the records. -/
theorem Inv.t3_shape {u W : World} {L : Nat} {nus : List Int} {i rc : Nat} {qs : List (Nat × St)} {s : Nat} {lv t3 : Value} {nb : Nat} {recs : List (List (ByteArray × Int))} {m : Nat} {D : DataW Unit} (h : Inv u W L nus i rc qs s lv t3 nb recs m D) : ∃ a c, t3 = .slice a rc c := by
  obtain ⟨h1, h2, ⟨vs, o, _⟩, h4, _⟩ := h
  obtain ⟨a, n, c, rfl⟩ := own_shape o
  obtain rfl := own_len o
  exact ⟨a, c, by rw [h4]⟩
theorem Inv.lv_shape {u W : World} {L : Nat} {nus : List Int} {i rc : Nat} {qs : List (Nat × St)} {s : Nat} {lv t3 : Value} {nb : Nat} {recs : List (List (ByteArray × Int))} {m : Nat} {D : DataW Unit} (h : Inv u W L nus i rc qs s lv t3 nb recs m D) : ∃ a c, lv = .slice a qs.length c := by
  have o := h.1.own
  obtain ⟨a, n, c, rfl⟩ := own_shape o
  obtain rfl := own_len o
  exact ⟨a, c, rfl⟩
theorem nest_nil {α : Type} (f : α → Value) (T : Nat → Prop) (w : World) : Nest f T w (.slice none 0 0) [] := ⟨[], Rd.nil _ _, rfl, fun i u xs hi => by simp at hi⟩

end Go.Proofs.Qxb6601232a
