/-
  SEAT b6601232a. PLAIN FACTS FOR THE END OF FnReshardRecordsCreditsAndResets. By an AI agent.
-/
import Derived.Test.Qxb6601232aNew2
import Derived.Test.Qxb6601232aGet
namespace Go.Proofs.Qxb6601232a
open Go.RowKit
set_option linter.unusedVariables false
set_option linter.unusedSimpArgs false

theorem run_equalIn_pointer_self {P : Program} (w : World) (d : Nat) (t : TypeId) (a : Addr) (h : P.underlying t = some (.pointer (P.pointee t))) {n : Nat} (hi : (P.info? (P.pointee t)).map (fun i => i.size) = some n) :
    (Op.equalIn (d + 1) t (.pointer (some a)) (.pointer (some a))).run P w = .ok true w := by
  obtain ⟨i0, hi0, hi1⟩ : ∃ i, P.info? (P.pointee t) = some i ∧ i.size = n := by simpa [Option.map_eq_some_iff] using hi
  simp [Op.equalIn, run_underlying h, sizeOf, typeInfo, hi0, hi1]
  intro _
  simp [sameAddr]
theorem run_neq_pointer_self {P : Program} (t : TypeId) (h : P.underlying t = some (.pointer (P.pointee t))) {n : Nat} (hi : (P.info? (P.pointee t)).map (fun i => i.size) = some n) (p : Option Addr) (w : World) :
    (binOp .neq t (.pointer p) (.pointer p)).run P w = .ok (.bool false) w := by
  cases p with
  | none => simpa using run_neq_pointer_nil w t none h
  | some a =>
  have : (Op.equal t (.pointer (some a)) (.pointer (some a))).run P w = .ok true w := run_equalIn_pointer_self w 9999 t a h hi
  simp only [binOp]
  simp [this]
theorem neq44 (p : Option Addr) (w : World) : (binOp .neq 44 (.pointer p) (.pointer p)).run Try.prog w = .ok (.bool false) w :=
  run_neq_pointer_self 44 (by kernel_rfl) (n := 5) (by kernel_rfl) p w

/-- An inner slice of a slice of slices. -/
theorem nest_cell {α : Type} {f : α → Value} {T : Nat → Prop} {w : World} {a : Option Addr} {n c : Nat} {xss : List (List α)} (h : Nest f T w (.slice a n c) xss) {r : Nat} {xs : List α} (hx : xss[r]? = some xs) :
    ∃ b off, a = some ⟨b, off, none⟩ ∧ ∃ ua uc, w.cell? ⟨b, off + r, none⟩ = some (.slice ua xs.length uc) ∧ Rd T w (.slice ua xs.length uc) xs.length (xs.map f) := by
  obtain ⟨vs, ⟨ao, c', e, _, _, _, hp⟩, hl, hi⟩ := h
  simp only [Value.slice.injEq] at e
  obtain ⟨rfl, rfl, rfl⟩ := e
  have hr := (List.getElem?_eq_some_iff.1 hx).1
  obtain ⟨b, off, rfl, _, hc⟩ := hp (by omega)
  obtain ⟨u, hu⟩ : ∃ u, vs[r]? = some u := ⟨_, List.getElem?_eq_getElem (by omega)⟩
  obtain ⟨ua, uc, rfl, g⟩ := hi r u xs hu hx
  exact ⟨b, off, rfl, ua, uc, hc r _ hu, ua, uc, rfl, g⟩
/-- An element of a slice. -/
theorem rd_cell {α : Type} {f : α → Value} {T : Nat → Prop} {w : World} {a : Option Addr} {n c : Nat} {xs : List α} (h : Rd T w (.slice a n c) xs.length (xs.map f)) {j : Nat} {x : α} (hx : xs[j]? = some x) :
    ∃ b off, a = some ⟨b, off, none⟩ ∧ w.cell? ⟨b, off + j, none⟩ = some (f x) := by
  obtain ⟨ao, c', e, _, _, _, hp⟩ := h
  simp only [Value.slice.injEq] at e
  obtain ⟨rfl, rfl, rfl⟩ := e
  have hr := (List.getElem?_eq_some_iff.1 hx).1
  obtain ⟨b, off, rfl, _, hc⟩ := hp (by omega)
  exact ⟨b, off, rfl, cell_at hc hx⟩
/-- A credit of a record. -/
theorem rd_cell2 {T : Nat → Prop} {w : World} {a : Option Addr} {n c : Nat} {rs : List (ByteArray × Int)} (h : Rd T w (.slice a n c) rs.length (flat2 rs)) {j : Nat} {x : ByteArray × Int} (hx : rs[j]? = some x) :
    ∃ b off, a = some ⟨b, off, none⟩ ∧ w.cell? ⟨b, off + j * 2, none⟩ = some (.string x.1) ∧ w.cell? ⟨b, off + j * 2 + 1, none⟩ = some (.int .i64 x.2) := by
  obtain ⟨ao, c', e, _, _, _, hp⟩ := h
  simp only [Value.slice.injEq] at e
  obtain ⟨rfl, rfl, rfl⟩ := e
  have hr := (List.getElem?_eq_some_iff.1 hx).1
  obtain ⟨b, off, rfl, _, hc⟩ := hp (by omega)
  refine ⟨b, off, rfl, hc (j * 2) _ ?_, ?_⟩
  · have := flat2_get rs j 0 x hx (by omega); simpa [crc] using this
  · rw [Nat.add_assoc]; exact hc (j * 2 + 1) _ (by have := flat2_get rs j 1 x hx (by omega); simpa [crc] using this)
/-- The records after a resharding, as a reader finds them. -/
theorem recs_law {w : World} {S : Nat → Prop} {t3 : Value} {pss : List (List ByteArray)} {css : List (List Int)} {last : List (ByteArray × Int)} (h : RecsW w S t3 (recsTo pss css pss.length ++ [last])) :
    ∃ a c, t3 = .slice a (pss.length + 1) c ∧ ∃ b off, a = some ⟨b, off, none⟩ ∧
      (∀ (r : Nat) (xs : List ByteArray) (ys : List Int), pss[r]? = some xs → css[r]? = some ys → ys.length = xs.length → ∃ ua uc, w.cell? ⟨b, off + r, none⟩ = some (.slice ua xs.length uc) ∧ Rd All w (.slice ua xs.length uc) (xs.zip ys).length (flat2 (xs.zip ys))) ∧
      ∃ ua uc, w.cell? ⟨b, off + pss.length, none⟩ = some (.slice ua last.length uc) ∧ Rd All w (.slice ua last.length uc) last.length (flat2 last) := by
  obtain ⟨vs, o, _, ovl, oin⟩ := h
  obtain ⟨a, n, c, rfl⟩ := own_shape o
  obtain rfl := own_len o
  have hl : (recsTo pss css pss.length ++ [last]).length = pss.length + 1 := by simp [recsTo_len]
  obtain ⟨ao, c', e, _, _, _, hp⟩ := Rd.own (T := All) o (fun _ _ _ => trivial)
  rw [hl] at e hp ovl ⊢
  simp only [Value.slice.injEq] at e
  obtain ⟨rfl, _, rfl⟩ := e
  obtain ⟨b, off, rfl, _, hc⟩ := hp (by omega)
  refine ⟨_, _, rfl, b, off, rfl, fun r xs ys hx hy hyl => ?_, ?_⟩
  · have hr := (List.getElem?_eq_some_iff.1 hx).1
    obtain ⟨u, hu⟩ : ∃ u, vs[r]? = some u := ⟨_, List.getElem?_eq_getElem (by omega)⟩
    have hrec : (recsTo pss css pss.length ++ [last])[r]? = some (xs.zip ys) := by
      rw [List.getElem?_append_left (by rw [recsTo_len]; omega)]
      unfold recsTo
      rw [List.getElem?_map, List.getElem?_range hr]
      simp [recAt, List.getD, hx, hy]
    obtain ⟨o1, _⟩ := oin r u _ hu hrec
    obtain ⟨ua, n1, uc, rfl⟩ := own_shape o1
    obtain rfl := own_len o1
    have e : (xs.zip ys).length = xs.length := by simp [List.length_zip, hyl]
    have := hc r _ hu
    have h2 := Rd.own (T := All) o1 (fun _ _ _ => trivial)
    rw [e] at this h2
    rw [e]
    exact ⟨ua, uc, this, h2⟩
  · obtain ⟨u, hu⟩ : ∃ u, vs[pss.length]? = some u := ⟨_, List.getElem?_eq_getElem (by omega)⟩
    have hrec : (recsTo pss css pss.length ++ [last])[pss.length]? = some last := by
      rw [List.getElem?_append_right (by rw [recsTo_len]; omega), recsTo_len]; simp
    obtain ⟨o1, _⟩ := oin _ u _ hu hrec
    obtain ⟨ua, n1, uc, rfl⟩ := own_shape o1
    obtain rfl := own_len o1
    exact ⟨ua, uc, hc _ _ hu, Rd.own (T := All) o1 (fun _ _ _ => trivial)⟩
/-- Where a name stands once the list is in order. -/
theorem place {ns : List ByteArray} {cs ats : List Int} {es bs : List Bool} {qs qs' : List (Nat × St)} (hp : qs'.Perm qs) (he : qs.map Prod.snd = stsTo ns cs ats es bs ns.length) (e2 : cs.length = ns.length) (e3 : ats.length = ns.length) (e5 : bs.length = ns.length) {i : Nat} {x : ByteArray} (hi : ns[i]? = some x) :
    ∃ p q c a b, qs'[p]? = some q ∧ p < ns.length ∧ q.2.name = x ∧ cs[i]? = some c ∧ q.2.cr = c ∧ ats[i]? = some a ∧ q.2.acts = a ∧ bs[i]? = some b ∧ q.2.bn = b := by
  have hr := (List.getElem?_eq_some_iff.1 hi).1
  obtain ⟨c, hc⟩ : ∃ c, cs[i]? = some c := ⟨_, List.getElem?_eq_getElem (by omega)⟩
  obtain ⟨a, ha⟩ : ∃ c, ats[i]? = some c := ⟨_, List.getElem?_eq_getElem (by omega)⟩
  obtain ⟨b, hb⟩ : ∃ c, bs[i]? = some c := ⟨_, List.getElem?_eq_getElem (by omega)⟩
  have hm : stAt ns cs ats es bs i ∈ qs'.map Prod.snd := (hp.map _).mem_iff.2 (by rw [he]; unfold stsTo; exact List.mem_map.2 ⟨i, List.mem_range.2 hr, rfl⟩)
  obtain ⟨q, hq, e⟩ := List.mem_map.1 hm
  obtain ⟨p, hpq⟩ := List.mem_iff_getElem?.1 hq
  have hl : qs'.length = ns.length := by have := congrArg List.length he; rw [hp.length_eq]; simpa [stsTo] using this
  refine ⟨p, q, c, a, b, hpq, by have := (List.getElem?_eq_some_iff.1 hpq).1; omega, ?_, hc, ?_, ha, ?_, hb, ?_⟩ <;> rw [e] <;> simp [stAt, List.getD, hi, hc, ha, hb]
theorem inc_next {qs : List (Nat × St)} (hi : Inc (qs.map Prod.snd)) {k : Nat} {p q : Nat × St} (hp : qs[k]? = some p) (hq : qs[k + 1]? = some q) : Op.bytesLess p.2.name.toList q.2.name.toList = true := by
  have hl := (List.getElem?_eq_some_iff.1 hq).1
  have := (List.pairwise_iff_getElem.1 hi) k (k + 1) (by simp; omega) (by simpa using hl) (by omega)
  simp only [List.getElem_map] at this
  rw [(List.getElem?_eq_some_iff.1 hp).2, (List.getElem?_eq_some_iff.1 hq).2] at this
  exact this
theorem incc_of {qs : List (Nat × St)} (hi : Inc (qs.map Prod.snd)) : IncC (qs.map fun q => (q.2.name, q.2.cr)) := by
  unfold Inc at hi
  rw [List.pairwise_map] at hi
  unfold IncC
  rw [List.pairwise_map]
  exact hi
theorem inc_reset {qs : List (Nat × St)} (hi : Inc (qs.map Prod.snd)) : Inc ((qs.map fun q => (q.1, reset q.2)).map Prod.snd) := by
  unfold Inc at *
  rw [List.pairwise_map] at hi
  rw [List.map_map, List.pairwise_map]
  exact hi
theorem names_reset (qs : List (Nat × St)) : names ((qs.map fun q => (q.1, reset q.2)).map Prod.snd) = names (qs.map Prod.snd) := by
  simp [names, reset]
/-- A listed standing, as a reader finds it. -/
theorem led_cell {w : World} {S : Nat → Prop} {L : Nat} {qs : List (Nat × St)} {srt : Int} {la : Option Addr} {n lc : Nat} {t3 t4 : Value} (h : LedV w S L qs srt (.slice la n lc) t3 t4) {k : Nat} {q : Nat × St} (hq : qs[k]? = some q) :
    ∃ b off, la = some ⟨b, off, none⟩ ∧ w.cell? ⟨b, off + k, none⟩ = some (.pointer (some ⟨q.1, 0, none⟩)) ∧ w.cell? ⟨q.1, 0, none⟩ = some (.string q.2.name) ∧ w.cell? ⟨q.1, 1, none⟩ = some (.int .i64 q.2.cr) ∧ w.cell? ⟨q.1, 2, none⟩ = some (.int .i64 q.2.acts) ∧ w.cell? ⟨q.1, 3, none⟩ = some (.bool q.2.ex) ∧ w.cell? ⟨q.1, 4, none⟩ = some (.bool q.2.bn) := by
  obtain ⟨ao, c', e, _, _, _, hp⟩ := Rd.own (T := All) h.own (fun _ _ _ => trivial)
  simp only [Value.slice.injEq] at e
  obtain ⟨rfl, rfl, rfl⟩ := e
  have hr := (List.getElem?_eq_some_iff.1 hq).1
  obtain ⟨b, off, rfl, _, hc⟩ := hp (by omega)
  have hb := (h.st q (List.mem_of_getElem? hq)).2.1
  refine ⟨b, off, rfl, hc k _ (by rw [List.getElem?_map, hq]; rfl), ?_, ?_, ?_, ?_, ?_⟩ <;> rw [cell_of_row w q.1 _ _ _ _ hb] <;> rfl

end Go.Proofs.Qxb6601232a
