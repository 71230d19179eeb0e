/-
  SEAT b6601232a. MERGING FROM THE BACK; A LEDGER WHOSE LIST IS TURNED. By an AI agent.
-/
import Derived.Test.Qxb6601232aNode
import Derived.Lib.Bytealg
namespace Go.Proofs.Qxb6601232a
open Go.RowKit
set_option linter.unusedVariables false
set_option linter.unusedSimpArgs false

theorem cmp_lt : ∀ x y : List UInt8, decide (Lib.compareBytes x y < 0) = Op.bytesLess x y
  | [], [] => by simp [Lib.compareBytes, Op.bytesLess]
  | [], _ :: _ => by simp [Lib.compareBytes, Op.bytesLess]
  | _ :: _, [] => by simp [Lib.compareBytes, Op.bytesLess]
  | a :: x, b :: y => by
    have ih := cmp_lt x y
    simp only [Lib.compareBytes, Op.bytesLess, ← ih]
    by_cases h : a < b
    · simp [h]
    · by_cases h' : b < a
      · have : a ≠ b := fun e => by subst e; exact absurd h' (UInt8.lt_irrefl _)
        simp [h, h', this]
      · have : a = b := UInt8.toNat_inj.1 (by rw [UInt8.lt_iff_toNat_lt] at h h'; omega)
        simp [h, h', this]

def lts (a b : Nat × St) : Prop := bless a.2.name b.2.name = true
def Incq (l : List (Nat × St)) : Prop := l.Pairwise lts
theorem Incq.inc {l : List (Nat × St)} (h : Incq l) : Inc (l.map Prod.snd) := by unfold Inc; rw [List.pairwise_map]; exact h
theorem lts_trans {a b c : Nat × St} (h : lts a b) (k : lts b c) : lts a c := bless_trans h k
/-- Of a rising list: what stands ahead of place i is the lesser. -/
theorem incq_take {l : List (Nat × St)} (h : Incq l) {i : Nat} {p x : Nat × St} (hp : l[i]? = some p) (hx : x ∈ l.take i) : lts x p := by
  have e : l = l.take i ++ l.drop i := (List.take_append_drop i l).symm
  unfold Incq at h
  rw [e, List.pairwise_append] at h
  refine h.2.2 x hx p ?_
  have hlt := (List.getElem?_eq_some_iff.1 hp).1
  have : (l.drop i)[0]? = some p := by rw [List.getElem?_drop]; simpa using hp
  exact List.mem_of_getElem? this
/-- The merge, from the back. -/
structure Mg (P F : List (Nat × St)) (old next : Nat) (M : List (Nat × St)) : Prop where
  inc : Incq M
  perm : M.Perm (P.drop old ++ F.drop next)
  lo : ∀ m ∈ M, ∀ x, x ∈ P.take old ∨ x ∈ F.take next → lts x m
theorem Mg.start (P F : List (Nat × St)) : Mg P F P.length F.length [] := ⟨List.Pairwise.nil, by simp, fun m hm => by cases hm⟩
theorem take_pred {l : List (Nat × St)} {i : Nat} {p : Nat × St} (hi : 0 < i) (hp : l[i - 1]? = some p) : l.take i = l.take (i - 1) ++ [p] := by
  have : i = i - 1 + 1 := by omega
  rw [this, List.take_add_one, hp]; simp
theorem drop_pred {l : List (Nat × St)} {i : Nat} {p : Nat × St} (hi : 0 < i) (hp : l[i - 1]? = some p) : l.drop (i - 1) = p :: l.drop i := by
  have hlt := (List.getElem?_eq_some_iff.1 hp).1
  rw [List.drop_eq_getElem_cons hlt]
  have e : l[i - 1] = p := (List.getElem?_eq_some_iff.1 hp).2
  rw [e, show i - 1 + 1 = i from by omega]
theorem Mg.old {P F M : List (Nat × St)} {old next : Nat} {p f : Nat × St} (h : Mg P F old next M) (hP : Incq P) (hF : Incq F) (ho : 0 < old) (hn : 0 < next) (hp : P[old - 1]? = some p) (hf : F[next - 1]? = some f) (hlt : lts f p) : Mg P F (old - 1) next (p :: M) := by
  refine ⟨List.pairwise_cons.2 ⟨fun m hm => h.lo m hm p (Or.inl (by rw [take_pred ho hp]; simp)), h.inc⟩, ?_, ?_⟩
  · rw [drop_pred ho hp]; exact h.perm.cons p
  · intro m hm x hx
    rcases List.mem_cons.1 hm with rfl | hm
    · rcases hx with hx | hx
      · exact incq_take hP hp hx
      · rw [take_pred hn hf] at hx
        rcases List.mem_append.1 hx with hx | hx
        · exact lts_trans (incq_take hF hf hx) hlt
        · simp at hx; subst hx; exact hlt
    · refine h.lo m hm x ?_
      rcases hx with hx | hx
      · exact Or.inl (by rw [take_pred ho hp]; exact List.mem_append_left _ hx)
      · exact Or.inr hx
theorem Mg.fresh {P F M : List (Nat × St)} {old next : Nat} {f : Nat × St} (h : Mg P F old next M) (hP : Incq P) (hF : Incq F) (hn : 0 < next) (hf : F[next - 1]? = some f) (hlt : 0 < old → ∀ p, P[old - 1]? = some p → lts p f) (hol : old ≤ P.length) : Mg P F old (next - 1) (f :: M) := by
  refine ⟨List.pairwise_cons.2 ⟨fun m hm => h.lo m hm f (Or.inr (by rw [take_pred hn hf]; simp)), h.inc⟩, ?_, ?_⟩
  · rw [drop_pred hn hf]
    exact (h.perm.cons f).trans List.perm_middle.symm
  · intro m hm x hx
    rcases List.mem_cons.1 hm with rfl | hm
    · rcases hx with hx | hx
      · by_cases ho : 0 < old
        · obtain ⟨p, hp⟩ : ∃ p, P[old - 1]? = some p := ⟨P[old - 1]'(by omega), by simp⟩
          rw [take_pred ho hp] at hx
          rcases List.mem_append.1 hx with hx | hx
          · exact lts_trans (incq_take hP hp hx) (hlt ho p hp)
          · simp at hx; subst hx; exact hlt ho x hp
        · have : old = 0 := by omega
          subst this; simp at hx
      · exact incq_take hF hf hx
    · refine h.lo m hm x ?_
      rcases hx with hx | hx
      · exact Or.inl hx
      · exact Or.inr (by rw [take_pred hn hf]; exact List.mem_append_left _ hx)
theorem Mg.done {P F M : List (Nat × St)} {old : Nat} (h : Mg P F old 0 M) (hP : Incq P) : Incq (P.take old ++ M) ∧ (P.take old ++ M).Perm (P ++ F) := by
  refine ⟨?_, ?_⟩
  · unfold Incq
    rw [List.pairwise_append]
    exact ⟨hP.sublist (List.take_sublist _ _), h.inc, fun x hx m hm => h.lo m hm x (Or.inl hx)⟩
  · have := h.perm
    rw [List.drop_zero] at this
    refine (this.append_left (P.take old)).trans ?_
    rw [← List.append_assoc, List.take_append_drop]

theorem MapW.perm {w : World} {mb : Nat} {qs qs' : List (Nat × St)} {D : DataW Unit} (h : MapW w mb qs D) (hp : qs'.Perm qs) : MapW w mb qs' D := by
  have hl := hp.length_eq
  have hnm : (names (qs'.map Prod.snd)).Perm (names (qs.map Prod.snd)) := (hp.map _).map _
  obtain ⟨h1, h2, h3, h4⟩ := h
  refine ⟨by rw [hl]; exact h1, fun s => ?_, fun hn => ?_, fun hs => ?_⟩
  · rw [h2, Bool.eq_iff_iff, getS_isSome, getS_isSome]
    exact hnm.symm.mem_iff
  · obtain ⟨a, b⟩ := h3 (hnm.nodup_iff.1 hn)
    exact ⟨by rw [hl]; exact a, fun q hq => b q (hp.mem_iff.1 hq)⟩
  · exact hnm.nodup_iff.2 (h4 (by rw [← hl]; exact hs))

/-- The rows of the merge: what the list holds while it is turned. -/
structure Rows (cur : Array Value) (n : Nat) (P : List (Nat × St)) (old place : Nat) (M : List (Nat × St)) : Prop where
  sz : n ≤ cur.size
  lo : ∀ j q, j < old → P[j]? = some q → cur[j]? = some (ptr q.1)
  hi : ∀ j q, M[j]? = some q → cur[place + j]? = some (ptr q.1)
  len : M.length + place = n
theorem Rows.put {cur : Array Value} {n : Nat} {P M : List (Nat × St)} {old old' place : Nat} (h : Rows cur n P old place M) (hp : 0 < place) (ho : old' ≤ old) (ho' : old' ≤ place - 1) (q : Nat × St) : Rows (cur.setIfInBounds (place - 1) (ptr q.1)) n P old' (place - 1) (q :: M) := by
  have hs := h.sz
  have hl := h.len
  refine ⟨by simpa using h.sz, fun j p hj hp' => ?_, fun j p hj => ?_, by simp; omega⟩
  · rw [Array.getElem?_setIfInBounds_ne (by omega)]
    exact h.lo j p (by omega) hp'
  · cases j with
    | zero =>
      simp at hj; subst hj
      rw [Nat.add_zero, Array.getElem?_setIfInBounds_self_of_lt (by omega)]
    | succ j =>
      simp at hj
      rw [Array.getElem?_setIfInBounds_ne (by omega)]
      have := h.hi j p hj
      rw [show place - 1 + (j + 1) = place + j from by omega]; exact this
theorem Rows.done {cur : Array Value} {n : Nat} {P M : List (Nat × St)} {old : Nat} (h : Rows cur n P old old M) (hol : old ≤ P.length) : cur.toList.take n = (P.take old ++ M).map fun q => ptr q.1 := by
  have hs := h.sz
  have hl := h.len
  apply List.ext_getElem?
  intro j
  by_cases hj : j < n
  · rw [List.getElem?_take_of_lt hj, Array.getElem?_toList, List.getElem?_map]
    by_cases hjo : j < old
    · obtain ⟨q, hq⟩ : ∃ q, P[j]? = some q := ⟨P[j]'(by omega), by simp⟩
      rw [h.lo j q hjo hq, List.getElem?_append_left (by simp; omega), List.getElem?_take_of_lt hjo, hq]; rfl
    · obtain ⟨q, hq⟩ : ∃ q, M[j - old]? = some q := ⟨M[j - old]'(by omega), by simp⟩
      have := h.hi (j - old) q hq
      rw [show old + (j - old) = j from by omega] at this
      rw [this, List.getElem?_append_right (by simp; omega), List.length_take, Nat.min_eq_left hol, hq]; rfl
  · rw [List.getElem?_eq_none (by simp; omega), List.getElem?_eq_none (by simp; omega)]

end Go.Proofs.Qxb6601232a
