/-
  SEAT b6601153a. PLAIN FACTS: two lists of entries that say the same. By an AI agent.
-/
import Derived.Test.Qxb6601153aPure
namespace Go.Proofs.Qxb6601153a
open Go.RowKit
set_option linter.unusedVariables false

/-- The two lists say the same: indexes, terms, commands, flags. -/
def Pl (a b : List Raw) : Prop := a.map Raw.plain = b.map Raw.plain
theorem Pl.symm {a b : List Raw} (h : Pl a b) : Pl b a := Eq.symm h
theorem Pl.trans {a b c : List Raw} (h : Pl a b) (k : Pl b c) : Pl a c := Eq.trans h k
theorem Pl.len {a b : List Raw} (h : Pl a b) : a.length = b.length := by have := congrArg List.length h; simpa using this
theorem Pl.get {a b : List Raw} (h : Pl a b) {i : Nat} {r : Raw} (hr : a[i]? = some r) : ∃ q, b[i]? = some q ∧ r.plain = q.plain := by
  have h1 : (a.map Raw.plain)[i]? = (b.map Raw.plain)[i]? := by rw [h]
  simp only [List.getElem?_map, hr, Option.map_some] at h1
  cases hq : b[i]? with
  | none => rw [hq] at h1; cases h1
  | some q => rw [hq] at h1; exact ⟨q, rfl, by simpa using h1⟩
theorem Pl.take {a b : List Raw} (h : Pl a b) (m : Nat) : Pl (a.take m) (b.take m) := by unfold Pl at *; rw [List.map_take, List.map_take, h]
theorem Pl.drop {a b : List Raw} (h : Pl a b) (m : Nat) : Pl (a.drop m) (b.drop m) := by unfold Pl at *; rw [List.map_drop, List.map_drop, h]
theorem Pl.append {a b c d : List Raw} (h : Pl a b) (k : Pl c d) : Pl (a ++ c) (b ++ d) := by unfold Pl at *; rw [List.map_append, List.map_append, h, k]
theorem plain_parts {r q : Raw} (h : r.plain = q.plain) : r.idx = q.idx ∧ r.term = q.term ∧ r.cmd = q.cmd ∧ r.flag = q.flag := by
  simpa [Raw.plain] using h
theorem chgs_eq (a : List Raw) : chgs a = ((a.map Raw.plain).filter (fun p => p.2.2.2)).map (fun p => p.1) := by
  induction a with
  | nil => rfl
  | cons r l ih =>
    cases hf : r.flag
    · have : chgs (r :: l) = chgs l := by simp [chgs, hf]
      rw [this, ih]; simp [Raw.plain, hf]
    · have : chgs (r :: l) = r.idx :: chgs l := by simp [chgs, hf]
      rw [this, ih]; simp [Raw.plain, hf]
theorem Pl.chgs {a b : List Raw} (h : Pl a b) : chgs a = chgs b := by rw [chgs_eq, chgs_eq, h]
theorem Pl.termF {a b : List Raw} (h : Pl a b) (si st off i : Int) : termF si st off a i = termF si st off b i := by
  have hl := h.len
  unfold Qxb6601153a.termF
  rw [hl]
  split
  · rfl
  · split
    · cases hr : a[(i - off).toNat - 1]? with
      | none =>
        have : b[(i - off).toNat - 1]? = none := by rw [List.getElem?_eq_none_iff] at *; omega
        rw [this]
      | some r =>
        obtain ⟨q, hq, hp⟩ := h.get hr
        rw [hq]; simp [(plain_parts hp).2.1]
    · rfl
theorem mem_get {a : List Raw} {r : Raw} (h : r ∈ a) : ∃ i : Nat, a[i]? = some r := by
  obtain ⟨i, hi, he⟩ := List.getElem_of_mem h
  exact ⟨i, by rw [← he]; simp⟩
theorem Pl.idxOk {a b : List Raw} (h : Pl a b) (k : IdxOk a) : IdxOk b := fun q hq => by
  obtain ⟨i, hi⟩ := mem_get hq
  obtain ⟨r, hr, hp⟩ := h.symm.get hi
  have := k r (List.mem_of_getElem? hr)
  obtain ⟨e1, e2, _⟩ := plain_parts hp
  rw [e1, e2]; exact this
theorem Pl.cmdLen {a b : List Raw} (h : Pl a b) (k : ∀ r ∈ a, r.cmd.length ≤ 1048576) : ∀ r ∈ b, r.cmd.length ≤ 1048576 := fun q hq => by
  obtain ⟨i, hi⟩ := mem_get hq
  obtain ⟨r, hr, hp⟩ := h.symm.get hi
  have := k r (List.mem_of_getElem? hr)
  obtain ⟨_, _, e3, _⟩ := plain_parts hp
  rw [e3]; exact this
theorem Pl.runs {a b : List Raw} {off : Int} (h : Pl a b) (k : Runs off a) : Runs off b := fun i q hq => by
  obtain ⟨r, hr, hp⟩ := h.symm.get hq
  rw [(plain_parts hp).1]; exact k i r hr
theorem Pl.appOk {a b : List Raw} {si off : Int} {n : Nat} (h : Pl a b) (k : AppOk si off n a) : AppOk si off n b := by
  rcases k with rfl | ⟨f, h1, h2, h3, h4⟩
  · left; have := h.len; simp at this; exact List.eq_nil_of_length_eq_zero this.symm
  · right; refine ⟨f, h1, h2, by rw [← h.len]; exact h3, fun i q hq => ?_⟩
    obtain ⟨r, hr, hp⟩ := h.symm.get hq
    rw [(plain_parts hp).1]; exact h4 i r hr

/-- Does an entry carry a Change? -/
def anyF (a : List Raw) : Bool := a.any Raw.flag
theorem chgs_any (a : List Raw) : decide (0 < (chgs a).length) = anyF a := by
  induction a with
  | nil => rfl
  | cons r l ih => cases hf : r.flag <;> simp_all [chgs, anyF]
theorem chgs_lt (a : List Raw) (m : Nat) : decide ((chgs (a.take m)).length < (chgs a).length) = anyF (a.drop m) := by
  have hsp : chgs a = chgs (a.take m) ++ chgs (a.drop m) := by rw [← chgs_append, List.take_append_drop]
  rw [← chgs_any, hsp, List.length_append]
  by_cases h : 0 < (chgs (a.drop m)).length
  · simp
  · have : (chgs (a.drop m)).length = 0 := by omega
    simp [this]
theorem Pl.anyF {a b : List Raw} (h : Pl a b) : anyF a = anyF b := by rw [← chgs_any, ← chgs_any, h.chgs]
end Go.Proofs.Qxb6601153a
