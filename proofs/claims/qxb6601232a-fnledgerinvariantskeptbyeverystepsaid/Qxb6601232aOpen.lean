/-
  SEAT b6601232a. WHAT COMES IN: from the reading of an argument to the words of the walks. By an AI agent.
-/
import Derived.Test.Qxb6601232aBase
import Derived.ProofKit
import Derived.Deep.Slices
namespace Go.Proofs.Qxb6601232a
open Go.RowKit Go.Deep Go.ChangeShapes Go.WideShapes
set_option linter.unusedVariables false
set_option linter.unusedSimpArgs false

theorem Try.cells9 : Try.prog.cellsOf 9 = 1 := by kernel_rfl
theorem Try.cells2 : Try.prog.cellsOf 2 = 1 := by kernel_rfl
theorem Try.cells3 : Try.prog.cellsOf 3 = 1 := by kernel_rfl
theorem Try.cells4 : Try.prog.cellsOf 4 = 1 := by kernel_rfl
theorem Try.cells5 : Try.prog.cellsOf 5 = 1 := by kernel_rfl
theorem Try.cells53 : Try.prog.cellsOf 53 = 1 := by kernel_rfl

theorem add_zero_spot {w : World} {a : Addr} {v : Value} (h : w.cell? (a.add 0) = some v) : a.spot = none := by
  have := World.cell?_spot h
  simpa [Addr.add] using this

/-- A slice of numbers of one cell each. -/
theorem nums_of {H : Type} {enc : TypeId × Value → H} {w : World} {sp : Nat → Bool} {held : Bool} {t e : TypeId} {k : IntKind} {fuel : Nat} {v : Value} {x : DataW H × List MemPlace} (ht : Try.prog.underlying t = some (.slice e)) (he : Try.prog.underlying e = some (.int k)) (hc : Try.prog.cellsOf e = 1)
    (h : DataW.trod enc Try.prog w 0 sp held fuel t [v] = some x) : ∃ ns : List Int, Rd All w v ns.length (ns.map (Value.int k)) ∧ ∀ n ∈ ns, (Lit.int k n).wf = true := by
  rcases open_slice1 ht hc h with ⟨hcs, _⟩ | ⟨a, len, cap, m, n, V, D, Pl, hcs, _, hl, hm, hmm, _, hx⟩
  · simp at hcs; subst hcs; exact ⟨[], Rd.nil _ _, by simp⟩
  · simp at hcs; subst hcs
    have hlm : len ≤ m := by rw [hmm]; split <;> omega
    have hi : ∀ i, i < len → ∃ z : Int, V i = .int k z ∧ (Lit.int k z).wf = true := fun i hi => by
      obtain ⟨z, hz, _, hw⟩ := DataW.trod_int he (hx i (by omega)).2
      simp at hz; exact ⟨z, hz, hw⟩
    obtain ⟨f, hf⟩ := choose_lt hi
    refine ⟨(List.range len).map f, ?_, ?_⟩
    · refine ⟨some a, cap, by simp, by simpa using hl, hm, (by intro h; cases h), fun hpos => ?_⟩
      simp at hpos
      obtain ⟨b, off, spot⟩ := a
      have hspot : spot = none := add_zero_spot (hx 0 (by omega)).1
      subst hspot
      refine ⟨b, off, rfl, trivial, fun j u hj => ?_⟩
      have hjl : j < len := by
        have := (List.getElem?_eq_some_iff.1 hj).1
        simpa using this
      simp [hjl] at hj
      have := (hx j (by omega)).1
      rw [show (⟨b, off, none⟩ : Addr).add j = ⟨b, off + j, none⟩ by unfold Addr.add; split <;> simp_all] at this
      rw [this, (hf j hjl).1, hj]
    · intro z hz
      simp at hz
      obtain ⟨i, hi, rfl⟩ := hz
      exact (hf i hi).2
/-- A slice of strings. -/
theorem strs_of {H : Type} {enc : TypeId × Value → H} {w : World} {sp : Nat → Bool} {held : Bool} {t e : TypeId} {fuel : Nat} {v : Value} {x : DataW H × List MemPlace} (ht : Try.prog.underlying t = some (.slice e)) (he : Try.prog.underlying e = some .string) (hc : Try.prog.cellsOf e = 1)
    (h : DataW.trod enc Try.prog w 0 sp held fuel t [v] = some x) : ∃ ns : List ByteArray, Rd All w v ns.length (ns.map Value.string) ∧ ∀ n ∈ ns, n.size ≤ maxLen := by
  rcases open_slice1 ht hc h with ⟨hcs, _⟩ | ⟨a, len, cap, m, n, V, D, Pl, hcs, _, hl, hm, hmm, _, hx⟩
  · simp at hcs; subst hcs; exact ⟨[], Rd.nil _ _, by simp⟩
  · simp at hcs; subst hcs
    have hlm : len ≤ m := by rw [hmm]; split <;> omega
    have hi : ∀ i, i < len → ∃ z : ByteArray, V i = Value.string z ∧ z.size ≤ maxLen := fun i hi => by
      obtain ⟨z, hz, _, hw⟩ := DataW.trod_string he (hx i (by omega)).2
      simp at hz; exact ⟨z, hz, hw⟩
    obtain ⟨f, hf⟩ := choose_lt hi
    refine ⟨(List.range len).map f, ?_, ?_⟩
    · refine ⟨some a, cap, by simp, by simpa using hl, hm, (by intro h; cases h), fun hpos => ?_⟩
      simp at hpos
      obtain ⟨b, off, spot⟩ := a
      have hspot : spot = none := add_zero_spot (hx 0 (by omega)).1
      subst hspot
      refine ⟨b, off, rfl, trivial, fun j u hj => ?_⟩
      have hjl : j < len := by
        have := (List.getElem?_eq_some_iff.1 hj).1
        simpa using this
      simp [hjl] at hj
      have := (hx j (by omega)).1
      rw [show (⟨b, off, none⟩ : Addr).add j = ⟨b, off + j, none⟩ by unfold Addr.add; split <;> simp_all] at this
      rw [this, (hf j hjl).1, hj]
    · intro z hz
      simp at hz
      obtain ⟨i, hi, rfl⟩ := hz
      exact (hf i hi).2
/-- A slice of bools. -/
theorem bools_of {H : Type} {enc : TypeId × Value → H} {w : World} {sp : Nat → Bool} {held : Bool} {t e : TypeId} {fuel : Nat} {v : Value} {x : DataW H × List MemPlace} (ht : Try.prog.underlying t = some (.slice e)) (he : Try.prog.underlying e = some .bool) (hc : Try.prog.cellsOf e = 1)
    (h : DataW.trod enc Try.prog w 0 sp held fuel t [v] = some x) : ∃ ns : List Bool, Rd All w v ns.length (ns.map Value.bool) ∧ ∀ n ∈ ns, True := by
  rcases open_slice1 ht hc h with ⟨hcs, _⟩ | ⟨a, len, cap, m, n, V, D, Pl, hcs, _, hl, hm, hmm, _, hx⟩
  · simp at hcs; subst hcs; exact ⟨[], Rd.nil _ _, by simp⟩
  · simp at hcs; subst hcs
    have hlm : len ≤ m := by rw [hmm]; split <;> omega
    have hi : ∀ i, i < len → ∃ z : Bool, V i = Value.bool z ∧ True := fun i hi => by
      obtain ⟨z, hz, _⟩ := DataW.trod_bool he (hx i (by omega)).2
      simp at hz; exact ⟨z, hz, trivial⟩
    obtain ⟨f, hf⟩ := choose_lt hi
    refine ⟨(List.range len).map f, ?_, ?_⟩
    · refine ⟨some a, cap, by simp, by simpa using hl, hm, (by intro h; cases h), fun hpos => ?_⟩
      simp at hpos
      obtain ⟨b, off, spot⟩ := a
      have hspot : spot = none := add_zero_spot (hx 0 (by omega)).1
      subst hspot
      refine ⟨b, off, rfl, trivial, fun j u hj => ?_⟩
      have hjl : j < len := by
        have := (List.getElem?_eq_some_iff.1 hj).1
        simpa using this
      simp [hjl] at hj
      have := (hx j (by omega)).1
      rw [show (⟨b, off, none⟩ : Addr).add j = ⟨b, off + j, none⟩ by unfold Addr.add; split <;> simp_all] at this
      rw [this, (hf j hjl).1, hj]
    · intro z hz
      simp at hz
      obtain ⟨i, hi, rfl⟩ := hz
      exact (hf i hi).2
end Go.Proofs.Qxb6601232a
