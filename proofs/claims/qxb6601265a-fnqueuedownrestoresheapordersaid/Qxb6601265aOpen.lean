/-
  SEAT b6601265a. WHAT COMES IN: from the reading of an argument to the words of the walks. By an AI agent.
-/
import Derived.Test.Qxb6601265aBase
import Derived.ProofKit
import Derived.Deep.Slices
namespace Go.Proofs.Qxb6601265a
open Go.RowKit Go.Deep Go.ChangeShapes Go.WideShapes
set_option linter.unusedVariables false
set_option linter.unusedSimpArgs false

theorem Try.cells21 : Try.prog.cellsOf 21 = 1 := by kernel_rfl
theorem Try.cells3 : Try.prog.cellsOf 3 = 1 := by kernel_rfl
theorem Try.cells27 : Try.prog.cellsOf 27 = 1 := by kernel_rfl

theorem add_zero_spot {w : World} {a : Addr} {v : Value} (h : w.cell? (a.add 0) = some v) : a.spot = none := by
  have := World.cell?_spot h
  simpa [Addr.add] using this

/-- A slice of numbers of one cell each. -/
theorem nums_of {H : Type} {enc : TypeId × Value → H} {w : World} {sp : Nat → Bool} {held : Bool} {t e : TypeId} {k : IntKind} {fuel : Nat} {v : Value} {x : DataW H × List MemPlace} (ht : Try.prog.underlying t = some (.slice e)) (he : Try.prog.underlying e = some (.int k)) (hc : Try.prog.cellsOf e = 1)
    (h : DataW.trod enc Try.prog w 0 sp held fuel t [v] = some x) : ∃ ns : List Int, Rd All w v ns.length (ns.map (Value.int k)) ∧ ∀ n ∈ ns, (Lit.int k n).wf = true := by
  rcases open_slice1 ht hc h with ⟨hcs, _⟩ | ⟨a, len, cap, m, n, V, D, Pl, hcs, _, hl, hm, hmm, _, hx⟩
  · simp at hcs; subst hcs; exact ⟨[], Rd.nil _ _, by simp⟩
  · simp at hcs; subst hcs
    have hlm : len ≤ m := by rw [hmm]; split <;> omega
    have hi : ∀ i, i < len → ∃ z : Int, V i = .int k z ∧ (Lit.int k z).wf = true := fun i hi => by
      obtain ⟨z, hz, _, hw⟩ := DataW.trod_int he (hx i (by omega)).2
      simp at hz; exact ⟨z, hz, hw⟩
    obtain ⟨f, hf⟩ := choose_lt hi
    refine ⟨(List.range len).map f, ?_, ?_⟩
    · refine ⟨some a, cap, by simp, by simpa using hl, hm, (by intro h; cases h), fun hpos => ?_⟩
      simp at hpos
      obtain ⟨b, off, spot⟩ := a
      have hspot : spot = none := add_zero_spot (hx 0 (by omega)).1
      subst hspot
      refine ⟨b, off, rfl, trivial, fun j u hj => ?_⟩
      have hjl : j < len := by
        have := (List.getElem?_eq_some_iff.1 hj).1
        simpa using this
      simp [hjl] at hj
      have := (hx j (by omega)).1
      rw [show (⟨b, off, none⟩ : Addr).add j = ⟨b, off + j, none⟩ by unfold Addr.add; split <;> simp_all] at this
      rw [this, (hf j hjl).1, hj]
    · intro z hz
      simp at hz
      obtain ⟨i, hi, rfl⟩ := hz
      exact (hf i hi).2
theorem trod_flt {H : Type} {enc : TypeId × Value → H} {w : World} {base : Nat} {sp : Nat → Bool} {held : Bool} {t : TypeId} {k : FloatKind} {fuel : Nat} {cs : List Value} {x : DataW H × List MemPlace} (ht : Try.prog.underlying t = some (.float k)) (h : DataW.trod enc Try.prog w base sp held fuel t cs = some x) : ∃ n, cs = [.float k n] ∧ x.2 = [] := by
  cases fuel with
  | zero => simp [DataW.trod] at h
  | succ n =>
    unfold DataW.trod at h
    rw [ht] at h
    split at h <;> simp_all
    rw [← h.2]
/-- A slice of floats. -/
theorem floats_of {H : Type} {enc : TypeId × Value → H} {w : World} {sp : Nat → Bool} {held : Bool} {t e : TypeId} {fuel : Nat} {v : Value} {x : DataW H × List MemPlace} (ht : Try.prog.underlying t = some (.slice e)) (he : Try.prog.underlying e = some (.float .f64)) (hc : Try.prog.cellsOf e = 1)
    (h : DataW.trod enc Try.prog w 0 sp held fuel t [v] = some x) : ∃ ns : List Nat, Rd All w v ns.length (ns.map (Value.float .f64)) ∧ ∀ n ∈ ns, True := by
  rcases open_slice1 ht hc h with ⟨hcs, _⟩ | ⟨a, len, cap, m, n, V, D, Pl, hcs, _, hl, hm, hmm, _, hx⟩
  · simp at hcs; subst hcs; exact ⟨[], Rd.nil _ _, by simp⟩
  · simp at hcs; subst hcs
    have hlm : len ≤ m := by rw [hmm]; split <;> omega
    have hi : ∀ i, i < len → ∃ z : Nat, V i = (Value.float .f64) z ∧ True := fun i hi => by
      obtain ⟨z, hz, _⟩ := trod_flt he (hx i (by omega)).2
      simp at hz; exact ⟨z, hz, trivial⟩
    obtain ⟨f, hf⟩ := choose_lt hi
    refine ⟨(List.range len).map f, ?_, ?_⟩
    · refine ⟨some a, cap, by simp, by simpa using hl, hm, (by intro h; cases h), fun hpos => ?_⟩
      simp at hpos
      obtain ⟨b, off, spot⟩ := a
      have hspot : spot = none := add_zero_spot (hx 0 (by omega)).1
      subst hspot
      refine ⟨b, off, rfl, trivial, fun j u hj => ?_⟩
      have hjl : j < len := by
        have := (List.getElem?_eq_some_iff.1 hj).1
        simpa using this
      simp [hjl] at hj
      have := (hx j (by omega)).1
      rw [show (⟨b, off, none⟩ : Addr).add j = ⟨b, off + j, none⟩ by unfold Addr.add; split <;> simp_all] at this
      rw [this, (hf j hjl).1, hj]
    · intro z hz
      simp at hz
      obtain ⟨i, hi, rfl⟩ := hz
      exact (hf i hi).2
theorem i32_bounds {n : Int} (h : (Lit.int .i32 n).wf = true) : -2147483648 ≤ n ∧ n ≤ 2147483647 := by
  simp [Lit.wf, IntKind.min, IntKind.max, IntKind.signed, IntKind.bits] at h
  omega
end Go.Proofs.Qxb6601265a
