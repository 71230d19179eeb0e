/-
  SEAT b6601232a. WHAT COMES IN: slices of slices. By an AI agent.
-/
import Derived.Test.Qxb6601232aOpen
import Derived.Test.Qxb6601232aNest
namespace Go.Proofs.Qxb6601232a
open Go.RowKit Go.Deep Go.ChangeShapes Go.WideShapes
set_option linter.unusedVariables false
set_option linter.unusedSimpArgs false

theorem Try.cells22 : Try.prog.cellsOf 22 = 1 := by kernel_rfl
theorem Try.cells23 : Try.prog.cellsOf 23 = 1 := by kernel_rfl

/-- A slice of slices. -/
theorem nest_of {α : Type} {f : α → Value} {Q : List α → Prop} {H : Type} {enc : TypeId × Value → H} {w : World} {sp : Nat → Bool} {held : Bool} {t e : TypeId} {fuel : Nat} {v : Value} {x : DataW H × List MemPlace} (ht : Try.prog.underlying t = some (.slice e)) (hc : Try.prog.cellsOf e = 1)
    (hin : ∀ (fuel : Nat) (v : Value) (x : DataW H × List MemPlace), DataW.trod enc Try.prog w 0 sp held fuel e [v] = some x → ∃ ns : List α, Rd All w v ns.length (ns.map f) ∧ Q ns)
    (h : DataW.trod enc Try.prog w 0 sp held fuel t [v] = some x) : ∃ xss : List (List α), Nest f All w v xss ∧ ∀ xs ∈ xss, Q xs := by
  rcases open_slice1 ht hc h with ⟨hcs, _⟩ | ⟨a, len, cap, m, n, V, D, Pl, hcs, _, hl, hm, hmm, _, hx⟩
  · simp at hcs; subst hcs; exact ⟨[], ⟨[], Rd.nil _ _, rfl, fun i u xs hi => by simp at hi⟩, by simp⟩
  · simp at hcs; subst hcs
    have hlm : len ≤ m := by rw [hmm]; split <;> omega
    have hi : ∀ i, i < len → ∃ ns : List α, Rd All w (V i) ns.length (ns.map f) ∧ Q ns := fun i hi => hin _ _ _ (hx i (by omega)).2
    have hch : ∃ g : Nat → List α, ∀ i, i < len → Rd All w (V i) (g i).length ((g i).map f) ∧ Q (g i) := by
      classical
      refine ⟨fun i => if h : i < len then Classical.choose (hi i h) else [], fun i h => ?_⟩
      simp only [dif_pos h]
      exact Classical.choose_spec (hi i h)
    obtain ⟨g, hg⟩ := hch
    refine ⟨(List.range len).map g, ⟨(List.range len).map V, ?_, by simp, fun i u xs hu hxs => ?_⟩, ?_⟩
    · refine ⟨some a, cap, by simp, by simpa using hl, hm, (by intro h; cases h), fun hpos => ?_⟩
      simp at hpos
      obtain ⟨b, off, spot⟩ := a
      have hspot : spot = none := add_zero_spot (hx 0 (by omega)).1
      subst hspot
      refine ⟨b, off, rfl, trivial, fun j u hj => ?_⟩
      have hjl : j < len := by
        have := (List.getElem?_eq_some_iff.1 hj).1
        simpa using this
      simp [hjl] at hj
      have := (hx j (by omega)).1
      rw [show (⟨b, off, none⟩ : Addr).add j = ⟨b, off + j, none⟩ by unfold Addr.add; split <;> simp_all] at this
      rw [this, hj]
    · have hil : i < len := by
        have := (List.getElem?_eq_some_iff.1 hu).1
        simpa using this
      simp [hil] at hu hxs
      rw [← hu, ← hxs]; exact (hg i hil).1
    · intro xs hxs
      simp at hxs
      obtain ⟨i, hi, rfl⟩ := hxs
      exact (hg i hi).2
theorem nstrs_of {H : Type} {enc : TypeId × Value → H} {w : World} {sp : Nat → Bool} {held : Bool} {fuel : Nat} {v : Value} {x : DataW H × List MemPlace} (h : DataW.trod enc Try.prog w 0 sp held fuel 61 [v] = some x) : ∃ xss : List (List ByteArray), Nest Value.string All w v xss ∧ ∀ xs ∈ xss, ∀ n ∈ xs, n.size ≤ maxLen :=
  nest_of Try.underlying61 Try.cells22 (fun _ _ _ h => strs_of Try.underlying22 Try.underlying9 Try.cells9 h) h
theorem nints_of {H : Type} {enc : TypeId × Value → H} {w : World} {sp : Nat → Bool} {held : Bool} {fuel : Nat} {v : Value} {x : DataW H × List MemPlace} (h : DataW.trod enc Try.prog w 0 sp held fuel 62 [v] = some x) : ∃ xss : List (List Int), Nest (Value.int .i64) All w v xss ∧ ∀ xs ∈ xss, ∀ n ∈ xs, (Lit.int .i64 n).wf = true :=
  nest_of Try.underlying62 Try.cells23 (fun _ _ _ h => nums_of Try.underlying23 Try.underlying2 Try.cells2 h) h

end Go.Proofs.Qxb6601232a
