/-
  SEAT b6601153a. WHAT COMES IN: from the reading of an argument to the words of the walks. By an AI agent.
-/
import Derived.Test.Qxb6601153aBase
import Derived.ProofKit
import Derived.Deep.Slices
namespace Go.Proofs.Qxb6601153a
open Go.RowKit Go.Deep Go.ChangeShapes Go.WideShapes
set_option linter.unusedVariables false

theorem Try.cells5 : Try.prog.cellsOf 5 = 1 := by kernel_rfl
theorem Try.cells22 : Try.prog.cellsOf 22 = 1 := by kernel_rfl
theorem Try.cells47 : Try.prog.cellsOf 47 = 4 := by kernel_rfl
theorem Try.cells45 : Try.prog.cellsOf 45 = 1 := by kernel_rfl
theorem Try.cells4 : Try.prog.cellsOf 4 = 1 := by kernel_rfl

theorem add_zero_spot {w : World} {a : Addr} {v : Value} (h : w.cell? (a.add 0) = some v) : a.spot = none := by
  have := World.cell?_spot h
  simpa [Addr.add] using this

/-- A slice of numbers of one cell each. -/
theorem nums_of {H : Type} {enc : TypeId × Value → H} {w : World} {sp : Nat → Bool} {held : Bool} {t e : TypeId} {k : IntKind} {fuel : Nat} {v : Value} {x : DataW H × List MemPlace} (ht : Try.prog.underlying t = some (.slice e)) (he : Try.prog.underlying e = some (.int k)) (hc : Try.prog.cellsOf e = 1)
    (h : DataW.trod enc Try.prog w 0 sp held fuel t [v] = some x) : ∃ ns : List Int, Rd All w v ns.length (ns.map (Value.int k)) ∧ ∀ n ∈ ns, (Lit.int k n).wf = true := by
  rcases open_slice1 ht hc h with ⟨hcs, _⟩ | ⟨a, len, cap, m, n, V, D, Pl, hcs, _, hl, hm, hmm, _, hx⟩
  · simp at hcs; subst hcs; exact ⟨[], Rd.nil _ _, by simp⟩
  · simp at hcs; subst hcs
    have hlm : len ≤ m := by rw [hmm]; split <;> omega
    have hi : ∀ i, i < len → ∃ z : Int, V i = .int k z ∧ (Lit.int k z).wf = true := fun i hi => by
      obtain ⟨z, hz, _, hw⟩ := DataW.trod_int he (hx i (by omega)).2
      simp at hz; exact ⟨z, hz, hw⟩
    obtain ⟨f, hf⟩ := choose_lt hi
    refine ⟨(List.range len).map f, ?_, ?_⟩
    · refine ⟨some a, cap, by simp, by simpa using hl, hm, (by intro h; cases h), fun hpos => ?_⟩
      simp at hpos
      obtain ⟨b, off, spot⟩ := a
      have hspot : spot = none := add_zero_spot (hx 0 (by omega)).1
      subst hspot
      refine ⟨b, off, rfl, trivial, fun j u hj => ?_⟩
      have hjl : j < len := by
        have := (List.getElem?_eq_some_iff.1 hj).1
        simpa using this
      simp [hjl] at hj
      have := (hx j (by omega)).1
      rw [show (⟨b, off, none⟩ : Addr).add j = ⟨b, off + j, none⟩ by unfold Addr.add; split <;> simp_all] at this
      rw [this, (hf j hjl).1, hj]
    · intro z hz
      simp at hz
      obtain ⟨i, hi, rfl⟩ := hz
      exact (hf i hi).2
theorem u64_bounds {n : Int} (h : (Lit.int .u64 n).wf = true) : 0 ≤ n ∧ n ≤ 18446744073709551615 := by
  simp [Lit.wf, IntKind.min, IntKind.max, IntKind.signed, IntKind.bits] at h
  omega

theorem choose_lt' {n : Nat} {p : Nat → Raw → Prop} (h : ∀ i, i < n → ∃ x, p i x) : ∃ f : Nat → Raw, ∀ i, i < n → p i (f i) := by
  classical
  refine ⟨fun i => if hi : i < n then Classical.choose (h i hi) else ⟨0, 0, .bool false, [], .bool false⟩, fun i hi => ?_⟩
  simp only [dif_pos hi]
  exact Classical.choose_spec (h i hi)
/-- A slice of entries. -/
theorem ents_of {H : Type} {enc : TypeId × Value → H} {w : World} {sp : Nat → Bool} {held : Bool} {fuel : Nat} {v : Value} {x : DataW H × List MemPlace}
    (h : DataW.trod enc Try.prog w 0 sp held fuel 23 [v] = some x) : ∃ rs : List Raw, Ents All w v rs ∧ (∀ r ∈ rs, ∃ b, r.ch = .bool b) ∧ IdxOk rs := by
  rcases open_slice Try.underlying23 h with ⟨hcs, _⟩ | ⟨a, len, cap, m, n, D, Pl, hcs, _, hl, hm, hmm, _, hx⟩
  · simp at hcs; subst hcs; exact ⟨[], ⟨Rd.nil _ _, by simp⟩, by simp, by intro r hr; simp at hr⟩
  · simp at hcs; subst hcs
    have hlm : len ≤ m := by rw [hmm]; split <;> omega
    rw [Try.cells47] at hx
    have hi : ∀ i, i < len → ∃ r : Raw, (∀ j u, r.cells[j]? = some u → w.cell? (a.add (i * 4 + j)) = some u) ∧ U8s All w r.cv r.cmd ∧ (∃ b, r.ch = .bool b) ∧ (0 ≤ r.idx ∧ r.idx ≤ 18446744073709551615) ∧ 0 ≤ r.term ∧ r.term ≤ 18446744073709551615 := fun i hi => by
      obtain ⟨cs', h1, h2⟩ := hx i (by omega)
      obtain ⟨xs, n', rfl, _, hlen, hxl, hfs⟩ := DataW.trod_struct Try.underlying47 h2
      rw [Try.cells47] at hlen
      obtain ⟨_, _, hcell⟩ := World.cells?_some h1
      match cs', hlen with
      | [c0, c1, c2, c3], _ =>
        have g0 : DataW.trod enc Try.prog w 0 sp held n' 22 (([c0, c1, c2, c3].drop 0).take (Try.prog.cellsOf 22)) = xs[0]? := hfs 0 _ rfl
        have g1 : DataW.trod enc Try.prog w 0 sp held n' 22 (([c0, c1, c2, c3].drop 1).take (Try.prog.cellsOf 22)) = xs[1]? := hfs 1 _ rfl
        have g2 : DataW.trod enc Try.prog w 0 sp held n' 45 (([c0, c1, c2, c3].drop 2).take (Try.prog.cellsOf 45)) = xs[2]? := hfs 2 _ rfl
        have g3 : DataW.trod enc Try.prog w 0 sp held n' 4 (([c0, c1, c2, c3].drop 3).take (Try.prog.cellsOf 4)) = xs[3]? := hfs 3 _ rfl
        have hx4 : xs.length = 4 := hxl
        simp only [Try.cells22, Try.cells45, Try.cells4, List.drop, List.take] at g0 g1 g2 g3
        rw [List.getElem?_eq_getElem (by omega)] at g0 g1 g2 g3
        obtain ⟨z0, e0, _, w0⟩ := DataW.trod_int Try.underlying22 g0
        obtain ⟨z1, e1, _, w1⟩ := DataW.trod_int Try.underlying22 g1
        obtain ⟨bs, hbs, _⟩ := nums_of Try.underlying45 Try.underlying5 Try.cells5 g2
        obtain ⟨b, e3, _⟩ := DataW.trod_bool Try.underlying4 g3
        simp at e0 e1 e3
        subst e0 e1 e3
        refine ⟨⟨z0, z1, c2, bs, .bool b⟩, fun j u hj => ?_, hbs, ⟨b, rfl⟩, u64_bounds w0, u64_bounds w1⟩
        have hj4 : j < 4 := by have := (List.getElem?_eq_some_iff.1 hj).1; simpa [Raw.cells] using this
        have := hcell j hj4
        rw [add_add] at this
        rw [this]; exact hj
    obtain ⟨f, hf⟩ := choose_lt' hi
    refine ⟨(List.range len).map f, ⟨?_, ?_⟩, ?_, ?_⟩
    · refine ⟨some a, cap, by simp, by simpa using hl, hm, (by intro h; cases h), fun hpos => ?_⟩
      simp at hpos
      obtain ⟨b, off, spot⟩ := a
      have hspot : spot = none := add_zero_spot ((hf 0 (by omega)).1 0 _ rfl)
      subst hspot
      refine ⟨b, off, rfl, trivial, fun j u hj => ?_⟩
      have hjl : j < len * 4 := by
        have := (List.getElem?_eq_some_iff.1 hj).1
        rw [length_flat] at this; simpa using this
      have hk : ((List.range len).map f)[j / 4]? = some (f (j / 4)) := by
        have : j / 4 < len := by omega
        simp [this]
      have hg := flat_get ((List.range len).map f) (j / 4) (j % 4) (f (j / 4)) hk (by omega)
      rw [show j / 4 * 4 + j % 4 = j by omega, hj] at hg
      have := (hf (j / 4) (by omega)).1 (j % 4) u hg.symm
      rw [show j / 4 * 4 + j % 4 = j by omega] at this
      rw [show (⟨b, off, none⟩ : Addr).add j = ⟨b, off + j, none⟩ by unfold Addr.add; split <;> simp_all] at this
      exact this
    · intro r hr
      simp at hr
      obtain ⟨i, hi, rfl⟩ := hr
      exact (hf i hi).2.1
    · intro r hr
      simp at hr
      obtain ⟨i, hi, rfl⟩ := hr
      exact (hf i hi).2.2.1
    · intro r hr
      simp at hr
      obtain ⟨i, hi, rfl⟩ := hr
      exact (hf i hi).2.2.2
end Go.Proofs.Qxb6601153a
