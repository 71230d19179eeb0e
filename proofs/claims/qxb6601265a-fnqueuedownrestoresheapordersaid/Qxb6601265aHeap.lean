/-
  SEAT b6601265a. THE PLAIN LAW: what down does to a heap. No Go in sight. By an AI agent.
-/
import Derived.Test.Qxb6601265aFlt
namespace Go.Proofs.Qxb6601265a
set_option linter.unusedVariables false
set_option linter.unusedSimpArgs false
set_option linter.unusedSectionVars false

section
variable (bf : Int → Int → Bool)
/-- No child before its parent, but where the parent is at i. -/
def Pairs (H : List Int) (i : Nat) : Prop := ∀ k x y, 1 ≤ k → (k - 1) / 2 ≠ i → H[k]? = some x → H[(k - 1) / 2]? = some y → bf x y = false
/-- i's children do not come before i's parent. -/
def Upp (H : List Int) (i : Nat) : Prop := 0 < i → ∀ c x y, (c = 2 * i + 1 ∨ c = 2 * i + 2) → H[c]? = some x → H[(i - 1) / 2]? = some y → bf x y = false
def Whole (H : List Int) : Prop := ∀ k x y, 1 ≤ k → H[k]? = some x → H[(k - 1) / 2]? = some y → bf x y = false
/-- Of i and the first j of its children f comes first. -/
structure Sel (H : List Int) (i f j : Nat) : Prop where
  lt : f < H.length
  is : f = i ∨ (f = 2 * i + 1 ∧ 1 ≤ j) ∨ (f = 2 * i + 2 ∧ 2 ≤ j)
  bef : f ≠ i → ∀ x y, H[f]? = some x → H[i]? = some y → bf x y = true
  oth : ∀ c x y, (c = 2 * i + 1 ∧ 1 ≤ j) ∨ (c = 2 * i + 2 ∧ 2 ≤ j) → H[c]? = some x → H[f]? = some y → bf x y = false
variable {bf} (asy : ∀ {a b}, bf a b = true → bf b a = false) (trs : ∀ {a b c}, bf a b = true → bf b c = true → bf a c = true)
include asy trs

theorem irr (a : Int) : bf a a = false := by
  cases h : bf a a
  · rfl
  · have := asy h; rw [h] at this; cases this
theorem Sel.start {H : List Int} {i : Nat} (hi : i < H.length) : Sel bf H i i 0 := ⟨hi, Or.inl rfl, fun h => absurd rfl h, fun c x y h => by omega⟩
theorem Sel.take {H : List Int} {i f j : Nat} (h : Sel bf H i f j) (hj : j < 2) {x y : Int} (hx : H[2 * i + 1 + j]? = some x) (hy : H[f]? = some y) (hb : bf x y = true) : Sel bf H i (2 * i + 1 + j) (j + 1) := by
  refine ⟨(List.getElem?_eq_some_iff.1 hx).1, by omega, fun _ u v hu hv => ?_, fun c u v hc hu hv => ?_⟩
  · rw [hx] at hu; cases hu
    by_cases hfi : f = i
    · rw [hfi, hv] at hy; cases hy; exact hb
    · exact trs hb (h.bef hfi y v hy hv)
  · rw [hx] at hv; cases hv
    by_cases hcj : c = 2 * i + 1 + j
    · rw [hcj, hx] at hu; cases hu; exact irr @asy @trs _
    · have := h.oth c u y (by omega) hu hy
      cases k : bf u x
      · rfl
      · rw [trs k hb] at this; cases this
theorem Sel.leave {H : List Int} {i f j : Nat} (h : Sel bf H i f j) (hj : j < 2) (hno : ∀ x y, H[2 * i + 1 + j]? = some x → H[f]? = some y → bf x y = false) : Sel bf H i f (j + 1) := by
  refine ⟨h.lt, by have := h.is; omega, h.bef, fun c u v hc hu hv => ?_⟩
  by_cases hcj : c = 2 * i + 1 + j
  · subst hcj; exact hno u v hu hv
  · exact h.oth c u v (by omega) hu hv
/-- Where i itself comes first, the whole heap keeps the order. -/
theorem stop {H : List Int} {i : Nat} (hp : Pairs bf H i) (h : Sel bf H i i 2) : Whole bf H := by
  intro k x y hk hx hy
  by_cases hki : (k - 1) / 2 = i
  · rw [hki] at hy
    exact h.oth k x y (by omega) hx hy
  · exact hp k x y hk hki hx hy
def swp (H : List Int) (i f : Nat) (x y : Int) : List Int := (H.set i y).set f x
omit asy trs in
theorem swp_get {H : List Int} {i f : Nat} {x y : Int} (hf : f < H.length) (hi : i < H.length) (hne : f ≠ i) (k : Nat) : (swp H i f x y)[k]? = if k = f then some x else if k = i then some y else H[k]? := by
  unfold swp
  by_cases h1 : k = f
  · subst h1; rw [if_pos rfl, List.getElem?_set_self (by simpa using hf)]
  · rw [if_neg h1, List.getElem?_set_ne (Ne.symm h1)]
    by_cases h2 : k = i
    · subst h2; rw [if_pos rfl, List.getElem?_set_self hi]
    · rw [if_neg h2, List.getElem?_set_ne (Ne.symm h2)]
/-- One step down. -/
theorem step {H : List Int} {i f : Nat} {x y : Int} (hp : Pairs bf H i) (hu : Upp bf H i) (h : Sel bf H i f 2) (hfi : f ≠ i) (hx : H[i]? = some x) (hy : H[f]? = some y) : Pairs bf (swp H i f x y) f ∧ Upp bf (swp H i f x y) f := by
  have hil := (List.getElem?_eq_some_iff.1 hx).1
  have hfl := h.lt
  have hg := swp_get (x := x) (y := y) hfl hil hfi
  have hyx : bf y x = true := h.bef hfi y x hy hx
  have hpf : (f - 1) / 2 = i := by have := h.is; omega
  have hfi' : i < f := by have := h.is; omega
  refine ⟨fun k u v hk hkf hu' hv' => ?_, fun h0 c u v hc hu' hv' => ?_⟩
  · rw [hg] at hu' hv'
    rw [if_neg hkf] at hv'
    by_cases hki : (k - 1) / 2 = i
    · rw [if_pos hki] at hv'; cases hv'
      by_cases hkf' : k = f
      · rw [if_pos hkf'] at hu'; cases hu'; exact asy hyx
      · rw [if_neg hkf', if_neg (by omega)] at hu'
        exact h.oth k u _ (by omega) hu' hy
    · rw [if_neg hki] at hv'
      rw [if_neg (by omega)] at hu'
      by_cases hk2 : k = i
      · rw [if_pos hk2] at hu'; cases hu'
        subst hk2
        exact hu (by omega) f _ v (by have := h.is; omega) hy hv'
      · rw [if_neg hk2] at hu'
        exact hp k u v hk hki hu' hv'
  · rw [hpf] at hv'
    rw [hg] at hu' hv'
    rw [if_neg (by omega), if_pos rfl] at hv'; cases hv'
    rw [if_neg (by omega), if_neg (by omega)] at hu'
    refine hp c u _ (by omega) (by omega) hu' ?_
    rw [show (c - 1) / 2 = f from by omega]; exact hy
end
theorem length_swp (H : List Int) (i f : Nat) (x y : Int) : (swp H i f x y).length = H.length := by simp [swp]

end Go.Proofs.Qxb6601265a
