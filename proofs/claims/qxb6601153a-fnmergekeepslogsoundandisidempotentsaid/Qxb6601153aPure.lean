/-
  SEAT b6601153a. PLAIN FACTS: the list of changes; what is owned. By an AI agent.
-/
import Derived.Test.Qxb6601153aNote
namespace Go.Proofs.Qxb6601153a
open Go.RowKit
set_option linter.unusedVariables false

/-- The entries' indexes run on from off + 1. -/
def Runs (off : Int) (rs : List Raw) : Prop := ∀ (i : Nat) (r : Raw), rs[i]? = some r → r.idx = off + i + 1
theorem Runs.take {off : Int} {rs : List Raw} (h : Runs off rs) (m : Nat) : Runs off (rs.take m) := fun i r hr => by
  rw [List.getElem?_take] at hr
  split at hr
  · exact h i r hr
  · cases hr
theorem Runs.drop {off : Int} {rs : List Raw} (h : Runs off rs) (m : Nat) : Runs (off + m) (rs.drop m) := fun i r hr => by
  rw [List.getElem?_drop] at hr
  have := h (m + i) r hr
  omega
theorem Runs.tail {off : Int} {r : Raw} {rs : List Raw} (h : Runs off (r :: rs)) : Runs (off + 1) rs := fun i q hq => by
  have := h (i + 1) q (by simpa using hq)
  omega
theorem Runs.mem_chgs {off : Int} {rs : List Raw} (h : Runs off rs) {x : Int} (hx : x ∈ chgs rs) : off < x ∧ x ≤ off + rs.length := by
  simp only [chgs, List.mem_map, List.mem_filter] at hx
  obtain ⟨r, ⟨hr, _⟩, rfl⟩ := hx
  obtain ⟨i, hi, he⟩ := List.getElem_of_mem hr
  have := h i r (by rw [← he]; simp)
  omega
theorem Runs.sorted {off : Int} {rs : List Raw} (h : Runs off rs) : Sorted (chgs rs) := by
  induction rs generalizing off with
  | nil => intro i j x y _ hx; simp [chgs] at hx
  | cons r rs ih =>
    have hs := ih h.tail
    intro i j x y hij hx hy
    have hc : chgs (r :: rs) = (if r.flag then [r.idx] else []) ++ chgs rs := by
      cases hf : r.flag <;> simp [chgs, hf]
    rw [hc] at hx hy
    cases hf : r.flag with
    | false => rw [hf] at hx hy; simp at hx hy; exact hs i j x y hij hx hy
    | true =>
      rw [hf] at hx hy; simp at hx hy
      have h0 : r.idx = off + 1 := by have := h 0 r rfl; omega
      cases i with
      | zero =>
        simp at hx; subst hx
        cases j with
        | zero => simp at hy; omega
        | succ j =>
          simp at hy
          have := (h.tail).mem_chgs (List.mem_of_getElem? hy)
          omega
      | succ i =>
        cases j with
        | zero => omega
        | succ j => simp at hx hy; exact hs i j x y (by omega) hx hy
/-- Where the changes from index off + m + 1 on begin. -/
theorem Runs.cut {off : Int} {rs : List Raw} (h : Runs off rs) {m p : Nat} (hm : m ≤ rs.length) (hc : Cut (chgs rs) (off + m + 1) p) : p = (chgs (rs.take m)).length := by
  obtain ⟨h1, h2, h3⟩ := hc
  have hsp : chgs rs = chgs (rs.take m) ++ chgs (rs.drop m) := by rw [← chgs_append, List.take_append_drop]
  have hlt : ∀ x ∈ chgs (rs.take m), x < off + m + 1 := fun x hx => by have := (h.take m).mem_chgs hx; simp at this; omega
  have hge : ∀ x ∈ chgs (rs.drop m), off + m + 1 ≤ x := fun x hx => by have := (h.drop m).mem_chgs hx; omega
  have hlen : (chgs rs).length = (chgs (rs.take m)).length + (chgs (rs.drop m)).length := by rw [hsp, List.length_append]
  have c1 : ¬ p < (chgs (rs.take m)).length := by
    intro hlt'
    have hx := h3 p (chgs (rs.take m))[p] (Nat.le_refl _) (by rw [hsp, List.getElem?_append_left hlt']; simp)
    have := hlt _ (List.getElem_mem hlt')
    omega
  have c2 : ¬ (chgs (rs.take m)).length < p := by
    intro hlt'
    have hq : 0 < (chgs (rs.drop m)).length := by omega
    have hx := h2 (chgs (rs.take m)).length (chgs (rs.drop m))[0] hlt' (by rw [hsp, List.getElem?_append_right (Nat.le_refl _)]; simp)
    have := hge _ (List.getElem_mem hq)
    omega
  omega
theorem Runs.cut0 {off : Int} {rs : List Raw} (h : Runs off rs) (h0 : 0 ≤ off) {p : Nat} (hc : Cut (chgs rs) 0 p) : p = 0 := by
  obtain ⟨h1, h2, h3⟩ := hc
  by_cases hp : p = 0
  · exact hp
  · have hl : 0 < (chgs rs).length := by omega
    have hx := h2 0 (chgs rs)[0] (by omega) (by simp)
    have := h.mem_chgs (List.getElem_mem hl)
    omega
theorem chgs_take_le (rs : List Raw) (m : Nat) : (chgs (rs.take m)).length ≤ (chgs rs).length := by
  have hsp : chgs rs = chgs (rs.take m) ++ chgs (rs.drop m) := by rw [← chgs_append, List.take_append_drop]
  rw [hsp, List.length_append]; omega
theorem chgs_take_eq (rs : List Raw) (m : Nat) : (chgs rs).take (chgs (rs.take m)).length = chgs (rs.take m) := by
  have hsp : chgs rs = chgs (rs.take m) ++ chgs (rs.drop m) := by rw [← chgs_append, List.take_append_drop]
  rw [hsp]; simp
theorem chgs_len (rs : List Raw) : (chgs rs).length ≤ rs.length := by
  simp only [chgs, List.length_map]; exact List.length_filter_le _ _

theorem own_len {w : World} {base : Nat} {e : TypeId} {size : Nat} {a : Option Addr} {n n' c : Nat} {xs : List Value} (h : w.ownsRow base e size (.slice a n c) n' xs) : n = n' := by
  obtain ⟨_, h⟩ := h
  rcases h with ⟨h, h'⟩ | ⟨g, cap, cur, h, _⟩
  · simp at h; omega
  · simp at h; omega
theorem own_cap {w : World} {base : Nat} {e : TypeId} {size : Nat} {a : Option Addr} {n n' c : Nat} {xs : List Value} (h : w.ownsRow base e size (.slice a n c) n' xs) : n ≤ c := by
  obtain ⟨_, h⟩ := h
  rcases h with ⟨h, h'⟩ | ⟨g, cap, cur, h, _, _, h3, _⟩
  · simp at h; omega
  · simp at h; omega
theorem own_fr {T : Nat → Prop} {w w' : World} {base : Nat} {e : TypeId} {size : Nat} {v : Value} {n : Nat} {xs : List Value} (h : w.ownsRow base e size v n xs) (f : Fr T w w') (hT : ∀ b, v.ownBlock = some b → T b) : w'.ownsRow base e size v n xs := by
  obtain ⟨h1, h2⟩ := h
  refine ⟨h1, ?_⟩
  rcases h2 with h2 | ⟨g, cap, cur, hv, hg, hh, r⟩
  · exact .inl h2
  · exact .inr ⟨g, cap, cur, hv, hg, f.heap hh (hT g (by rw [hv]; rfl)), r⟩
theorem own_trunc {w : World} {base : Nat} {e : TypeId} {size : Nat} {a : Option Addr} {n c m : Nat} {xs : List Value} (h : w.ownsRow base e size (.slice a n c) n xs) (hm : m ≤ n) : w.ownsRow base e size (.slice a m c) m (xs.take (m * size)) := by
  obtain ⟨h1, h2⟩ := h
  have hms : m * size ≤ n * size := Nat.mul_le_mul_right _ hm
  refine ⟨by simp; omega, ?_⟩
  rcases h2 with ⟨h2, h3⟩ | ⟨g, cap, cur, hv, hg, hh, r1, r2, r3, r4⟩
  · left; simp at h2; obtain ⟨rfl, rfl, rfl⟩ := h2; exact ⟨by simp; omega, by omega⟩
  · right
    simp at hv
    obtain ⟨rfl, rfl⟩ := hv
    exact ⟨g, _, cur, rfl, hg, hh, by omega, r2, r3, by rw [← r4, List.take_take, Nat.min_eq_left hms]⟩
theorem own_ne2 {w : World} {base base' : Nat} {e e' : TypeId} {size size' : Nat} {v v' : Value} {n n' : Nat} {xs xs' : List Value} (h : w.ownsRow base e size v n xs) (h' : w.ownsRow base' e' size' v' n' xs') (hne : e ≠ e') (b : Nat) (hb : v.ownBlock = some b) : v'.ownBlock ≠ some b := by
  obtain ⟨_, h⟩ := h
  rcases h with ⟨rfl, _⟩ | ⟨g, cap, cur, rfl, _, hg, _⟩
  · cases hb
  · simp only [Value.ownBlock, Option.some.injEq] at hb
    subst hb
    exact own_ne h' hg hne
theorem cutA_zero (a : Option Addr) (c size : Nat) : cutA a c 0 size = a := by
  unfold cutA; split
  · rfl
  · cases a <;> simp [Addr.add]
theorem run_cut_h {P : Program} {t e : TypeId} {size : Nat} (ht : P.underlying t = some (.slice e)) (hi : (P.info? e).map (fun i => i.size) = some size) (a : Option Addr) (len cap h : Nat) (h1 : h ≤ cap) (kl : IntKind) (w : World) :
    (Instr.slice t (.slice a len cap) none (some (.int kl (h : Int))) none).run P w = .ok (.slice a h cap) w := by
  obtain ⟨i0, hi0, hi1⟩ : ∃ i, P.info? e = some i ∧ i.size = size := by simpa [Option.map_eq_some_iff] using hi
  have b2 := run_sliceBound (P := P) (w := w) kl (h : Int) cap .sliceAcap (by omega) (by omega)
  simp at b2
  have e0 : (a.map fun x => x.add (0 * i0.size)) = a := by cases a <;> simp [Addr.add]
  simp [Instr.slice, run_underlying ht, Instr.sliceBounds, b2, sizeOf, typeInfo, hi0]
  intro _; simpa using e0
theorem quiet_of_qt {P : Program} {f : FuncId} {args : Array Value} {w : World} {n : Nat} {v : Value}
    (h : Calls P f args (w.drewN n) fun e w' => e = .returned v ∧ Qt (w.drewN n) w') : Calls P f args (w.drewN n) fun e w'' => e = .returned v ∧ ∃ m, w'' = w.drewN m :=
  h.mono fun _ _ ⟨he, m, hm⟩ => ⟨he, n + m, by rw [hm, drewN_drewN]⟩
theorem Rd.any {T : Nat → Prop} {w : World} {v : Value} {n : Nat} {xs : List Value} (h : Rd T w v n xs) : Rd All w v n xs := h.mono fun _ _ => trivial
end Go.Proofs.Qxb6601153a
