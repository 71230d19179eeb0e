/-
  SEAT b6601232a. make, append, cuts: laws on rows of the call's own. By an AI agent.
-/
import Derived.Test.Qxb6601232aPure
import Derived.Maps.OwnSet
namespace Go.Proofs.Qxb6601232a
open Go.RowKit
set_option linter.unusedVariables false

/-- What make lays, under a name that the walk leaves alone. -/
def made (z : Value) (n : Nat) : Array Value := madeCells z.cells n
theorem size_made (z : Value) (n : Nat) : (made z n).size = n := by simp [made, madeCells]
/-- make([]T, n). -/
theorem run_mk {P : Program} {t e : TypeId} {z : Value} {size bytes : Nat} (ht : P.underlying t = some (.slice e)) (hi : (P.info? e).map (fun i => (i.zero, i.size, i.bytes)) = some (some z, size, bytes))
    (n : Nat) (hb : bytes * n ≤ 281474976710656) (hn : n ≤ maxLen) (w : World) :
    (Instr.makeSlice t (.int .i64 (n : Int)) (.int .i64 (n : Int))).run P w = .ok (.slice (some ⟨w.heap.size, 0, none⟩) n n) (w.alloc (.cells (made z (n * size)) e)) := by
  obtain ⟨i0, h0, h1, h2, h3⟩ := info_parts hi
  unfold maxLen at hn
  have := run_make (P := P) w t e i0 z ht h0 h1 .i64 .i64 (n : Int) (n : Int) (by omega) (by omega) (by rw [h3]; omega) (by omega)
  simpa [h2, made] using this
theorem own_new (w : World) (e : TypeId) (size n : Nat) (xs : List Value) (hx : xs.length = n * size) (hn : n ≤ maxLen) :
    (w.alloc (.cells xs.toArray e)).ownsRow w.heap.size e size (.slice (some ⟨w.heap.size, 0, none⟩) n n) n xs :=
  ⟨hx, .inr ⟨w.heap.size, n, _, rfl, Nat.le_refl _, heap_alloc_new _ _, Nat.le_refl _, hn, by simpa using hx, by simpa using List.take_of_length_le (by omega)⟩⟩
/-- Where a cut begins, under a name that the walk leaves alone. -/
def cutA (a : Option Addr) (cap l size : Nat) : Option Addr := if cap = l then a else a.map (·.add (l * size))
theorem add_plain' (b o j : Nat) : (⟨b, o, none⟩ : Addr).add j = ⟨b, o + j, none⟩ := by unfold Addr.add; split <;> simp_all
theorem run_cut_l {P : Program} {t e : TypeId} {size : Nat} (ht : P.underlying t = some (.slice e)) (hi : (P.info? e).map (fun i => i.size) = some size) (a : Option Addr) (len cap l : Nat) (h1 : l ≤ len) (kl : IntKind) (w : World) :
    (Instr.slice t (.slice a len cap) (some (.int kl (l : Int))) none none).run P w = .ok (.slice (cutA a cap l size) (len - l) (cap - l)) w := by
  obtain ⟨i0, hi0, hi1⟩ : ∃ i, P.info? e = some i ∧ i.size = size := by simpa [Option.map_eq_some_iff] using hi
  have b2 := run_sliceBound (P := P) (w := w) kl (l : Int) len .sliceB (by omega) (by omega)
  simp at b2
  simp [Instr.slice, run_underlying ht, Instr.sliceBounds, b2, sizeOf, typeInfo, hi0, hi1, cutA]
theorem run_app {P : Program} (w : World) (base : Nat) (t ty e : TypeId) (z : Value) (size bytes : Nat) (ht : P.underlying t = some (.slice e)) (hinfo : (P.info? e).map (fun i => (i.zero, i.size, i.bytes)) = some (some z, size, bytes))
    (hzs : z.cells.size = size) (hsz : 0 < size) (v : Value) (n : Nat) (xs : List Value) (hown : w.ownsRow base e size v n xs)
    (b off m c : Nat) (news : List Value) (hl : news.length = m * size) (hnews : ∀ j u, news[j]? = some u → w.cell? ⟨b, off + j, none⟩ = some u) (h1 : ∀ u ∈ news, u.oneCell' = true)
    (h63 : n + m ≤ maxLen) (hbytes : (n + m) * bytes ≤ 140737488355328) (hbase : base ≤ w.heap.size) :
    ∃ v' w', (Builtin.append_ #[t, t] ty #[v, .slice (some ⟨b, off, none⟩) m c]).run P w = .ok v' w' ∧ w'.ownsRow base e size v' (n + m) (xs ++ news) ∧ w.grownBy w' v.ownBlock ∧
      (v'.ownBlock = v.ownBlock ∨ v'.ownBlock = some w.heap.size) := by
  obtain ⟨i, hi, hz, rfl, rfl⟩ := info_parts hinfo
  have hn' : ∀ j u, news[j]? = some u → w.cell? ((⟨b, off, none⟩ : Addr).add j) = some u := fun j u h => by rw [add_plain']; exact hnews j u h
  have hsmall : n + m ≤ 9223372036854775807 := by simp only [maxLen] at h63; omega
  obtain ⟨v', w', hr, h2, h3, h4⟩ := run_append_own (P := P) w base t ty e i z i.size i.bytes ht hi hz rfl rfl hzs hsz v n xs hown ⟨b, off, none⟩ m c news hl hn' h1 h63 hbytes hbase
  refine ⟨v', w', hr, h2, h3, ?_⟩
  rcases hown.2 with ⟨rfl, rfl⟩ | ⟨g, cap, cur, rfl, hbg, hg, hnc, hcm, hcs, htake⟩
  · by_cases hm : m = 0
    · left; rw [h4.2 ⟨rfl, hm⟩]
    · right
      have hx := run_append_nil (P := P) w t ty e i z ht hi hz ⟨b, off, none⟩ m c news hl hn' (by omega) (by omega) (by have hb := hbytes; simp only [Nat.zero_add] at hb; omega)
      rw [hr] at hx
      injection hx with hv _
      rw [hv]; rfl
  · by_cases hroom : n + m ≤ cap
    · left
      have hfit : n * i.size + news.length ≤ cur.size := by rw [hl, hcs, ← Nat.add_mul]; exact Nat.mul_le_mul_right _ hroom
      have hx := run_append_room (P := P) w t ty e i ht hi g n cap cur hg ⟨b, off, none⟩ m c news hl hn' h1 hroom hfit
      rw [hr] at hx
      injection hx with hv _
      rw [hv]; rfl
    · right
      have hx := run_append_grow (P := P) w t ty e i z ht hi hz ⟨g, 0, none⟩ n cap xs hown.1 (hown.cells (g := g) rfl) ⟨b, off, none⟩ m c news hl hn' (by omega) (by omega) (growslice_fits (by omega) hbytes)
      rw [hr] at hx
      injection hx with hv _
      rw [hv]; rfl
/-- The same as one step of a region that draws its order. -/
theorem step_app {P : Program} {ops : Array Oper} {o : Oper} {a : Act} {w : World} {K : Act → World → Prop} {Q : Exit → Act → World → Prop} {E : Prop} (hgd : o.guard = none) (s x : Operand) (t : TypeId)
    (ho : o.op = .call { callee := .builtin .append, args := #[s, x], argTypes := #[t, t] })
    (base : Nat) (e : TypeId) (z : Value) (size bytes : Nat) (ht : P.underlying t = some (.slice e)) (hinfo : (P.info? e).map (fun i => (i.zero, i.size, i.bytes)) = some (some z, size, bytes))
    (hzs : z.cells.size = size) (hsz : 0 < size) (v : Value) (n : Nat) (xs : List Value) (hs : a.eval s = v) (hown : w.ownsRow base e size v n xs)
    (b off m c : Nat) (news : List Value) (hx : a.eval x = .slice (some ⟨b, off, none⟩) m c) (hl : news.length = m * size) (hnews : ∀ j u, news[j]? = some u → w.cell? ⟨b, off + j, none⟩ = some u) (h1 : ∀ u ∈ news, u.oneCell' = true)
    (h63 : n + m ≤ maxLen) (hbytes : (n + m) * bytes ≤ 140737488355328) (hbase : base ≤ w.heap.size)
    (h : ∀ v' w', w'.ownsRow base e size v' (n + m) (xs ++ news) → w.grownBy w' v.ownBlock → (v'.ownBlock = v.ownBlock ∨ v'.ownBlock = some w.heap.size) → K (a.put o.dst v') w') :
    if Region.wanted o (yielded ops a.tmps) = true then Oper.wp P o a w K Q else E := by
  have hw : Region.wanted o (yielded ops a.tmps) = true := by simp [Region.wanted, hgd]
  rw [if_pos hw]
  obtain ⟨v', w', hr, h2, h3, h4⟩ := run_app (P := P) w base t o.type e z size bytes ht hinfo hzs hsz v n xs hown b off m c news hl hnews h1 h63 hbytes hbase
  unfold Oper.wp execOp
  simp only [ho, resolve, invoke, builtin, Sem.run_bind, Sem.run_pure, Result.andThen_ok, List.map_toArray, List.map_cons, List.map_nil, hs, hx, hr]
  exact h v' w' h2 h3 h4
theorem own_ne {w : World} {base : Nat} {e : TypeId} {size : Nat} {v : Value} {n : Nat} {xs : List Value} (h : w.ownsRow base e size v n xs) {L : Nat} {cs : Array Value} {t : TypeId} {fz : Nat × Nat} (hL : w.heap[L]? = some (.cells cs t fz)) (hne : t ≠ e) : v.ownBlock ≠ some L := by
  intro hb
  obtain ⟨_, h⟩ := h
  rcases h with ⟨rfl, _⟩ | ⟨g, cap, cur, rfl, _, hg, _⟩
  · cases hb
  · simp only [Value.ownBlock, Option.some.injEq] at hb
    subst hb
    rw [hL] at hg
    simp at hg
    exact hne hg.2.1
theorem own_len {w : World} {base : Nat} {e : TypeId} {size : Nat} {a : Option Addr} {n n' c : Nat} {xs : List Value} (h : w.ownsRow base e size (.slice a n c) n' xs) : n = n' := by
  obtain ⟨_, h⟩ := h
  rcases h with ⟨h, h'⟩ | ⟨g, cap, cur, h, _⟩
  · simp at h; omega
  · simp at h; omega
theorem own_cap {w : World} {base : Nat} {e : TypeId} {size : Nat} {a : Option Addr} {n n' c : Nat} {xs : List Value} (h : w.ownsRow base e size (.slice a n c) n' xs) : n ≤ c := by
  obtain ⟨_, h⟩ := h
  rcases h with ⟨h, h'⟩ | ⟨g, cap, cur, h, _, _, h3, _⟩
  · simp at h; omega
  · simp at h; omega
theorem own_fr {T : Nat → Prop} {w w' : World} {base : Nat} {e : TypeId} {size : Nat} {v : Value} {n : Nat} {xs : List Value} (h : w.ownsRow base e size v n xs) (f : Fr T w w') (hT : ∀ b, v.ownBlock = some b → T b) : w'.ownsRow base e size v n xs := by
  obtain ⟨h1, h2⟩ := h
  refine ⟨h1, ?_⟩
  rcases h2 with h2 | ⟨g, cap, cur, hv, hg, hh, r⟩
  · exact .inl h2
  · exact .inr ⟨g, cap, cur, hv, hg, f.heap hh (hT g (by rw [hv]; rfl)), r⟩
theorem own_ne2 {w : World} {base base' : Nat} {e e' : TypeId} {size size' : Nat} {v v' : Value} {n n' : Nat} {xs xs' : List Value} (h : w.ownsRow base e size v n xs) (h' : w.ownsRow base' e' size' v' n' xs') (hne : e ≠ e') (b : Nat) (hb : v.ownBlock = some b) : v'.ownBlock ≠ some b := by
  obtain ⟨_, h⟩ := h
  rcases h with ⟨rfl, _⟩ | ⟨g, cap, cur, rfl, _, hg, _⟩
  · cases hb
  · simp only [Value.ownBlock, Option.some.injEq] at hb
    subst hb
    exact own_ne h' hg hne
theorem cutA_zero (a : Option Addr) (c size : Nat) : cutA a c 0 size = a := by
  unfold cutA; split
  · rfl
  · cases a <;> simp [Addr.add]
theorem own_mono {w : World} {base base' : Nat} {e : TypeId} {size : Nat} {v : Value} {n : Nat} {xs : List Value} (h : w.ownsRow base e size v n xs) (hb : base' ≤ base) : w.ownsRow base' e size v n xs := by
  obtain ⟨h1, h2⟩ := h
  refine ⟨h1, ?_⟩
  rcases h2 with h2 | ⟨g, cap, cur, hv, hg, r⟩
  · exact .inl h2
  · exact .inr ⟨g, cap, cur, hv, by omega, r⟩
theorem ownBlock_slice (a : Option Addr) (n c n' c' : Nat) : (Value.slice a n c).ownBlock = (Value.slice a n' c').ownBlock := by cases a <;> rfl

end Go.Proofs.Qxb6601232a
