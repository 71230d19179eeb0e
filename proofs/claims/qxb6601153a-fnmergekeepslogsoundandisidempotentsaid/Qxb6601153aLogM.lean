/-
  SEAT b6601153a. THE WALKS OF lastIndex, term, matches, keepChanges. By an AI agent.
-/
import Derived.Test.Qxb6601153aBin
namespace Go.Proofs.Qxb6601153a
open Go.RowKit
set_option linter.unusedVariables false

/-- Where a cut begins, under a name that the walk leaves alone. -/
def cutA (a : Option Addr) (cap l size : Nat) : Option Addr := if cap = l then a else a.map (·.add (l * size))

theorem add_plain' (b o j : Nat) : (⟨b, o, none⟩ : Addr).add j = ⟨b, o + j, none⟩ := by unfold Addr.add; split <;> simp_all

theorem run_cut_lh {P : Program} {t e : TypeId} {size : Nat} (ht : P.underlying t = some (.slice e)) (hi : (P.info? e).map (fun i => i.size) = some size) (a : Option Addr) (len cap l h : Nat) (h1 : l ≤ h) (h2 : h ≤ cap) (kl kh : IntKind) (w : World) :
    (Instr.slice t (.slice a len cap) (some (.int kl (l : Int))) (some (.int kh (h : Int))) none).run P w = .ok (.slice (cutA a cap l size) (h - l) (cap - l)) w := by
  obtain ⟨i0, hi0, hi1⟩ : ∃ i, P.info? e = some i ∧ i.size = size := by simpa [Option.map_eq_some_iff] using hi
  have b1 := run_sliceBound (P := P) (w := w) kh (h : Int) cap .sliceAcap (by omega) (by omega)
  have b2 := run_sliceBound (P := P) (w := w) kl (l : Int) h .sliceB (by omega) (by omega)
  simp at b1 b2
  simp [Instr.slice, run_underlying ht, Instr.sliceBounds, b1, b2, sizeOf, typeInfo, hi0, hi1, cutA]
theorem run_cut_l {P : Program} {t e : TypeId} {size : Nat} (ht : P.underlying t = some (.slice e)) (hi : (P.info? e).map (fun i => i.size) = some size) (a : Option Addr) (len cap l : Nat) (h1 : l ≤ len) (kl : IntKind) (w : World) :
    (Instr.slice t (.slice a len cap) (some (.int kl (l : Int))) none none).run P w = .ok (.slice (cutA a cap l size) (len - l) (cap - l)) w := by
  obtain ⟨i0, hi0, hi1⟩ : ∃ i, P.info? e = some i ∧ i.size = size := by simpa [Option.map_eq_some_iff] using hi
  have b2 := run_sliceBound (P := P) (w := w) kl (l : Int) len .sliceB (by omega) (by omega)
  simp at b2
  simp [Instr.slice, run_underlying ht, Instr.sliceBounds, b2, sizeOf, typeInfo, hi0, hi1, cutA]

theorem Rd.cut {T : Nat → Prop} {w : World} {a : Option Addr} {n c : Nat} {xs : List Value} {size l h : Nat} (hr : Rd T w (.slice a n c) n xs) (h1 : l ≤ h) (h2 : h ≤ n) (hs : xs.length = n * size) :
    Rd T w (.slice (cutA a c l size) (h - l) (c - l)) (h - l) ((xs.drop (l * size)).take ((h - l) * size)) := by
  obtain ⟨ao, c', he, hnc, hcm, hnil, hp⟩ := hr
  simp only [Value.slice.injEq, true_and] at he
  obtain ⟨rfl, rfl⟩ := he
  refine ⟨_, _, rfl, by omega, by omega, ?_, fun hpos => ?_⟩
  · intro h0
    cases a with
    | none => have := hnil rfl; omega
    | some a => unfold cutA at h0; split at h0
                · cases h0
                · simp at h0
  · obtain ⟨b, off, rfl, hT, hc⟩ := hp (by omega)
    have hcl : ¬ c = l := by omega
    refine ⟨b, off + l * size, by simp [cutA, hcl, add_plain'], hT, fun j u hj => ?_⟩
    rw [List.getElem?_take] at hj
    split at hj
    · rw [List.getElem?_drop] at hj
      rw [Nat.add_assoc]
      exact hc _ _ hj
    · cases hj

/-- An entryLog as it lies in memory. -/
def Lg (w : World) (L : Nat) (si st : Int) (vo le : Value) (off : Int) (ev cv : Value) (un sb : Int) : Prop :=
  w.heap[L]? = some (.cells #[.int .u64 si, .int .u64 st, vo, le, .int .u64 off, ev, cv, .int .u64 un, .int .u64 sb] 82 (0, 0))

set_option maxRecDepth 100000 in
/-- lastIndex. -/
theorem c45 (w : World) (L : Nat) (si st : Int) (vo le : Value) (off : Int) (ao : Option Addr) (n c : Nat) (cv : Value) (un sb : Int) (h : Lg w L si st vo le off (.slice ao n c) cv un sb) (b0 : 0 ≤ off) (b1 : off + n ≤ 18446744073709551615) (b2 : n ≤ 1099511627776) :
    Calls Try.prog 45 #[.pointer (some ⟨L, 0, none⟩)] w fun e w' => e = .returned (.int .u64 (off + n)) ∧ Qt w w' := by
  have q4 : w.cell? ⟨L, 4, none⟩ = some (.int .u64 off) := by rw [cell_of_row w L _ _ _ _ h]; rfl
  have q5 : w.cell? ⟨L, 5, none⟩ = some (.slice ao n c) := by rw [cell_of_row w L _ _ _ _ h]; rfl
  clear h
  go_enter Try.func45, Try.ntmps45
  go_wp2
  go_quiet (fail)
  go_wp2
  go_ret
  exact ⟨rfl, Qt.drewN _ _⟩

set_option maxRecDepth 100000 in
/-- term. -/
theorem c49 {T : Nat → Prop} (w : World) (L : Nat) (si st : Int) (vo le : Value) (off : Int) (ev : Value) (cv : Value) (un sb : Int) (i : Int) (rs : List Raw) (h : Lg w L si st vo le off ev cv un sb) (he : Rd T w ev rs.length (flat rs)) (b0 : 0 ≤ off) (b1 : off + rs.length ≤ 18446744073709551615) (b2 : rs.length ≤ 1099511627776) (b3 : 0 ≤ i) (b4 : i ≤ 18446744073709551615) :
    Calls Try.prog 49 #[.pointer (some ⟨L, 0, none⟩), .int .u64 i] w (RetT w (termF si st off rs i)) := by
  obtain ⟨ao, c, rfl, hnc, hcm, _, hp⟩ := he
  have q0 : w.cell? ⟨L, 0, none⟩ = some (.int .u64 si) := by rw [cell_of_row w L _ _ _ _ h]; rfl
  have q1 : w.cell? ⟨L, 1, none⟩ = some (.int .u64 st) := by rw [cell_of_row w L _ _ _ _ h]; rfl
  have q4 : w.cell? ⟨L, 4, none⟩ = some (.int .u64 off) := by rw [cell_of_row w L _ _ _ _ h]; rfl
  have q5 : w.cell? ⟨L, 5, none⟩ = some (.slice ao rs.length c) := by rw [cell_of_row w L _ _ _ _ h]; rfl
  have hH : Hid (Lg w L si st vo le off (.slice ao rs.length c) cv un sb) := h
  clear hcm h
  by_cases t1 : i = si
  · subst t1
    rw [termF_snap]
    clear hp
    go_enter Try.func49, Try.ntmps49
    go_wp2
    go_ret2
    exact ⟨rfl, Qt.refl _⟩
  have t1' : (i == si) = false := by simp [t1]
  by_cases t2 : i ≤ off
  · rw [termF_out t1 (by omega)]
    clear hp t1
    go_enter Try.func49, Try.ntmps49
    go_wp2
    go_ret2
    exact ⟨rfl, Qt.refl _⟩
  by_cases t3 : off + rs.length < i
  · rw [termF_out t1 (by omega)]
    clear hp t1
    go_enter Try.func49, Try.ntmps49
    go_wp2_with fail
    refine (c45 w L si st vo le off ao rs.length c cv un sb hH.out b0 b1 b2).mono ?_
    rintro e w' ⟨rfl, nq, rfl⟩
    go_wp2
    go_ret2
    exact ⟨rfl, Qt.drewN _ _⟩
  · obtain ⟨b, o, rfl, _, hcell⟩ := hp (by omega)
    obtain ⟨r, hr⟩ : ∃ r, rs[(i - off).toNat - 1]? = some r := ⟨rs[(i - off).toNat - 1]'(by omega), by simp⟩
    rw [termF_in t1 (by omega) (by omega) hr]
    obtain ⟨_, e1, _, _⟩ := ents_cells hcell hr
    clear hp hcell hr t1
    have d2 : decide (i ≤ off) = false := by simpa using t2
    go_enter Try.func49, Try.ntmps49
    go_wp2_with fail
    refine (c45 w L si st vo le off (some ⟨b, o, none⟩) rs.length c cv un sb hH.out b0 b1 b2).mono ?_
    rintro e w' ⟨rfl, nq, rfl⟩
    go_wp2
    go_quiet (fail)
    go_wp2
    go_ret2
    exact ⟨rfl, (by first | exact Qt.drewN _ _ | exact (Qt.drewN _ _).trans (Qt.drewN _ _))⟩

set_option maxRecDepth 100000 in
/-- matches. -/
theorem c44 {T : Nat → Prop} (w : World) (L : Nat) (si st : Int) (vo le : Value) (off : Int) (ev : Value) (cv : Value) (un sb : Int) (i t : Int) (rs : List Raw) (h : Lg w L si st vo le off ev cv un sb) (he : Rd T w ev rs.length (flat rs)) (b0 : 0 ≤ off) (b1 : off + rs.length ≤ 18446744073709551615) (b2 : rs.length ≤ 1099511627776) (b3 : 0 ≤ i) (b4 : i ≤ 18446744073709551615) :
    Calls Try.prog 44 #[.pointer (some ⟨L, 0, none⟩), .int .u64 i, .int .u64 t] w fun e w' => e = .returned (.bool (termF si st off rs i == some t)) ∧ Qt w w' := by
  go_enter Try.func44, Try.ntmps44
  go_wp2_with fail
  refine (c49 w L si st vo le off ev cv un sb i rs h he b0 b1 b2 b3 b4).mono ?_
  rintro e w' ⟨rfl, nq, rfl⟩
  cases hq : termF si st off rs i with
  | none =>
    go_wp2
    go_ret
    exact ⟨by rw [hq]; rfl, Qt.drewN _ _⟩
  | some u =>
    go_wp2
    go_ret
    exact ⟨by simp [hq], Qt.drewN _ _⟩

theorem Try.size22 : (Try.prog.info? 22).map (fun i => i.size) = some 1 := by kernel_rfl
theorem Try.size61 : (Try.prog.info? 61).map (fun i => i.size) = some 4 := by kernel_rfl

theorem Cut.le {ns : List Int} {a b : Int} {p q : Nat} (h : Cut ns a p) (k : Cut ns b q) (hab : a ≤ b) : p ≤ q := by
  obtain ⟨h1, h2, h3⟩ := h
  obtain ⟨k1, k2, k3⟩ := k
  by_cases hpq : p ≤ q
  · exact hpq
  · have hq : q < ns.length := by omega
    have x1 := h2 q ns[q] (by omega) (by simp)
    have x2 := k3 q ns[q] (by omega) (by simp)
    omega

/-- What keepChanges leaves. -/
def Keeps (w : World) (L : Nat) (si st : Int) (vo le : Value) (off : Int) (ev : Value) (ao : Option Addr) (c : Nat) (ns : List Int) (un sb f t : Int) (e : Ending) (w' : World) : Prop :=
  e = .returned (.tuple #[]) ∧ ∃ lo hi : Nat, Cut ns f lo ∧ Cut ns t hi ∧ lo ≤ hi ∧ Lg w' L si st vo le off ev (.slice (cutA ao c lo 1) (hi - lo) (c - lo)) un sb ∧ Fr (fun b => b ≠ L) w w'

set_option maxRecDepth 100000 in
set_option maxHeartbeats 1000000 in
/-- keepChanges. -/
theorem c46 {T : Nat → Prop} (w : World) (L : Nat) (si st : Int) (vo le : Value) (off : Int) (ev : Value) (ao : Option Addr) (c : Nat) (ns : List Int) (un sb : Int) (f t : Int) (h : Lg w L si st vo le off ev (.slice ao ns.length c) un sb) (hc : U64s T w (.slice ao ns.length c) ns) (hs : Sorted ns) (hn : ns.length ≤ 1099511627776) (hft : f ≤ t) :
    Calls Try.prog 46 #[.pointer (some ⟨L, 0, none⟩), .int .u64 f, .int .u64 t] w (Keeps w L si st vo le off ev ao c ns un sb f t) := by
  have q6 : w.cell? ⟨L, 6, none⟩ = some (.slice ao ns.length c) := by rw [cell_of_row w L _ _ _ _ h]; rfl
  have z6 : w.frozen? ⟨L, 6, none⟩ = false := frozen_of_row w L _ _ _ h
  have hnc : ns.length ≤ c := by
    obtain ⟨ao', c', he, hnc, _⟩ := hc
    simp only [Value.slice.injEq] at he
    omega
  have hH : Hid (Lg w L si st vo le off ev (.slice ao ns.length c) un sb) := h
  clear h
  go_enter Try.func46, Try.ntmps46
  go_wp2_with fail
  refine (c50 (T := T) w (.slice ao ns.length c) ns f hc hs hn).mono ?_
  rintro e w' ⟨lo, b1, rfl, ⟨nq, rfl⟩, hlo⟩
  go_wp2_with fail
  refine (c50 (T := T) _ (.slice ao ns.length c) ns t (Rd.fr hc (Fr.drewN _ _ _)) hs hn).mono ?_
  rintro e w' ⟨hi, b2, rfl, ⟨nq2, rfl⟩, hhi⟩
  have hle := hlo.le hhi hft
  have hcut := run_cut_lh (P := Try.prog) Try.underlying24 Try.size22 ao ns.length c lo hi hle (by have := hhi.1; omega) .i64 .i64
  go_wp2
  go_end0
  refine ⟨rfl, lo, hi, hlo, hhi, hle, ?_, ?_⟩
  · exact heap_setCell_same _ L 6 _ _ _ (show _ = _ from hH.out)
  · exact ((Fr.drewN _ _ _).tr (Fr.setCell _ _ _ (by simp)))
end Go.Proofs.Qxb6601153a
