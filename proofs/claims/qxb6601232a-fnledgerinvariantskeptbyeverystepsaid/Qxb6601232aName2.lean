/-
  SEAT b6601232a. byName WHOLE, ZZByName, zzAllPresent. By an AI agent.
-/
import Derived.Test.Qxb6601232aName
import Derived.Shelf.SlSortCmp.NoneTotal
namespace Go.Proofs.Qxb6601232a
open Go.RowKit Go.Shelf Go.Lib Go.Sort Go.Proofs
set_option linter.unusedVariables false
set_option linter.unusedSimpArgs false

theorem c52_none (p : Option Addr) (cap : Nat) (fv : Value) (w : World) : Calls Try.prog 52 #[.slice p 0 cap, fv] w fun e w' => e = .returned (.tuple #[]) ∧ w' = w := by
  have h := AnyF.slices_SortFunc_none (P := Try.prog) (ρ := Try.sortF_ren) { Try.sortF with } p cap fv w
  exact h

/-- byName. -/
theorem c47 (w : World) (S : Nat → Prop) (L s : Nat) (qs : List (Nat × St)) (lv t3 t4 : Value) (h : LedV w S L qs s lv t3 t4) (hn : (names (qs.map Prod.snd)).Nodup) (hs : s ≤ qs.length) (hinc : Incq (qs.take s)) (hlen : qs.length ≤ 1099511627776) :
    Calls Try.prog 47 #[.pointer (some ⟨L, 0, none⟩)] w (Named w S L qs lv t3 t4) := by
  by_cases hlt : s < qs.length
  · exact c47_pos w S L s qs lv t3 t4 h hn hlt hinc hlen
  · obtain rfl : s = qs.length := by omega
    rw [List.take_length] at hinc
    exact c47_zero w S L qs lv t3 t4 h hinc hlen c52_none

set_option maxRecDepth 100000 in
/-- ZZByName. -/
theorem c21 (w : World) (S : Nat → Prop) (L s : Nat) (qs : List (Nat × St)) (lv t3 t4 : Value) (h : LedV w S L qs s lv t3 t4) (hn : (names (qs.map Prod.snd)).Nodup) (hs : s ≤ qs.length) (hinc : Incq (qs.take s)) (hlen : qs.length ≤ 1099511627776) :
    Calls Try.prog 21 #[.pointer (some ⟨L, 0, none⟩)] w (Named w S L qs lv t3 t4) := by
  have hc := c47 w S L s qs lv t3 t4 h hn hs hinc hlen
  obtain ⟨la, n0, lc, rfl⟩ := own_shape h.own
  clear h hn hinc
  go_enter Try.func21, Try.ntmps21
  go_wp2_with (go_at_call 47; refine hc.mono ?_; rintro e w' ⟨rfl, hN⟩; have hNH := hid hN; clear hN)
  go_ret
  exact ⟨rfl, hNH.out⟩

set_option maxRecDepth 100000 in
/-- zzAllPresent. -/
theorem c22 {T : Nat → Prop} (w : World) (v : Value) (ps : List Nat) (h : Rd T w v ps.length (ps.map ptr)) (hl : ps.length ≤ 1099511627776) : Calls Try.prog 22 #[v] w fun e w' => e = .returned (.bool true) ∧ w' = w := by
  obtain ⟨ao, c, rfl, _, _, _, hp⟩ := h
  have hpH := hid hp
  clear hp
  go_enter Try.func22, Try.ntmps22
  go_wp2
  go_loopw [3] (fun i wr => ∃ k : Nat, k ≤ ps.length ∧ i = .int .i64 k ∧ w = wr) (fun i _ => ps.length - (intOf i).toNat)
  case atStart => exact ⟨0, by omega, rfl, rfl⟩
  case round =>
    obtain ⟨k, hk, rfl, rfl⟩ := hrel
    by_cases hlt : k < ps.length
    · obtain ⟨b, off, rfl, hT, hcell⟩ := hpH.out (by omega)
      obtain ⟨x, hx⟩ : ∃ x, ps[k]? = some x := ⟨ps[k], by simp [hlt]⟩
      have q0 : w.cell? ⟨b, off + k, none⟩ = some (.pointer (some ⟨x, 0, none⟩)) := cell_at hcell hx
      clear hcell hx hpH
      go_wp2
      go_roundw
      case rel => exact ⟨k + 1, by omega, by go_num, trivial⟩
      case measure => simp [intOf]; omega
    · go_wp2
      go_ret
      exact ⟨rfl, rfl⟩

end Go.Proofs.Qxb6601232a
