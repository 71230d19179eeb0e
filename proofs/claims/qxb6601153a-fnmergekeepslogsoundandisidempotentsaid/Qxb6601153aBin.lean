/-
  SEAT b6601153a. THE WALKS OF cmp.Less, slices.BinarySearch. By an AI agent.
-/
import Derived.Test.Qxb6601153aSame
namespace Go.Proofs.Qxb6601153a
open Go.RowKit
set_option linter.unusedVariables false

/-- cmp.Less. -/
theorem c51 (w : World) (x y : Int) : Calls Try.prog 51 #[.int .u64 x, .int .u64 y] w fun e w' => e = .returned (.bool (decide (x < y))) ∧ w' = w := by
  go_enter Try.func51, Try.ntmps51
  go_wp2
  go_ret
  exact ⟨rfl, rfl⟩

/-- Where the numbers from t on begin. -/
def Cut (ns : List Int) (t : Int) (p : Nat) : Prop := p ≤ ns.length ∧ (∀ (j : Nat) (x : Int), j < p → ns[j]? = some x → x < t) ∧ (∀ (j : Nat) (x : Int), p ≤ j → ns[j]? = some x → t ≤ x)
def Sorted (ns : List Int) : Prop := ∀ (i j : Nat) (x y : Int), i ≤ j → ns[i]? = some x → ns[j]? = some y → x ≤ y
def RetC (w : World) (ns : List Int) (t : Int) (e : Ending) (w' : World) : Prop := ∃ (p : Nat) (b : Bool), e = .returned (.tuple #[.int .i64 p, .bool b]) ∧ Qt w w' ∧ Cut ns t p

set_option maxRecDepth 100000 in
set_option maxHeartbeats 1000000 in
/-- slices.BinarySearch. -/
theorem c50 {T : Nat → Prop} (w : World) (v : Value) (ns : List Int) (t : Int) (h : U64s T w v ns) (hs : Sorted ns) (hn : ns.length ≤ 1099511627776) :
    Calls Try.prog 50 #[v, .int .u64 t] w (RetC w ns t) := by
  obtain ⟨ao, c, rfl, hnc, hcm, _, hp⟩ := h
  have hpH : Hid (0 < ns.length → ∃ b off, ao = some ⟨b, off, none⟩ ∧ T b ∧ ∀ j u, (ns.map (Value.int .u64))[j]? = some u → w.cell? ⟨b, off + j, none⟩ = some u) := hp
  have hsH : Hid (Sorted ns) := hs
  clear hp hs hcm
  go_enter Try.func50, Try.ntmps50
  go_wp2
  go_loop [7, 8] (fun a b => ∃ i j : Nat, a = .int .i64 i ∧ b = .int .i64 j ∧ i ≤ j ∧ j ≤ ns.length ∧ (∀ (q : Nat) (x : Int), q < i → ns[q]? = some x → x < t) ∧ (∀ (q : Nat) (x : Int), j ≤ q → ns[q]? = some x → t ≤ x)) (fun a b => (intOf b - intOf a).toNat)
  case atStart => exact ⟨0, ns.length, rfl, rfl, by omega, by omega, fun q x h => by omega, fun q x h hx => by have := (List.getElem?_eq_some_iff.1 hx).1; omega⟩
  case round =>
    obtain ⟨i, j, rfl, rfl, hij, hjn, hlo, hhi⟩ := hrel
    have hloH : Hid (∀ (q : Nat) (x : Int), q < i → ns[q]? = some x → x < t) := hlo
    have hhiH : Hid (∀ (q : Nat) (x : Int), j ≤ q → ns[q]? = some x → t ≤ x) := hhi
    clear hlo hhi
    by_cases hlt : i < j
    · obtain ⟨b, o, rfl, _, hcell⟩ := hpH.out (by omega)
      obtain ⟨m, hm⟩ : ∃ m, m = (i + j) / 2 := ⟨_, rfl⟩
      obtain ⟨x, hx⟩ : ∃ x, ns[(i + j) / 2]? = some x := ⟨ns[(i + j) / 2]'(by omega), by simp⟩
      have q := nums_cell hcell hx
      have hxH : Hid (ns[(i + j) / 2]? = some x) := hx
      clear hcell hx hpH hm
      by_cases hxt : x < t
      · go_wp2
        go_round
        case rel =>
          refine ⟨(i + j) / 2 + 1, j, by go_num, rfl, by omega, by omega, fun q y hq hy => ?_, hhiH.out⟩
          exact Int.lt_of_le_of_lt (hsH.out q ((i + j) / 2) y x (by omega) hy hxH.out) hxt
        case measure => simp [intOf]; omega
      · go_wp2
        go_round
        case rel =>
          refine ⟨i, (i + j) / 2, rfl, by go_num, by omega, by omega, hloH.out, fun q y hq hy => ?_⟩
          exact Int.le_trans (by omega) (hsH.out ((i + j) / 2) q x y (by omega) hxH.out hy)
        case measure => simp [intOf]; omega
    · obtain rfl : i = j := by omega
      by_cases hin : i < ns.length
      · obtain ⟨b, o, rfl, _, hcell⟩ := hpH.out (by omega)
        obtain ⟨x, hx⟩ : ∃ x, ns[i]? = some x := ⟨ns[i], by simp⟩
        have q := nums_cell hcell hx
        clear hcell hx hpH
        cases hxt : (x == t)
        · go_wp2
          go_ret2
          exact ⟨i, _, rfl, Qt.refl _, by omega, hloH.out, hhiH.out⟩
        · go_wp2
          go_ret2
          exact ⟨i, _, rfl, Qt.refl _, by omega, hloH.out, hhiH.out⟩
      · have hd : decide ((i : Int) < (ns.length : Int)) = false := by simp; omega
        go_wp2
        go_ret2
        exact ⟨i, _, rfl, Qt.refl _, by omega, hloH.out, hhiH.out⟩
end Go.Proofs.Qxb6601153a
