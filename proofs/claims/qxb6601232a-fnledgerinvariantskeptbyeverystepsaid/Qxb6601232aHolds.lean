/-
  SEAT b6601232a. THE WALK OF zzStandingHolds; the rules that a standing keeps. By an AI agent.
-/
import Derived.Test.Qxb6601232aNode
namespace Go.Proofs.Qxb6601232a
open Go.RowKit
set_option linter.unusedVariables false
set_option linter.unusedSimpArgs false

/-- The rules of a standing. -/
def StOk (cr acts : Int) (ex bn : Bool) : Prop := 0 ≤ acts ∧ (bn = true ↔ 2 ≤ acts) ∧ (bn = true → ex = true) ∧ (ex = true → cr = 0) ∧ (ex = true → bn = false → acts = 1)
def RetOk (w : World) (p : Prop) (e : Ending) (w' : World) : Prop := ∃ b : Bool, e = .returned (.bool b) ∧ w' = w ∧ (b = true ↔ p)
theorem RetOk.no {w : World} {p : Prop} (h : ¬ p) : RetOk w p (.returned (.bool false)) w := ⟨false, rfl, rfl, by simp [h]⟩
theorem RetOk.yes {w : World} {p : Prop} (h : p) : RetOk w p (.returned (.bool true)) w := ⟨true, rfl, rfl, by simp [h]⟩

set_option maxRecDepth 100000 in
set_option maxHeartbeats 1000000 in
/-- zzStandingHolds. -/
theorem c43 (w : World) (cr acts : Int) (ex bn : Bool) : Calls Try.prog 43 #[.int .i64 cr, .int .i64 acts, .bool ex, .bool bn] w (RetOk w (StOk cr acts ex bn)) := by
  by_cases ha : acts < 0
  · have no := hid (RetOk.no (w := w) (show ¬ StOk cr acts ex bn from fun h => by have := h.1; omega))
    go_enter Try.func43, Try.ntmps43
    go_wp2
    go_ret
    exact no.out
  · by_cases h2 : 2 ≤ acts
    · have hd : decide (2 ≤ acts) = true := by simp [h2]
      cases bn
      · have no := hid (RetOk.no (w := w) (show ¬ StOk cr acts ex false from fun h => by have := h.2.1.2 h2; cases this))
        go_enter Try.func43, Try.ntmps43
        go_wp2
        go_ret
        exact no.out
      · cases ex
        · have no := hid (RetOk.no (w := w) (show ¬ StOk cr acts false true from fun h => by have := h.2.2.1 rfl; cases this))
          go_enter Try.func43, Try.ntmps43
          go_wp2
          go_ret
          exact no.out
        · by_cases hc : cr = 0
          · subst hc
            have yes := hid (RetOk.yes (w := w) (show StOk 0 acts true true from ⟨by omega, (by simp [h2]), fun _ => rfl, fun _ => rfl, (fun _ h => by cases h)⟩))
            go_enter Try.func43, Try.ntmps43
            go_wp2
            go_ret
            exact yes.out
          · have hcd : (cr != 0) = true := by simp [hc]
            have no := hid (RetOk.no (w := w) (show ¬ StOk cr acts true true from fun h => hc (h.2.2.2.1 rfl)))
            go_enter Try.func43, Try.ntmps43
            go_wp2
            go_ret
            exact no.out
    · have hd : decide (2 ≤ acts) = false := by simp; omega
      cases bn
      · cases ex
        · have yes := hid (RetOk.yes (w := w) (show StOk cr acts false false from ⟨by omega, (by simp; omega), (fun h => by cases h), (fun h => by cases h), (fun h => by cases h)⟩))
          go_enter Try.func43, Try.ntmps43
          go_wp2
          go_ret
          exact yes.out
        · by_cases hc : cr = 0
          · subst hc
            by_cases h1 : acts = 1
            · subst h1
              have yes := hid (RetOk.yes (w := w) (show StOk 0 1 true false from ⟨by omega, (by simp), (fun h => by cases h), fun _ => rfl, fun _ _ => rfl⟩))
              go_enter Try.func43, Try.ntmps43
              go_wp2
              go_ret
              exact yes.out
            · have h1d : (acts != 1) = true := by simp [h1]
              have no := hid (RetOk.no (w := w) (show ¬ StOk 0 acts true false from fun h => h1 (h.2.2.2.2 rfl rfl)))
              go_enter Try.func43, Try.ntmps43
              go_wp2
              go_ret
              exact no.out
          · have hcd : (cr != 0) = true := by simp [hc]
            have no := hid (RetOk.no (w := w) (show ¬ StOk cr acts true false from fun h => hc (h.2.2.2.1 rfl)))
            go_enter Try.func43, Try.ntmps43
            go_wp2
            go_ret
            exact no.out
      · have no := hid (RetOk.no (w := w) (show ¬ StOk cr acts ex true from fun h => by have := h.2.1.1 rfl; omega))
        go_enter Try.func43, Try.ntmps43
        go_wp2
        go_ret
        exact no.out

end Go.Proofs.Qxb6601232a
