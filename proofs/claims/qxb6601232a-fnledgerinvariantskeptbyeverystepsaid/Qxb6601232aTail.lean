/-
  SEAT b6601232a. A REGION THAT DRAWS ITS ORDER, READS, AND ENDS IN A CALL THAT WAITS FOR ALL OF IT. By an AI agent.
-/
import Derived.StillTail
import Derived.BigQuiet
namespace Go.Proofs.Qxb6601232a
open Go.RowKit
set_option linter.unusedVariables false

/-- What is quiet in one world alone is still there. -/
theorem wpStill_of_quiet {P : Program} {ops : Array Oper} {w : World} {Q : Act → Prop} : ∀ (l : List Oper) (a : Act), wpQuiet P ops (fun w' => w' = w) Q l a → wpStill P ops w Q l a
  | [], a, h => h
  | o :: rest, a, h => by
    unfold wpQuiet at h
    unfold wpStill
    by_cases hw : Region.wanted o (yielded ops a.tmps) = true
    · rw [if_pos hw] at h ⊢
      obtain ⟨v, h1, h2⟩ := h
      have h3 := h1 w rfl
      unfold Oper.quietAt at h3
      unfold Oper.still
      generalize (execOp a.eval o).run P w = r at *
      cases r with
      | ok n w' =>
        cases n <;> simp only [Oper.quietUpon] at h3 <;> simp only [Oper.stillUpon]
        case value u =>
          obtain ⟨e1, e2⟩ := h3
          rw [e2]
          exact ⟨e1, wpStill_of_quiet rest _ h2⟩
        case skip =>
          obtain ⟨e1, e2⟩ := h3
          rw [← e2]
          exact ⟨e1, wpStill_of_quiet rest _ h2⟩
        case enter f args =>
          obtain ⟨e1, hc⟩ := h3
          exact ⟨e1, v, hc, wpStill_of_quiet rest _ h2⟩
      | halt x w' => simp only [Oper.quietUpon] at h3
    · rw [if_neg hw] at h ⊢
      exact wpStill_of_quiet rest _ h
/-- The head is walked once, in the order of the text; the tail follows. -/
theorem wp_region_quiet_tail {P : Program} {id : Nat} {Q : Exit → Act → World → Prop} {a : Act} {w : World} {l : List Oper} (n : Nat) (hm : P.follows .mixedOrders = true) (hB : Region.lexTailB .any l.toArray n = true)
    (h : wpQuiet P l.toArray (fun w' => w' = w.drew) (fun a' => wpList P l.toArray Q (l.drop n) a' w.drew) (l.take n) a) : (Code.region id l.toArray true).wp P Q a w :=
  wp_region_still_tail n hm hB (wpStill_of_quiet _ _ h)

end Go.Proofs.Qxb6601232a
