/-
  SEAT b6601232a. THE CLOSURE THAT byName HANDS THE SORT. By an AI agent.
-/
import Derived.Test.Qxb6601232aOrd
import Derived.BigQuiet
import Derived.Shelf.Small.Strs
import Derived.Shelf.Lay
import Derived.Ground.NamesProg
namespace Go.Proofs.Qxb6601232a
open Go.RowKit Go.Shelf Go.Lib
set_option linter.unusedVariables false
set_option linter.unusedSimpArgs false
shelf_lay Lays.n106 Nm 106 at Try as Try.cmpS

theorem quiet_of_qt {P : Program} {f : FuncId} {args : Array Value} {w : World} {n : Nat} {v : Value}
    (h : Calls P f args (w.drewN n) fun e w' => e = .returned v ∧ Qt (w.drewN n) w') : Calls P f args (w.drewN n) fun e w'' => e = .returned v ∧ ∃ m, w'' = w.drewN m :=
  h.mono fun _ _ ⟨he, m, hm⟩ => ⟨he, n + m, by rw [hm, drewN_drewN]⟩

/-- strings.Compare. -/
theorem c54 (x y : ByteArray) (w : World) : Calls Try.prog 54 #[.string x, .string y] w fun e w' => e = .returned (.int .i64 (Lib.compareBytes x.data.toList y.data.toList)) ∧ Qt w w' := by
  have h := Any.strings_Compare Try.cmpS x y w
  change Calls Try.prog 54 _ _ _ at h
  exact h.mono fun _ _ ⟨he, hw⟩ => ⟨he, by rw [hw]; exact Qt.refl _⟩

set_option maxRecDepth 100000 in
/-- byName's closure. -/
theorem c53 (W : World) (a b : Nat) (x y : ByteArray) (h1 : W.cell? ⟨a, 0, none⟩ = some (.string x)) (h2 : W.cell? ⟨b, 0, none⟩ = some (.string y)) :
    Calls Try.prog 53 #[ptr a, ptr b] W fun e w' => e = .returned (.int .i64 (Lib.compareBytes x.data.toList y.data.toList)) ∧ ∃ q, w' = W.drewN q := by
  have hc := fun w => c54 x y w
  generalize Lib.compareBytes x.data.toList y.data.toList = r at hc ⊢
  unfold ptr
  go_enter Try.func53, Try.ntmps53
  go_wp2
  go_quiet ((go_at_call 54; exact quiet_of_qt (hc _)))
  go_wp2
  go_ret
  exact ⟨rfl, _, rfl⟩

end Go.Proofs.Qxb6601232a
