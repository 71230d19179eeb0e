/-
  SEAT b6601232a. THE WALKS OF zzAdd, zzStringsSize, zzLedgerSize, zzSameShape, zzIncreasing. By an AI agent.
-/
import Derived.Test.Qxb6601232aNode
import Derived.BigQuiet
import Derived.Deep.DeepCutAuto
namespace Go.Proofs.Qxb6601232a
open Go.RowKit
set_option linter.unusedVariables false

def RetSz (w : World) (e : Ending) (w' : World) : Prop := ∃ r : Int, e = .returned (.int .i64 r) ∧ 0 ≤ r ∧ r ≤ 2097152 ∧ w' = w

set_option maxRecDepth 100000 in
/-- zzAdd. -/
theorem c9 (w : World) (t n : Int) (h0 : 0 ≤ t) : Calls Try.prog 9 #[.int .i64 t, .int .i64 n] w (RetSz w) := by
  by_cases h1 : 1048576 < t
  · go_enter Try.func9, Try.ntmps9
    go_wp2
    go_ret
    exact ⟨_, rfl, by omega, by omega, rfl⟩
  · by_cases h2 : 1048576 < n
    · go_enter Try.func9, Try.ntmps9
      go_wp2
      go_ret
      exact ⟨_, rfl, by omega, by omega, rfl⟩
    · by_cases h3 : n < 0
      · go_enter Try.func9, Try.ntmps9
        go_wp2
        go_ret
        exact ⟨_, rfl, by omega, by omega, rfl⟩
      · go_enter Try.func9, Try.ntmps9
        go_wp2
        go_ret
        exact ⟨t + n, by go_num, by omega, by omega, rfl⟩

set_option maxRecDepth 100000 in
/-- zzStringsSize. -/
theorem c31 {T : Nat → Prop} (w : World) (v : Value) (ss : List ByteArray) (h : Strs T w v ss) : Calls Try.prog 31 #[v] w (RetSz w) := by
  obtain ⟨ao, c, rfl, _, _, _, hp⟩ := h
  have hpH := hid hp
  clear hp
  by_cases h1 : 65536 < ss.length
  · go_enter Try.func31, Try.ntmps31
    go_wp2
    go_ret
    exact ⟨_, rfl, by omega, by omega, rfl⟩
  · go_enter Try.func31, Try.ntmps31
    go_wp2
    go_loopw [3, 4] (fun t i wr => ∃ (k : Nat) (r : Int), k ≤ ss.length ∧ i = .int .i64 k ∧ t = .int .i64 r ∧ 0 ≤ r ∧ r ≤ 2097152 ∧ wr = w) (fun _ i _ => ss.length - (intOf i).toNat)
    case atStart => exact ⟨0, (ss.length : Int) * 16, by omega, rfl, by go_num, by omega, by omega, rfl⟩
    case round =>
      obtain ⟨k, r, hk, rfl, rfl, hr0, hr1, rfl⟩ := hrel
      by_cases hlt : k < ss.length
      · obtain ⟨b, off, rfl, hT, hcell⟩ := hpH.out (by omega)
        obtain ⟨x, hx⟩ : ∃ x, ss[k]? = some x := ⟨ss[k], by simp [hlt]⟩
        have q0 := cell_at hcell hx
        clear hcell hx hpH
        go_wp2_with (go_at_call 9; refine (c9 _ _ _ hr0).mono ?_; rintro e w' ⟨r', rfl, hr2, hr3, rfl⟩)
        go_roundw
        case rel => exact ⟨k + 1, r', by omega, by go_num, rfl, hr2, hr3, trivial⟩
        case measure => simp [intOf]; omega
      · go_wp2
        go_ret
        exact ⟨r, rfl, hr0, hr1, rfl⟩

set_option maxRecDepth 100000 in
/-- zzLedgerSize. -/
theorem c10 {T : Nat → Prop} (w : World) (v : Value) (ss : List ByteArray) (h : Strs T w v ss) (a1 a2 a3 a4 : Option Addr) (n1 n2 n3 n4 k1 k2 k3 k4 : Nat) (b1 : n1 ≤ 65536) (b2 : n2 ≤ 65536) (b3 : n3 ≤ 65536) (b4 : n4 ≤ 65536) :
    Calls Try.prog 10 #[v, .slice a1 n1 k1, .slice a2 n2 k2, .slice a3 n3 k3, .slice a4 n4 k4] w (RetSz w) := by
  have hc := c31 w v ss h
  obtain ⟨ao, c, rfl, _⟩ := h
  go_enter Try.func10, Try.ntmps10
  go_wp2_with fail
  refine hc.mono ?_
  rintro e w' ⟨r, rfl, hr2, hr3, rfl⟩
  go_wp2_with fail
  refine (c9 _ _ _ hr2).mono ?_
  rintro e w' ⟨r1, rfl, hr4, hr5, rfl⟩
  go_wp2_with fail
  refine (c9 _ _ _ hr4).mono ?_
  rintro e w' ⟨r2, rfl, hr6, hr7, rfl⟩
  go_wp2_with fail
  refine (c9 _ _ _ hr6).mono ?_
  rintro e w' ⟨r3, rfl, hr8, hr9, rfl⟩
  go_wp2_with fail
  refine (c9 _ _ _ hr8).mono ?_
  rintro e w' ⟨r4, rfl, hra, hrb, rfl⟩
  go_wp2
  go_ret
  exact ⟨r4, rfl, hra, hrb, rfl⟩

def RetShape (w : World) (n0 n1 n2 n3 n4 : Nat) (e : Ending) (w' : World) : Prop := ∃ b : Bool, e = .returned (.bool b) ∧ w' = w ∧ (b = true → n1 = n0 ∧ n2 = n0 ∧ n3 = n0 ∧ n4 = n0)
theorem RetShape.no (w : World) (n0 n1 n2 n3 n4 : Nat) : RetShape w n0 n1 n2 n3 n4 (.returned (.bool false)) w := ⟨_, rfl, rfl, fun h => by cases h⟩
theorem RetShape.of (w : World) {n0 n1 n2 n3 n4 : Nat} (h1 : n1 = n0) (h2 : n2 = n0) (h3 : n3 = n0) (b : Bool) (hb : b = true → n4 = n0) : RetShape w n0 n1 n2 n3 n4 (.returned (.bool b)) w := ⟨_, rfl, rfl, fun h => ⟨h1, h2, h3, hb h⟩⟩

set_option maxRecDepth 100000 in
/-- zzSameShape. -/
theorem c11 (w : World) (a0 a1 a2 a3 a4 : Option Addr) (n0 n1 n2 n3 n4 k0 k1 k2 k3 k4 : Nat) :
    Calls Try.prog 11 #[.slice a0 n0 k0, .slice a1 n1 k1, .slice a2 n2 k2, .slice a3 n3 k3, .slice a4 n4 k4] w (RetShape w n0 n1 n2 n3 n4) := by
  have no := RetShape.no w n0 n1 n2 n3 n4
  by_cases h1 : n1 = n0
  · by_cases h2 : n2 = n0
    · by_cases h3 : n3 = n0
      · have yes := RetShape.of w (n4 := n4) h1 h2 h3
        have d1 : ((n1 : Int) == (n0 : Int)) = true := by simp; omega
        have d2 : ((n2 : Int) == (n0 : Int)) = true := by simp; omega
        have d3 : ((n3 : Int) == (n0 : Int)) = true := by simp; omega
        have yesH := hid yes
        clear h1 h2 h3 yes no
        go_enter Try.func11, Try.ntmps11
        go_wp2
        go_ret
        exact yesH.out _ (fun h => by simp at h; omega)
      · have d1 : ((n1 : Int) == (n0 : Int)) = true := by simp; omega
        have d2 : ((n2 : Int) == (n0 : Int)) = true := by simp; omega
        have d3 : ((n3 : Int) == (n0 : Int)) = false := by simp; omega
        have noH := hid no
        clear h1 h2 h3 no
        go_enter Try.func11, Try.ntmps11
        go_wp2
        go_ret
        exact noH.out
    · have d1 : ((n1 : Int) == (n0 : Int)) = true := by simp; omega
      have d2 : ((n2 : Int) == (n0 : Int)) = false := by simp; omega
      have noH := hid no
      clear h1 h2 no
      go_enter Try.func11, Try.ntmps11
      go_wp2
      go_ret
      exact noH.out
  · have d1 : ((n1 : Int) == (n0 : Int)) = false := by simp; omega
    have noH := hid no
    clear h1 no
    go_enter Try.func11, Try.ntmps11
    go_wp2
    go_ret
    exact noH.out

/-- The first n names increase. -/
def IncN (ss : List ByteArray) (n : Nat) : Prop := ∀ i a b, i + 1 < n → ss[i]? = some a → ss[i + 1]? = some b → bless a b = true
def RetInc (w : World) (ss : List ByteArray) (n : Nat) (e : Ending) (w' : World) : Prop := ∃ b : Bool, e = .returned (.bool b) ∧ Qt w w' ∧ (b = true → IncN ss n)

set_option maxRecDepth 100000 in
/-- zzIncreasing. -/
theorem c12 {T : Nat → Prop} (w : World) (v : Value) (ss : List ByteArray) (n : Nat) (h : Strs T w v ss) (hn : n ≤ ss.length) (hb : ss.length ≤ 1048576) : Calls Try.prog 12 #[v, .int .i64 (n : Int)] w (RetInc w ss n) := by
  obtain ⟨ao, c, rfl, _, _, _, hp⟩ := h
  have hpH := hid hp
  clear hp
  go_enter Try.func12, Try.ntmps12
  go_wp2
  go_loopw [5] (fun i wr => ∃ k : Nat, 1 ≤ k ∧ (k ≤ n ∨ k = 1) ∧ i = .int .i64 k ∧ Qt w wr ∧ IncN ss k) (fun i _ => n - (intOf i).toNat)
  case atStart => exact ⟨1, by omega, Or.inr rfl, rfl, Qt.refl _, fun i a b hi => by omega⟩
  case round =>
    obtain ⟨k, hk1, hk, rfl, hq, hinc⟩ := hrel
    by_cases hlt : k < n
    · obtain ⟨b, off, rfl, hT, hcell⟩ := hpH.out (by omega)
      obtain ⟨x, hx⟩ : ∃ x, ss[k]? = some x := ⟨ss[k]'(by omega), by simp⟩
      obtain ⟨y, hy⟩ : ∃ y, ss[k - 1]? = some y := ⟨ss[k - 1]'(by omega), by simp⟩
      have q0 := (hq.cell _).trans (cell_at hcell hx)
      have q1 := (hq.cell _).trans (cell_at hcell hy)
      have hKH := hid (And.intro hq (And.intro hinc (And.intro hx hy)))
      have e1 : ((k : Int) - 1) = ((k - 1 : Nat) : Int) := by omega
      have e2 : wrap64 ((k : Int) - 1) = ((k - 1 : Nat) : Int) := by unfold wrap64; omega
      clear hcell hx hy hpH hq hinc
      cases hd : Op.bytesLess y.toList x.toList
      · go_wp2
        go_quiet (fail)
        go_wp2
        go_ret
        exact ⟨false, rfl, hKH.out.1.trans (Qt.drewN _ _), fun h => by cases h⟩
      · have hdH := hid hd
        go_wp2
        go_quiet (fail)
        go_wp2
        go_roundw
        case rel =>
          obtain ⟨hq, hinc, hx, hy⟩ := hKH.out
          refine ⟨k + 1, by omega, by omega, by go_num, hq.trans (Qt.drewN _ _), fun i a b hi ha hb' => ?_⟩
          by_cases hik : i + 1 < k
          · exact hinc i a b hik ha hb'
          · obtain rfl : i = k - 1 := by omega
            rw [hy] at ha
            rw [show k - 1 + 1 = k from by omega, hx] at hb'
            cases ha; cases hb'
            exact hdH.out
        case measure => simp [intOf]; omega
    · go_wp2
      go_ret
      exact ⟨true, rfl, hq, fun _ i a b hi => hinc i a b (by omega)⟩
end Go.Proofs.Qxb6601232a
