/-
  SEAT b6601232a. THE SIZES AGAIN, WITH WHAT A SMALL ONE SAYS. By an AI agent.
-/
import Derived.Test.Qxb6601232aNest
namespace Go.Proofs.Qxb6601232a
open Go.RowKit
set_option linter.unusedVariables false
set_option linter.unusedSimpArgs false

def RetSzP (w : World) (p : Prop) (e : Ending) (w' : World) : Prop := ∃ r : Int, e = .returned (.int .i64 r) ∧ 0 ≤ r ∧ r ≤ 2097152 ∧ w' = w ∧ (r ≤ 1048576 → p)

set_option maxRecDepth 100000 in
/-- zzAdd. -/
theorem c9b (w : World) (t n : Int) (h0 : 0 ≤ t) : Calls Try.prog 9 #[.int .i64 t, .int .i64 n] w (RetSzP w (t ≤ 1048576 ∧ n ≤ 1048576)) := by
  by_cases h1 : 1048576 < t
  · go_enter Try.func9, Try.ntmps9
    go_wp2
    go_ret
    exact ⟨_, rfl, by omega, by omega, rfl, fun h => by omega⟩
  · by_cases h2 : 1048576 < n
    · go_enter Try.func9, Try.ntmps9
      go_wp2
      go_ret
      exact ⟨_, rfl, by omega, by omega, rfl, fun h => by omega⟩
    · by_cases h3 : n < 0
      · go_enter Try.func9, Try.ntmps9
        go_wp2
        go_ret
        exact ⟨_, rfl, by omega, by omega, rfl, fun h => by omega⟩
      · go_enter Try.func9, Try.ntmps9
        go_wp2
        go_ret
        exact ⟨t + n, by go_num, by omega, by omega, rfl, fun h => by first | exact trivial | exact ⟨by omega, by omega⟩⟩

set_option maxRecDepth 100000 in
/-- zzStringsSize. -/
theorem c31b {T : Nat → Prop} (w : World) (v : Value) (ss : List ByteArray) (h : Strs T w v ss) : Calls Try.prog 31 #[v] w (RetSzP w (ss.length ≤ 65536)) := by
  obtain ⟨ao, c, rfl, _, _, _, hp⟩ := h
  have hpH := hid hp
  clear hp
  by_cases h1 : 65536 < ss.length
  · go_enter Try.func31, Try.ntmps31
    go_wp2
    go_ret
    exact ⟨_, rfl, by omega, by omega, rfl, fun h => by omega⟩
  · go_enter Try.func31, Try.ntmps31
    go_wp2
    go_loopw [3, 4] (fun t i wr => ∃ (k : Nat) (r : Int), k ≤ ss.length ∧ i = .int .i64 k ∧ t = .int .i64 r ∧ 0 ≤ r ∧ r ≤ 2097152 ∧ wr = w) (fun _ i _ => ss.length - (intOf i).toNat)
    case atStart => exact ⟨0, (ss.length : Int) * 16, by omega, rfl, by go_num, by omega, by omega, rfl⟩
    case round =>
      obtain ⟨k, r, hk, rfl, rfl, hr0, hr1, rfl⟩ := hrel
      by_cases hlt : k < ss.length
      · obtain ⟨b, off, rfl, hT, hcell⟩ := hpH.out (by omega)
        obtain ⟨x, hx⟩ : ∃ x, ss[k]? = some x := ⟨ss[k], by simp [hlt]⟩
        have q0 := cell_at hcell hx
        clear hcell hx hpH
        go_wp2_with (go_at_call 9; refine (c9 _ _ _ hr0).mono ?_; rintro e w' ⟨r', rfl, hr2, hr3, rfl⟩)
        go_roundw
        case rel => exact ⟨k + 1, r', by omega, by go_num, rfl, hr2, hr3, trivial⟩
        case measure => simp [intOf]; omega
      · go_wp2
        go_ret
        exact ⟨r, rfl, hr0, hr1, rfl, fun _ => by omega⟩

set_option maxRecDepth 100000 in
/-- zzNestedStringsSize. -/
theorem c36b (w : World) (v : Value) (xss : List (List ByteArray)) (h : Nest Value.string All w v xss) : Calls Try.prog 36 #[v] w (RetSzP w (∀ xs ∈ xss, xs.length ≤ 65536)) := by
  obtain ⟨vs, ⟨ao, c, rfl, _, _, _, hp⟩, hvl, hin⟩ := h
  have hpH := hid (And.intro hp (And.intro hin hvl))
  clear hp hin hvl
  by_cases h1 : 65536 < xss.length
  · go_enter Try.func36, Try.ntmps36
    go_wp2
    go_ret
    exact ⟨_, rfl, by omega, by omega, rfl, fun h => by omega⟩
  · go_enter Try.func36, Try.ntmps36
    go_wp2
    go_loopw [3, 4] (fun t i wr => ∃ (k : Nat) (r : Int), k ≤ xss.length ∧ i = .int .i64 k ∧ t = .int .i64 r ∧ 0 ≤ r ∧ r ≤ 2097152 ∧ w = wr ∧ (r ≤ 1048576 → ∀ xs ∈ xss.take k, xs.length ≤ 65536)) (fun _ i _ => xss.length - (intOf i).toNat)
    case atStart => exact ⟨0, (xss.length : Int) * 24, by omega, rfl, by go_num, by omega, by omega, rfl, fun _ => by simp⟩
    case round =>
      obtain ⟨k, r, hk, rfl, rfl, hr0, hr1, rfl, hin0⟩ := hrel
      have hinH := hid hin0
      clear hin0
      by_cases hlt : k < xss.length
      · obtain ⟨hp, hin, hvl⟩ := hpH.out
        obtain ⟨b, off, rfl, hT, hcell⟩ := hp (by omega)
        obtain ⟨xs, hx⟩ : ∃ x, xss[k]? = some x := ⟨xss[k], by simp [hlt]⟩
        obtain ⟨u, hu⟩ : ∃ x, vs[k]? = some x := ⟨vs[k]'(by omega), by simp⟩
        have q0 := hcell k u hu
        have hc := c31b w u xs (hin k u xs hu hx)
        have hxH := hid hx
        clear hcell hx hpH hp hin hu
        go_wp2_with (first | (go_at_call 31; refine hc.mono ?_; rintro e w' ⟨r1, rfl, hr4, hr5, hw, hP1⟩; obtain rfl : w = w' := hw.symm) | (go_at_call 9; refine (c9b _ _ _ hr0).mono ?_; rintro e w' ⟨r', rfl, hr2, hr3, hw, hP2⟩; obtain rfl : w = w' := hw.symm))
        go_roundw
        case rel =>
          refine ⟨k + 1, r', by omega, by go_num, rfl, hr2, hr3, trivial, fun h => ?_⟩
          obtain ⟨p1, p2⟩ := hP2 h
          rw [List.take_add_one, hxH.out]
          intro ys hy
          simp only [Option.toList_some, List.mem_append, List.mem_singleton] at hy
          rcases hy with hy | rfl
          · exact hinH.out p1 ys hy
          · exact hP1 p2
        case measure => simp [intOf]; omega
      · go_wp2
        go_ret
        refine ⟨r, rfl, hr0, hr1, rfl, fun h => ?_⟩
        have h2 := hinH.out h
        rwa [List.take_of_length_le (by omega)] at h2

set_option maxRecDepth 100000 in
/-- zzNestedInt64Size. -/
theorem c37b (w : World) (v : Value) (xss : List (List Int)) (h : Nest (Value.int .i64) All w v xss) : Calls Try.prog 37 #[v] w (RetSzP w (∀ xs ∈ xss, xs.length ≤ 65536)) := by
  obtain ⟨vs, ⟨ao, c, rfl, _, _, _, hp⟩, hvl, hin⟩ := h
  have hpH := hid (And.intro hp (And.intro hin hvl))
  clear hp hin hvl
  by_cases h1 : 65536 < xss.length
  · go_enter Try.func37, Try.ntmps37
    go_wp2
    go_ret
    exact ⟨_, rfl, by omega, by omega, rfl, fun h => by omega⟩
  · go_enter Try.func37, Try.ntmps37
    go_wp2
    go_loopw [3, 4] (fun t i wr => ∃ (k : Nat) (r : Int), k ≤ xss.length ∧ i = .int .i64 k ∧ t = .int .i64 r ∧ 0 ≤ r ∧ r ≤ 2097152 ∧ w = wr ∧ (r ≤ 1048576 → ∀ xs ∈ xss.take k, xs.length ≤ 65536)) (fun _ i _ => xss.length - (intOf i).toNat)
    case atStart => exact ⟨0, (xss.length : Int) * 24, by omega, rfl, by go_num, by omega, by omega, rfl, fun _ => by simp⟩
    case round =>
      obtain ⟨k, r, hk, rfl, rfl, hr0, hr1, rfl, hin0⟩ := hrel
      have hinH := hid hin0
      clear hin0
      by_cases hlt : k < xss.length
      · obtain ⟨hp, hin, hvl⟩ := hpH.out
        obtain ⟨b, off, rfl, hT, hcell⟩ := hp (by omega)
        obtain ⟨xs, hx⟩ : ∃ x, xss[k]? = some x := ⟨xss[k], by simp [hlt]⟩
        obtain ⟨u, hu⟩ : ∃ x, vs[k]? = some x := ⟨vs[k]'(by omega), by simp⟩
        have q0 := hcell k u hu
        obtain ⟨ua, uc, rfl, _⟩ := hin k u xs hu hx
        have hxH := hid hx
        clear hcell hx hpH hp hin hu
        by_cases hl : 65536 < xs.length
        · go_wp2
          go_ret
          exact ⟨_, rfl, by omega, by omega, rfl, fun h => by omega⟩
        · go_wp2_with (go_at_call 9; refine (c9b _ _ _ hr0).mono ?_; rintro e w' ⟨r', rfl, hr2, hr3, hw, hP2⟩; obtain rfl : w = w' := hw.symm)
          go_roundw
          case rel =>
            refine ⟨k + 1, r', by omega, by go_num, rfl, hr2, hr3, trivial, fun h => ?_⟩
            obtain ⟨p1, p2⟩ := hP2 h
            rw [List.take_add_one, hxH.out]
            intro ys hy
            simp only [Option.toList_some, List.mem_append, List.mem_singleton] at hy
            rcases hy with hy | rfl
            · exact hinH.out p1 ys hy
            · omega
          case measure => simp [intOf]; omega
      · go_wp2
        go_ret
        refine ⟨r, rfl, hr0, hr1, rfl, fun h => ?_⟩
        have h2 := hinH.out h
        rwa [List.take_of_length_le (by omega)] at h2


end Go.Proofs.Qxb6601232a
