/-
  SEAT b6601153a. THE WALKS OF restoreBytesOK, zzBytes_FnRestore*. By an AI agent.
-/
import Derived.Test.Qxb6601153aBytes
namespace Go.Proofs.Qxb6601153a
open Go.RowKit
set_option linter.unusedVariables false

set_option maxRecDepth 100000 in
/-- restoreBytesOK. -/
theorem c26 {T : Nat → Prop} (w : World) (v1 v2 v3 v4 : Value) (rs : List Raw) (ns ns3 ns4 : List Int) (h1 : Ents T w v1 rs) (h2 : U64s T w v2 ns) (h3 : U64s T w v3 ns3) (h4 : U64s T w v4 ns4) :
    Calls Try.prog 26 #[v1, v2, v3, v4] w (RetB w fun _ => True) := by
  obtain ⟨ao, c, rfl, hnc, hcm, _, hp⟩ := h2
  obtain ⟨ao3, c3, rfl, hnc3, hcm3, _, hp3⟩ := h3
  obtain ⟨ao4, c4, rfl, hnc4, hcm4, _, hp4⟩ := h4
  clear hp hp3 hp4
  unfold maxLen at hcm hcm3 hcm4
  go_enter Try.func26, Try.ntmps26
  go_wp2_with fail
  refine (c32 (T := T) _ v1 rs h1).mono ?_
  rintro e w' ⟨t, b, rfl, nq, rfl⟩
  cases b
  · go_wp2
    go_ret
    exact ⟨_, rfl, Qt.drewN _ _, trivial⟩
  · go_wp2
    go_ret
    exact ⟨_, rfl, Qt.drewN _ _, trivial⟩

set_option maxRecDepth 100000 in
set_option maxHeartbeats 2000000 in
/-- zzBytes_FnRestoreMatchesModel. -/
theorem c25 {T : Nat → Prop} (w : World) (x0 x1 x2 x5 x6 x7 x8 x11 v3 v4 v9 v10 : Value) (rs : List Raw) (ns vs ls : List Int) (h1 : Ents T w v3 rs) (h2 : U64s T w v4 ns) (h3 : U64s T w v9 vs) (h4 : U64s T w v10 ls) :
    Calls Try.prog 25 #[x0, x1, x2, v3, v4, x5, x6, x7, x8, v9, v10, x11] w (RetB w fun b => b = true → rs.length ≤ 1048576 ∧ (∀ r ∈ rs, r.cmd.length ≤ 1048576) ∧ ns.length ≤ 1048576 ∧ vs.length ≤ 1048576 ∧ ls.length ≤ 1048576) := by
  obtain ⟨⟨ao, c, rfl, hnc, hcm, _, hp⟩, hc⟩ := h1
  obtain ⟨ao2, c2, rfl, hnc2, hcm2, _, hp2⟩ := h2
  obtain ⟨ao3, c3, rfl, hnc3, hcm3, _, hp3⟩ := h3
  obtain ⟨ao4, c4, rfl, hnc4, hcm4, _, hp4⟩ := h4
  unfold maxLen at hcm hcm2 hcm3 hcm4
  have hpH : Hid (0 < rs.length → ∃ b off, ao = some ⟨b, off, none⟩ ∧ T b ∧ ∀ j u, (flat rs)[j]? = some u → w.cell? ⟨b, off + j, none⟩ = some u) := hp
  have hcH : Hid (∀ r ∈ rs, U8s T w r.cv r.cmd) := hc
  clear hp hc hp2 hp3 hp4
  by_cases hb : 1048576 < rs.length
  · go_enter Try.func25, Try.ntmps25
    go_wp2
    go_ret
    exact ⟨_, rfl, Qt.refl _, by simp⟩
  go_enter Try.func25, Try.ntmps25
  go_wp2
  go_loop [25, 26] (fun t i => ∃ k : Nat, k ≤ rs.length ∧ i = .int .i64 k ∧ (∃ m : Nat, t = .int .i64 m ∧ m ≤ 1048576) ∧ ∀ r ∈ rs.take k, r.cmd.length ≤ 1048576) (fun _ i => rs.length - (intOf i).toNat)
  case atStart => exact ⟨0, by omega, rfl, ⟨rs.length, rfl, by omega⟩, by simp⟩
  case round =>
    obtain ⟨k, hk, rfl, ⟨m, rfl, hm⟩, hall⟩ := hrel
    have hallH : Hid (∀ r ∈ rs.take k, r.cmd.length ≤ 1048576) := hall
    clear hall
    by_cases hlt : k < rs.length
    · obtain ⟨b, off, r, a2, c2, rfl, hr, hq, hl⟩ := ents_cmd hpH.out hcH.out hlt
      unfold maxLen at hl
      have hrH : Hid (rs[k]? = some r) := hr
      clear hpH hcH hr
      by_cases h2 : 1048576 < r.cmd.length
      · go_wp2
        go_ret
        exact ⟨_, rfl, Qt.refl _, by simp⟩
      · by_cases h3 : 1048576 < m + r.cmd.length
        · go_wp2
          go_ret
          exact ⟨_, rfl, Qt.refl _, by simp⟩
        · go_wp2
          go_round
          case rel => exact ⟨k + 1, by omega, by go_num, ⟨m + r.cmd.length, by go_num, by omega⟩, take_all hallH.out hrH.out (by omega)⟩
          case measure => simp [intOf]; omega
    · have hA : Hid (∀ r ∈ rs, r.cmd.length ≤ 1048576) := by
        have := hallH.out
        rwa [List.take_of_length_le (by omega)] at this
      clear hallH hpH hcH
      by_cases h2 : 1048576 < ns.length
      · go_wp2
        go_ret
        exact ⟨_, rfl, Qt.refl _, by simp⟩
      by_cases h3 : 1048576 < m + ns.length
      · go_wp2
        go_ret
        exact ⟨_, rfl, Qt.refl _, by simp⟩
      by_cases h4 : 1048576 < vs.length
      · go_wp2
        go_ret
        exact ⟨_, rfl, Qt.refl _, by simp⟩
      by_cases h5 : 1048576 < m + ns.length + vs.length
      · go_wp2
        go_ret
        exact ⟨_, rfl, Qt.refl _, by simp⟩
      by_cases h6 : 1048576 < ls.length
      · go_wp2
        go_ret
        exact ⟨_, rfl, Qt.refl _, by simp⟩
      by_cases h7 : 1048576 < m + ns.length + vs.length + ls.length
      · go_wp2
        go_ret
        exact ⟨_, rfl, Qt.refl _, by simp⟩
      go_wp2
      go_ret
      exact ⟨_, rfl, Qt.refl _, fun _ => ⟨by omega, hA.out, by omega, by omega, by omega⟩⟩

set_option maxRecDepth 100000 in
set_option maxHeartbeats 2000000 in
/-- zzBytes_FnRestoreLeavesSoundLogAndIsIdempotent. -/
theorem c30 {T : Nat → Prop} (w : World) (x0 x1 x2 x5 x6 x7 x8 x11 v3 v4 v9 v10 : Value) (rs : List Raw) (ns vs ls : List Int) (h1 : Ents T w v3 rs) (h2 : U64s T w v4 ns) (h3 : U64s T w v9 vs) (h4 : U64s T w v10 ls) :
    Calls Try.prog 30 #[x0, x1, x2, v3, v4, x5, x6, x7, x8, v9, v10, x11] w (RetB w fun b => b = true → rs.length ≤ 1048576 ∧ (∀ r ∈ rs, r.cmd.length ≤ 1048576) ∧ ns.length ≤ 1048576 ∧ vs.length ≤ 1048576 ∧ ls.length ≤ 1048576) := by
  obtain ⟨⟨ao, c, rfl, hnc, hcm, _, hp⟩, hc⟩ := h1
  obtain ⟨ao2, c2, rfl, hnc2, hcm2, _, hp2⟩ := h2
  obtain ⟨ao3, c3, rfl, hnc3, hcm3, _, hp3⟩ := h3
  obtain ⟨ao4, c4, rfl, hnc4, hcm4, _, hp4⟩ := h4
  unfold maxLen at hcm hcm2 hcm3 hcm4
  have hpH : Hid (0 < rs.length → ∃ b off, ao = some ⟨b, off, none⟩ ∧ T b ∧ ∀ j u, (flat rs)[j]? = some u → w.cell? ⟨b, off + j, none⟩ = some u) := hp
  have hcH : Hid (∀ r ∈ rs, U8s T w r.cv r.cmd) := hc
  clear hp hc hp2 hp3 hp4
  by_cases hb : 1048576 < rs.length
  · go_enter Try.func30, Try.ntmps30
    go_wp2
    go_ret
    exact ⟨_, rfl, Qt.refl _, by simp⟩
  go_enter Try.func30, Try.ntmps30
  go_wp2
  go_loop [25, 26] (fun t i => ∃ k : Nat, k ≤ rs.length ∧ i = .int .i64 k ∧ (∃ m : Nat, t = .int .i64 m ∧ m ≤ 1048576) ∧ ∀ r ∈ rs.take k, r.cmd.length ≤ 1048576) (fun _ i => rs.length - (intOf i).toNat)
  case atStart => exact ⟨0, by omega, rfl, ⟨rs.length, rfl, by omega⟩, by simp⟩
  case round =>
    obtain ⟨k, hk, rfl, ⟨m, rfl, hm⟩, hall⟩ := hrel
    have hallH : Hid (∀ r ∈ rs.take k, r.cmd.length ≤ 1048576) := hall
    clear hall
    by_cases hlt : k < rs.length
    · obtain ⟨b, off, r, a2, c2, rfl, hr, hq, hl⟩ := ents_cmd hpH.out hcH.out hlt
      unfold maxLen at hl
      have hrH : Hid (rs[k]? = some r) := hr
      clear hpH hcH hr
      by_cases h2 : 1048576 < r.cmd.length
      · go_wp2
        go_ret
        exact ⟨_, rfl, Qt.refl _, by simp⟩
      · by_cases h3 : 1048576 < m + r.cmd.length
        · go_wp2
          go_ret
          exact ⟨_, rfl, Qt.refl _, by simp⟩
        · go_wp2
          go_round
          case rel => exact ⟨k + 1, by omega, by go_num, ⟨m + r.cmd.length, by go_num, by omega⟩, take_all hallH.out hrH.out (by omega)⟩
          case measure => simp [intOf]; omega
    · have hA : Hid (∀ r ∈ rs, r.cmd.length ≤ 1048576) := by
        have := hallH.out
        rwa [List.take_of_length_le (by omega)] at this
      clear hallH hpH hcH
      by_cases h2 : 1048576 < ns.length
      · go_wp2
        go_ret
        exact ⟨_, rfl, Qt.refl _, by simp⟩
      by_cases h3 : 1048576 < m + ns.length
      · go_wp2
        go_ret
        exact ⟨_, rfl, Qt.refl _, by simp⟩
      by_cases h4 : 1048576 < vs.length
      · go_wp2
        go_ret
        exact ⟨_, rfl, Qt.refl _, by simp⟩
      by_cases h5 : 1048576 < m + ns.length + vs.length
      · go_wp2
        go_ret
        exact ⟨_, rfl, Qt.refl _, by simp⟩
      by_cases h6 : 1048576 < ls.length
      · go_wp2
        go_ret
        exact ⟨_, rfl, Qt.refl _, by simp⟩
      by_cases h7 : 1048576 < m + ns.length + vs.length + ls.length
      · go_wp2
        go_ret
        exact ⟨_, rfl, Qt.refl _, by simp⟩
      go_wp2
      go_ret
      exact ⟨_, rfl, Qt.refl _, fun _ => ⟨by omega, hA.out, by omega, by omega, by omega⟩⟩

end Go.Proofs.Qxb6601153a
