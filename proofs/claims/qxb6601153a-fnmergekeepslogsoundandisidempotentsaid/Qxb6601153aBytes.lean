/-
  SEAT b6601153a. THE WALKS OF THE FUNCTIONS THAT COUNT BYTES: entsBytes, mergeBytesOK, restoreBytesOK, zzBytes_Fn*. By an AI agent.
-/
import Derived.Test.Qxb6601153aBase
namespace Go.Proofs.Qxb6601153a
open Go.RowKit
set_option linter.unusedVariables false

/-- The k-th entry's command, as its length is asked for. -/
theorem ents_cmd {T : Nat → Prop} {w : World} {ao : Option Addr} {rs : List Raw} (hp : 0 < rs.length → ∃ b off, ao = some ⟨b, off, none⟩ ∧ T b ∧ ∀ j u, (flat rs)[j]? = some u → w.cell? ⟨b, off + j, none⟩ = some u)
    (hc : ∀ r ∈ rs, U8s T w r.cv r.cmd) {k : Nat} (hk : k < rs.length) :
    ∃ b off r a2 c2, ao = some ⟨b, off, none⟩ ∧ rs[k]? = some r ∧ w.cell? ⟨b, off + k * 4 + 2, none⟩ = some (.slice a2 r.cmd.length c2) ∧ r.cmd.length ≤ maxLen := by
  obtain ⟨b, off, rfl, _, hcell⟩ := hp (by omega)
  obtain ⟨r, hr⟩ : ∃ r, rs[k]? = some r := ⟨rs[k], by simp [hk]⟩
  obtain ⟨a2, c2, hcv, h1, h2, _⟩ := hc r (List.mem_of_getElem? hr)
  obtain ⟨_, _, q, _⟩ := ents_cells hcell hr
  exact ⟨b, off, r, a2, c2, rfl, hr, by rw [q, hcv], Nat.le_trans h1 h2⟩

theorem take_all {p : Raw → Prop} {rs : List Raw} {k : Nat} {r : Raw} (h : ∀ x ∈ rs.take k, p x) (hr : rs[k]? = some r) (hp : p r) : ∀ x ∈ rs.take (k + 1), p x := by
  intro x hx
  rw [List.take_add_one, hr] at hx
  rcases List.mem_append.1 hx with hx | hx
  · exact h x hx
  · simp at hx; subst hx; exact hp

set_option maxRecDepth 100000 in
set_option maxHeartbeats 1000000 in
/-- entsBytes. -/
theorem c32 {T : Nat → Prop} (w : World) (v : Value) (rs : List Raw) (h : Ents T w v rs) :
    Calls Try.prog 32 #[v] w (RetIB w) := by
  obtain ⟨⟨ao, c, rfl, hnc, hcm, _, hp⟩, hc⟩ := h
  unfold maxLen at hcm
  have hpH : Hid (0 < rs.length → ∃ b off, ao = some ⟨b, off, none⟩ ∧ T b ∧ ∀ j u, (flat rs)[j]? = some u → w.cell? ⟨b, off + j, none⟩ = some u) := hp
  have hcH : Hid (∀ r ∈ rs, U8s T w r.cv r.cmd) := hc
  clear hp hc
  by_cases hb : 1048576 < rs.length
  · go_enter Try.func32, Try.ntmps32
    go_wp2
    go_ret2
    exact ⟨_, _, rfl, Qt.refl _⟩
  · by_cases hb2 : 1048576 < 48 * rs.length
    · go_enter Try.func32, Try.ntmps32
      go_wp2
      go_ret2
      exact ⟨_, _, rfl, Qt.refl _⟩
    · go_enter Try.func32, Try.ntmps32
      go_wp2
      go_loop [4, 5] (fun t i => ∃ k : Nat, k ≤ rs.length ∧ i = .int .i64 k ∧ ∃ m : Nat, t = .int .i64 m ∧ m ≤ 1048576) (fun _ i => rs.length - (intOf i).toNat)
      case atStart => exact ⟨0, by omega, rfl, 48 * rs.length, by go_num, by omega⟩
      case round =>
        obtain ⟨k, hk, rfl, m, rfl, hm⟩ := hrel
        by_cases hlt : k < rs.length
        · obtain ⟨b, off, r, a2, c2, rfl, hr, hq, hl⟩ := ents_cmd hpH.out hcH.out hlt
          unfold maxLen at hl
          clear hpH hcH hr
          by_cases h2 : 1048576 < r.cmd.length
          · go_wp2
            go_ret2
            exact ⟨_, _, rfl, Qt.refl _⟩
          · by_cases h3 : 1048576 < m + r.cmd.length
            · go_wp2
              go_ret2
              exact ⟨_, _, rfl, Qt.refl _⟩
            · go_wp2
              go_round
              case rel => exact ⟨k + 1, by omega, by go_num, m + r.cmd.length, by go_num, by omega⟩
              case measure => simp [intOf]; omega
        · go_wp2
          go_ret2
          exact ⟨_, _, rfl, Qt.refl _⟩

set_option maxRecDepth 100000 in
/-- mergeBytesOK. -/
theorem c8 {T : Nat → Prop} (w : World) (v1 v2 v3 : Value) (rs ap : List Raw) (ns : List Int) (h1 : Ents T w v1 rs) (h2 : U64s T w v2 ns) (h3 : Ents T w v3 ap) :
    Calls Try.prog 8 #[v1, v2, v3] w (RetB w fun _ => True) := by
  obtain ⟨ao, c, rfl, hnc, hcm, _, hp⟩ := h2
  clear hp
  unfold maxLen at hcm
  go_enter Try.func8, Try.ntmps8
  go_wp2_with fail
  refine (c32 (T := T) _ v1 rs h1).mono ?_
  rintro e w' ⟨t, b, rfl, nq, rfl⟩
  cases b
  · go_wp2
    go_ret
    exact ⟨_, rfl, Qt.drewN _ _, trivial⟩
  · go_wp2_with fail
    refine (c32 (T := T) _ v3 ap (h3.fr (Fr.drewN _ _ _))).mono ?_
    rintro e w' ⟨t2, b, rfl, nq2, rfl⟩
    cases b
    · go_wp2
      go_ret
      exact ⟨_, rfl, Qt.drewN _ _, trivial⟩
    · go_wp2
      go_ret
      exact ⟨_, rfl, Qt.drewN _ _, trivial⟩

set_option maxRecDepth 100000 in
set_option maxHeartbeats 2000000 in
/-- zzBytes_FnMergeReplacesFromFirstConflict. -/
theorem c7 {T : Nat → Prop} (w : World) (x0 x1 x2 x5 x6 v3 v4 v7 : Value) (rs ap : List Raw) (ns : List Int) (h1 : Ents T w v3 rs) (h2 : U64s T w v4 ns) (h3 : Ents T w v7 ap) :
    Calls Try.prog 7 #[x0, x1, x2, v3, v4, x5, x6, v7] w (RetB w fun b => b = true → rs.length ≤ 1048576 ∧ (∀ r ∈ rs, r.cmd.length ≤ 1048576) ∧ ns.length ≤ 1048576 ∧ ap.length ≤ 1048576 ∧ (∀ r ∈ ap, r.cmd.length ≤ 1048576)) := by
  obtain ⟨⟨ao, c, rfl, hnc, hcm, _, hp⟩, hc⟩ := h1
  obtain ⟨ao2, c2, rfl, hnc2, hcm2, _, hp2⟩ := h2
  obtain ⟨⟨ao3, c3, rfl, hnc3, hcm3, _, hp3⟩, hc3⟩ := h3
  unfold maxLen at hcm hcm2 hcm3
  have hpH : Hid (0 < rs.length → ∃ b off, ao = some ⟨b, off, none⟩ ∧ T b ∧ ∀ j u, (flat rs)[j]? = some u → w.cell? ⟨b, off + j, none⟩ = some u) := hp
  have hcH : Hid (∀ r ∈ rs, U8s T w r.cv r.cmd) := hc
  have hpH3 : Hid (0 < ap.length → ∃ b off, ao3 = some ⟨b, off, none⟩ ∧ T b ∧ ∀ j u, (flat ap)[j]? = some u → w.cell? ⟨b, off + j, none⟩ = some u) := hp3
  have hcH3 : Hid (∀ r ∈ ap, U8s T w r.cv r.cmd) := hc3
  clear hp hc hp2 hp3 hc3
  by_cases hb : 1048576 < rs.length
  · go_enter Try.func7, Try.ntmps7
    go_wp2
    go_ret
    exact ⟨_, rfl, Qt.refl _, by simp⟩
  go_enter Try.func7, Try.ntmps7
  go_wp2
  go_loop [17, 18] (fun t i => ∃ k : Nat, k ≤ rs.length ∧ i = .int .i64 k ∧ (∃ m : Nat, t = .int .i64 m ∧ m ≤ 1048576) ∧ ∀ r ∈ rs.take k, r.cmd.length ≤ 1048576) (fun _ i => rs.length - (intOf i).toNat)
  case atStart => exact ⟨0, by omega, rfl, ⟨rs.length, rfl, by omega⟩, by simp⟩
  case round =>
    obtain ⟨k, hk, rfl, ⟨m, rfl, hm⟩, hall⟩ := hrel
    have hallH : Hid (∀ r ∈ rs.take k, r.cmd.length ≤ 1048576) := hall
    clear hall
    by_cases hlt : k < rs.length
    · obtain ⟨b, off, r, a2, c2, rfl, hr, hq, hl⟩ := ents_cmd hpH.out hcH.out hlt
      unfold maxLen at hl
      have hrH : Hid (rs[k]? = some r) := hr
      clear hpH hcH hr hpH3 hcH3
      by_cases h2 : 1048576 < r.cmd.length
      · go_wp2
        go_ret
        exact ⟨_, rfl, Qt.refl _, by simp⟩
      · by_cases h3 : 1048576 < m + r.cmd.length
        · go_wp2
          go_ret
          exact ⟨_, rfl, Qt.refl _, by simp⟩
        · go_wp2
          go_round
          case rel => exact ⟨k + 1, by omega, by go_num, ⟨m + r.cmd.length, by go_num, by omega⟩, take_all hallH.out hrH.out (by omega)⟩
          case measure => simp [intOf]; omega
    · have hA : Hid (∀ r ∈ rs, r.cmd.length ≤ 1048576) := by
        have := hallH.out
        rwa [List.take_of_length_le (by omega)] at this
      clear hallH hpH hcH
      by_cases h2 : 1048576 < ns.length
      · go_wp2
        go_ret
        exact ⟨_, rfl, Qt.refl _, by simp⟩
      by_cases h3 : 1048576 < m + ns.length
      · go_wp2
        go_ret
        exact ⟨_, rfl, Qt.refl _, by simp⟩
      by_cases h4 : 1048576 < ap.length
      · go_wp2
        go_ret
        exact ⟨_, rfl, Qt.refl _, by simp⟩
      by_cases h5 : 1048576 < m + ns.length + ap.length
      · go_wp2
        go_ret
        exact ⟨_, rfl, Qt.refl _, by simp⟩
      go_wp2
      go_loop [17, 19] (fun t i => ∃ k : Nat, k ≤ ap.length ∧ i = .int .i64 k ∧ (∃ m : Nat, t = .int .i64 m ∧ m ≤ 1048576) ∧ ∀ r ∈ ap.take k, r.cmd.length ≤ 1048576) (fun _ i => ap.length - (intOf i).toNat)
      case atStart => exact ⟨0, by omega, rfl, ⟨m + ns.length + ap.length, by go_num, by omega⟩, by simp⟩
      case round =>
        obtain ⟨k3, hk3, rfl, ⟨m3, rfl, hm3⟩, hall⟩ := hrel
        have hallH : Hid (∀ r ∈ ap.take k3, r.cmd.length ≤ 1048576) := hall
        clear hall
        by_cases hlt3 : k3 < ap.length
        · obtain ⟨b, off, r, a2, c2, rfl, hr, hq, hl⟩ := ents_cmd hpH3.out hcH3.out hlt3
          unfold maxLen at hl
          have hrH : Hid (ap[k3]? = some r) := hr
          clear hpH3 hcH3 hr
          by_cases h2 : 1048576 < r.cmd.length
          · go_wp2
            go_ret
            exact ⟨_, rfl, Qt.refl _, by simp⟩
          · by_cases h3 : 1048576 < m3 + r.cmd.length
            · go_wp2
              go_ret
              exact ⟨_, rfl, Qt.refl _, by simp⟩
            · go_wp2
              go_round
              case rel => exact ⟨k3 + 1, by omega, by go_num, ⟨m3 + r.cmd.length, by go_num, by omega⟩, take_all hallH.out hrH.out (by omega)⟩
              case measure => simp [intOf]; omega
        · go_wp2
          go_ret
          have hB := hallH.out
          rw [List.take_of_length_le (by omega)] at hB
          exact ⟨_, rfl, Qt.refl _, fun _ => ⟨by omega, hA.out, by omega, by omega, hB⟩⟩

set_option maxRecDepth 100000 in
set_option maxHeartbeats 2000000 in
/-- zzBytes_FnMergeKeepsLogSoundAndIsIdempotent. -/
theorem c19 {T : Nat → Prop} (w : World) (x0 x1 x2 x5 x6 v3 v4 v7 : Value) (rs ap : List Raw) (ns : List Int) (h1 : Ents T w v3 rs) (h2 : U64s T w v4 ns) (h3 : Ents T w v7 ap) :
    Calls Try.prog 19 #[x0, x1, x2, v3, v4, x5, x6, v7] w (RetB w fun b => b = true → rs.length ≤ 1048576 ∧ (∀ r ∈ rs, r.cmd.length ≤ 1048576) ∧ ns.length ≤ 1048576 ∧ ap.length ≤ 1048576 ∧ (∀ r ∈ ap, r.cmd.length ≤ 1048576)) := by
  obtain ⟨⟨ao, c, rfl, hnc, hcm, _, hp⟩, hc⟩ := h1
  obtain ⟨ao2, c2, rfl, hnc2, hcm2, _, hp2⟩ := h2
  obtain ⟨⟨ao3, c3, rfl, hnc3, hcm3, _, hp3⟩, hc3⟩ := h3
  unfold maxLen at hcm hcm2 hcm3
  have hpH : Hid (0 < rs.length → ∃ b off, ao = some ⟨b, off, none⟩ ∧ T b ∧ ∀ j u, (flat rs)[j]? = some u → w.cell? ⟨b, off + j, none⟩ = some u) := hp
  have hcH : Hid (∀ r ∈ rs, U8s T w r.cv r.cmd) := hc
  have hpH3 : Hid (0 < ap.length → ∃ b off, ao3 = some ⟨b, off, none⟩ ∧ T b ∧ ∀ j u, (flat ap)[j]? = some u → w.cell? ⟨b, off + j, none⟩ = some u) := hp3
  have hcH3 : Hid (∀ r ∈ ap, U8s T w r.cv r.cmd) := hc3
  clear hp hc hp2 hp3 hc3
  by_cases hb : 1048576 < rs.length
  · go_enter Try.func19, Try.ntmps19
    go_wp2
    go_ret
    exact ⟨_, rfl, Qt.refl _, by simp⟩
  go_enter Try.func19, Try.ntmps19
  go_wp2
  go_loop [17, 18] (fun t i => ∃ k : Nat, k ≤ rs.length ∧ i = .int .i64 k ∧ (∃ m : Nat, t = .int .i64 m ∧ m ≤ 1048576) ∧ ∀ r ∈ rs.take k, r.cmd.length ≤ 1048576) (fun _ i => rs.length - (intOf i).toNat)
  case atStart => exact ⟨0, by omega, rfl, ⟨rs.length, rfl, by omega⟩, by simp⟩
  case round =>
    obtain ⟨k, hk, rfl, ⟨m, rfl, hm⟩, hall⟩ := hrel
    have hallH : Hid (∀ r ∈ rs.take k, r.cmd.length ≤ 1048576) := hall
    clear hall
    by_cases hlt : k < rs.length
    · obtain ⟨b, off, r, a2, c2, rfl, hr, hq, hl⟩ := ents_cmd hpH.out hcH.out hlt
      unfold maxLen at hl
      have hrH : Hid (rs[k]? = some r) := hr
      clear hpH hcH hr hpH3 hcH3
      by_cases h2 : 1048576 < r.cmd.length
      · go_wp2
        go_ret
        exact ⟨_, rfl, Qt.refl _, by simp⟩
      · by_cases h3 : 1048576 < m + r.cmd.length
        · go_wp2
          go_ret
          exact ⟨_, rfl, Qt.refl _, by simp⟩
        · go_wp2
          go_round
          case rel => exact ⟨k + 1, by omega, by go_num, ⟨m + r.cmd.length, by go_num, by omega⟩, take_all hallH.out hrH.out (by omega)⟩
          case measure => simp [intOf]; omega
    · have hA : Hid (∀ r ∈ rs, r.cmd.length ≤ 1048576) := by
        have := hallH.out
        rwa [List.take_of_length_le (by omega)] at this
      clear hallH hpH hcH
      by_cases h2 : 1048576 < ns.length
      · go_wp2
        go_ret
        exact ⟨_, rfl, Qt.refl _, by simp⟩
      by_cases h3 : 1048576 < m + ns.length
      · go_wp2
        go_ret
        exact ⟨_, rfl, Qt.refl _, by simp⟩
      by_cases h4 : 1048576 < ap.length
      · go_wp2
        go_ret
        exact ⟨_, rfl, Qt.refl _, by simp⟩
      by_cases h5 : 1048576 < m + ns.length + ap.length
      · go_wp2
        go_ret
        exact ⟨_, rfl, Qt.refl _, by simp⟩
      go_wp2
      go_loop [17, 19] (fun t i => ∃ k : Nat, k ≤ ap.length ∧ i = .int .i64 k ∧ (∃ m : Nat, t = .int .i64 m ∧ m ≤ 1048576) ∧ ∀ r ∈ ap.take k, r.cmd.length ≤ 1048576) (fun _ i => ap.length - (intOf i).toNat)
      case atStart => exact ⟨0, by omega, rfl, ⟨m + ns.length + ap.length, by go_num, by omega⟩, by simp⟩
      case round =>
        obtain ⟨k3, hk3, rfl, ⟨m3, rfl, hm3⟩, hall⟩ := hrel
        have hallH : Hid (∀ r ∈ ap.take k3, r.cmd.length ≤ 1048576) := hall
        clear hall
        by_cases hlt3 : k3 < ap.length
        · obtain ⟨b, off, r, a2, c2, rfl, hr, hq, hl⟩ := ents_cmd hpH3.out hcH3.out hlt3
          unfold maxLen at hl
          have hrH : Hid (ap[k3]? = some r) := hr
          clear hpH3 hcH3 hr
          by_cases h2 : 1048576 < r.cmd.length
          · go_wp2
            go_ret
            exact ⟨_, rfl, Qt.refl _, by simp⟩
          · by_cases h3 : 1048576 < m3 + r.cmd.length
            · go_wp2
              go_ret
              exact ⟨_, rfl, Qt.refl _, by simp⟩
            · go_wp2
              go_round
              case rel => exact ⟨k3 + 1, by omega, by go_num, ⟨m3 + r.cmd.length, by go_num, by omega⟩, take_all hallH.out hrH.out (by omega)⟩
              case measure => simp [intOf]; omega
        · go_wp2
          go_ret
          have hB := hallH.out
          rw [List.take_of_length_le (by omega)] at hB
          exact ⟨_, rfl, Qt.refl _, fun _ => ⟨by omega, hA.out, by omega, by omega, hB⟩⟩

end Go.Proofs.Qxb6601153a
