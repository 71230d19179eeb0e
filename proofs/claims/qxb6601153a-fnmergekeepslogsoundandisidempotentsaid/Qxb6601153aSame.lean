/-
  SEAT b6601153a. THE WALKS OF termAt, minU, maxU, sameBytes, sameIDs, sameNodeIDs, sameEntry. By an AI agent.
-/
import Derived.Test.Qxb6601153aBase
namespace Go.Proofs.Qxb6601153a
open Go.RowKit
set_option linter.unusedVariables false

/-- The term that a log knows at index i. -/
def termF (si st off : Int) (rs : List Raw) (i : Int) : Option Int :=
  if i = si then some st else if off < i ∧ i - off ≤ rs.length then (rs[(i - off).toNat - 1]?).map Raw.term else none
theorem termF_snap (si st off : Int) (rs : List Raw) : termF si st off rs si = some st := by simp [termF]
theorem termF_in {si st off : Int} {rs : List Raw} {i : Int} (h : i ≠ si) (h1 : off < i) (h2 : i - off ≤ rs.length) {r : Raw} (hr : rs[(i - off).toNat - 1]? = some r) : termF si st off rs i = some r.term := by
  simp [termF, h, h1, h2, hr]
theorem termF_out {si st off : Int} {rs : List Raw} {i : Int} (h : i ≠ si) (h1 : ¬ (off < i ∧ i - off ≤ rs.length)) : termF si st off rs i = none := by
  simp only [termF, if_neg h, if_neg h1]
/-- An end: a number and a bool. -/
def RetT (w : World) (t : Option Int) (e : Ending) (w' : World) : Prop := e = .returned (.tuple #[.int .u64 (t.getD 0), .bool t.isSome]) ∧ Qt w w'

set_option maxRecDepth 100000 in
/-- termAt. -/
theorem c16 {T : Nat → Prop} (w : World) (si st off i : Int) (v : Value) (rs : List Raw) (h : Ents T w v rs) (hn : rs.length ≤ 1048576) (b0 : 0 ≤ off) (b1 : off ≤ 18446744073709551615) (b2 : 0 ≤ i) (b3 : i ≤ 18446744073709551615) :
    Calls Try.prog 16 #[.int .u64 si, .int .u64 st, .int .u64 off, v, .int .u64 i] w (RetT w (termF si st off rs i)) := by
  obtain ⟨⟨ao, c, rfl, hnc, hcm, _, hp⟩, hc⟩ := h
  clear hc hcm
  by_cases t1 : i = si
  · subst t1
    rw [termF_snap]
    clear hp
    go_enter Try.func16, Try.ntmps16
    go_wp2
    go_ret2
    exact ⟨rfl, Qt.refl _⟩
  have t1' : (i == si) = false := by simp [t1]
  by_cases t2 : off < i ∧ i - off ≤ rs.length
  · obtain ⟨t3, t4⟩ := t2
    obtain ⟨b, o, rfl, _, hcell⟩ := hp (by omega)
    obtain ⟨r, hr⟩ : ∃ r, rs[(i - off).toNat - 1]? = some r := ⟨rs[(i - off).toNat - 1]'(by omega), by simp⟩
    rw [termF_in t1 t3 t4 hr]
    obtain ⟨_, e1, _, _⟩ := ents_cells hcell hr
    clear hp hcell hr t1
    go_enter Try.func16, Try.ntmps16
    go_wp2
    go_ret2
    exact ⟨rfl, Qt.refl _⟩
  · rw [termF_out t1 t2]
    clear hp t1
    by_cases t3 : off < i
    · have t4 : (rs.length : Int) < i - off := by omega
      clear t2
      go_enter Try.func16, Try.ntmps16
      go_wp2
      go_ret2
      exact ⟨rfl, Qt.refl _⟩
    · clear t2
      have t3' : decide (off < i) = false := by simpa using t3
      go_enter Try.func16, Try.ntmps16
      go_wp2
      go_ret2
      exact ⟨rfl, Qt.refl _⟩

/-- minU. -/
theorem c17 (w : World) (a b : Int) : Calls Try.prog 17 #[.int .u64 a, .int .u64 b] w fun e w' => e = .returned (.int .u64 (min a b)) ∧ w' = w := by
  by_cases h : a < b
  · have hm : min a b = a := by omega
    rw [hm]
    clear hm
    go_enter Try.func17, Try.ntmps17
    go_wp2
    go_ret
    exact ⟨rfl, rfl⟩
  · have hm : min a b = b := by omega
    rw [hm]
    clear hm
    go_enter Try.func17, Try.ntmps17
    go_wp2
    go_ret
    exact ⟨rfl, rfl⟩
/-- maxU. -/
theorem c29 (w : World) (a b : Int) : Calls Try.prog 29 #[.int .u64 a, .int .u64 b] w fun e w' => e = .returned (.int .u64 (max a b)) ∧ w' = w := by
  by_cases h : b < a
  · have hm : max a b = a := by omega
    rw [hm]
    clear hm
    go_enter Try.func29, Try.ntmps29
    go_wp2
    go_ret
    exact ⟨rfl, rfl⟩
  · have hm : max a b = b := by omega
    rw [hm]
    clear hm
    go_enter Try.func29, Try.ntmps29
    go_wp2
    go_ret
    exact ⟨rfl, rfl⟩

/-- An end: true. -/
def RetTrue (w : World) (e : Ending) (w' : World) : Prop := e = .returned (.bool true) ∧ Qt w w'

set_option maxRecDepth 100000 in
/-- sameBytes, at two slices of the same bytes. -/
theorem c41 {T : Nat → Prop} (w : World) (v1 v2 : Value) (bs : List Int) (h1 : U8s T w v1 bs) (h2 : U8s T w v2 bs) : Calls Try.prog 41 #[v1, v2] w (RetTrue w) := by
  obtain ⟨ao, c, rfl, hnc, hcm, _, hp⟩ := h1
  obtain ⟨ao2, c2, rfl, hnc2, hcm2, _, hp2⟩ := h2
  unfold maxLen at hcm
  have hpH : Hid (0 < bs.length → ∃ b off, ao = some ⟨b, off, none⟩ ∧ T b ∧ ∀ j u, (bs.map (Value.int .u8))[j]? = some u → w.cell? ⟨b, off + j, none⟩ = some u) := hp
  have hpH2 : Hid (0 < bs.length → ∃ b off, ao2 = some ⟨b, off, none⟩ ∧ T b ∧ ∀ j u, (bs.map (Value.int .u8))[j]? = some u → w.cell? ⟨b, off + j, none⟩ = some u) := hp2
  clear hp hp2 hcm2
  go_enter Try.func41, Try.ntmps41
  go_wp2
  go_loopw [5] (fun i wr => ∃ k : Nat, k ≤ bs.length ∧ i = .int .i64 k ∧ Qt w wr) (fun i _ => bs.length - (intOf i).toNat)
  case atStart => exact ⟨0, by omega, rfl, Qt.refl _⟩
  case round =>
    obtain ⟨k, hk, rfl, nq, rfl⟩ := hrel
    by_cases hlt : k < bs.length
    · obtain ⟨b, o, rfl, _, hcell⟩ := hpH.out (by omega)
      obtain ⟨b2, o2, rfl, _, hcell2⟩ := hpH2.out (by omega)
      obtain ⟨x, hx⟩ : ∃ x, bs[k]? = some x := ⟨bs[k], by simp [hlt]⟩
      have q := nums_cell hcell hx
      have q2 := nums_cell hcell2 hx
      clear hcell hcell2 hx hpH hpH2
      go_wp2
      go_quiet (fail)
      go_wp2
      go_roundw
      case rel => exact ⟨k + 1, by omega, by go_num, Qt.drewN _ _⟩
      case measure => simp [intOf]; omega
    · go_wp2
      go_ret
      exact ⟨rfl, Qt.drewN _ _⟩

set_option maxRecDepth 100000 in
/-- sameIDs. -/
theorem c37 {T : Nat → Prop} (w : World) (v1 v2 : Value) (bs : List Int) (hb : ∀ x ∈ bs, 0 ≤ x ∧ x ≤ 18446744073709551615) (h1 : U64s T w v1 bs) (h2 : U64s T w v2 bs) : Calls Try.prog 37 #[v1, v2] w (RetTrue w) := by
  obtain ⟨ao, c, rfl, hnc, hcm, _, hp⟩ := h1
  obtain ⟨ao2, c2, rfl, hnc2, hcm2, _, hp2⟩ := h2
  unfold maxLen at hcm
  have hpH : Hid (0 < bs.length → ∃ b off, ao = some ⟨b, off, none⟩ ∧ T b ∧ ∀ j u, (bs.map (Value.int .u64))[j]? = some u → w.cell? ⟨b, off + j, none⟩ = some u) := hp
  have hpH2 : Hid (0 < bs.length → ∃ b off, ao2 = some ⟨b, off, none⟩ ∧ T b ∧ ∀ j u, (bs.map (Value.int .u64))[j]? = some u → w.cell? ⟨b, off + j, none⟩ = some u) := hp2
  have hbH : Hid (∀ x ∈ bs, 0 ≤ x ∧ x ≤ 18446744073709551615) := hb
  clear hp hp2 hcm2 hb
  go_enter Try.func37, Try.ntmps37
  go_wp2
  go_loopw [5] (fun i wr => ∃ k : Nat, k ≤ bs.length ∧ i = .int .i64 k ∧ Qt w wr) (fun i _ => bs.length - (intOf i).toNat)
  case atStart => exact ⟨0, by omega, rfl, Qt.refl _⟩
  case round =>
    obtain ⟨k, hk, rfl, nq, rfl⟩ := hrel
    by_cases hlt : k < bs.length
    · obtain ⟨b, o, rfl, _, hcell⟩ := hpH.out (by omega)
      obtain ⟨b2, o2, rfl, _, hcell2⟩ := hpH2.out (by omega)
      obtain ⟨x, hx⟩ : ∃ x, bs[k]? = some x := ⟨bs[k], by simp [hlt]⟩
      have q := nums_cell hcell hx
      have q2 := nums_cell hcell2 hx
      obtain ⟨x0, x1⟩ := hbH.out x (List.mem_of_getElem? hx)
      clear hcell hcell2 hx hpH hpH2 hbH
      go_wp2
      go_quiet (fail)
      go_wp2
      go_roundw
      case rel => exact ⟨k + 1, by omega, by go_num, Qt.drewN _ _⟩
      case measure => simp [intOf]; omega
    · go_wp2
      go_ret
      exact ⟨rfl, Qt.drewN _ _⟩
set_option maxRecDepth 100000 in
/-- sameNodeIDs. -/
theorem c40 {T : Nat → Prop} (w : World) (v1 v2 : Value) (bs : List Int) (hb : ∀ x ∈ bs, 0 ≤ x ∧ x ≤ 18446744073709551615) (h1 : U64s T w v1 bs) (h2 : U64s T w v2 bs) : Calls Try.prog 40 #[v1, v2] w (RetTrue w) := by
  obtain ⟨ao, c, rfl, hnc, hcm, _, hp⟩ := h1
  obtain ⟨ao2, c2, rfl, hnc2, hcm2, _, hp2⟩ := h2
  unfold maxLen at hcm
  have hpH : Hid (0 < bs.length → ∃ b off, ao = some ⟨b, off, none⟩ ∧ T b ∧ ∀ j u, (bs.map (Value.int .u64))[j]? = some u → w.cell? ⟨b, off + j, none⟩ = some u) := hp
  have hpH2 : Hid (0 < bs.length → ∃ b off, ao2 = some ⟨b, off, none⟩ ∧ T b ∧ ∀ j u, (bs.map (Value.int .u64))[j]? = some u → w.cell? ⟨b, off + j, none⟩ = some u) := hp2
  have hbH : Hid (∀ x ∈ bs, 0 ≤ x ∧ x ≤ 18446744073709551615) := hb
  clear hp hp2 hcm2 hb
  go_enter Try.func40, Try.ntmps40
  go_wp2
  go_loopw [5] (fun i wr => ∃ k : Nat, k ≤ bs.length ∧ i = .int .i64 k ∧ Qt w wr) (fun i _ => bs.length - (intOf i).toNat)
  case atStart => exact ⟨0, by omega, rfl, Qt.refl _⟩
  case round =>
    obtain ⟨k, hk, rfl, nq, rfl⟩ := hrel
    by_cases hlt : k < bs.length
    · obtain ⟨b, o, rfl, _, hcell⟩ := hpH.out (by omega)
      obtain ⟨b2, o2, rfl, _, hcell2⟩ := hpH2.out (by omega)
      obtain ⟨x, hx⟩ : ∃ x, bs[k]? = some x := ⟨bs[k], by simp [hlt]⟩
      have q := nums_cell hcell hx
      have q2 := nums_cell hcell2 hx
      obtain ⟨x0, x1⟩ := hbH.out x (List.mem_of_getElem? hx)
      clear hcell hcell2 hx hpH hpH2 hbH
      go_wp2
      go_quiet (fail)
      go_wp2
      go_roundw
      case rel => exact ⟨k + 1, by omega, by go_num, Qt.drewN _ _⟩
      case measure => simp [intOf]; omega
    · go_wp2
      go_ret
      exact ⟨rfl, Qt.drewN _ _⟩
/-- An end: true; memory has at most new blocks. -/
def RetTrueF (w : World) (e : Ending) (w' : World) : Prop := e = .returned (.bool true) ∧ Fr All w w'

set_option maxRecDepth 100000 in
set_option maxHeartbeats 1000000 in
/-- sameEntry, at an entry and what it was made of. -/
theorem c31 {T : Nat → Prop} (w : World) (i t : Int) (cv1 cv2 : Value) (bs : List Int) (p : Option Addr) (h1 : U8s T w cv1 bs) (h2 : U8s T w cv2 bs) :
    Calls Try.prog 31 #[.agg #[.int .u64 i, .int .u64 t, cv1, .pointer p], .agg #[.int .u64 i, .int .u64 t, cv2, .bool p.isSome]] w (RetTrueF w) := by
  have h1' := h1
  have h2' := h2
  obtain ⟨ao, c, rfl, _⟩ := h1
  obtain ⟨ao2, c2, rfl, _⟩ := h2
  have g1 : Hid (U8s T w (.slice ao bs.length c) bs) := h1'
  have g2 : Hid (U8s T w (.slice ao2 bs.length c2) bs) := h2'
  clear h1' h2'
  cases p
  · go_enter Try.func31, Try.ntmps31
    go_wp2_with fail
    refine (c41 (T := T) _ _ _ bs (Rd.fr g1.out ((Fr.alloc _ _ _).tr (Fr.alloc _ _ _))) (Rd.fr g2.out ((Fr.alloc _ _ _).tr (Fr.alloc _ _ _)))).mono ?_
    rintro e w' ⟨rfl, nq, rfl⟩
    go_wp2
    go_ret
    exact ⟨rfl, ((Fr.alloc _ _ _).tr (Fr.alloc _ _ _)).tr (Fr.drewN _ _ _)⟩
  · go_enter Try.func31, Try.ntmps31
    go_wp2_with fail
    refine (c41 (T := T) _ _ _ bs (Rd.fr g1.out ((Fr.alloc _ _ _).tr (Fr.alloc _ _ _))) (Rd.fr g2.out ((Fr.alloc _ _ _).tr (Fr.alloc _ _ _)))).mono ?_
    rintro e w' ⟨rfl, nq, rfl⟩
    go_wp2
    go_ret
    exact ⟨rfl, ((Fr.alloc _ _ _).tr (Fr.alloc _ _ _)).tr (Fr.drewN _ _ _)⟩
end Go.Proofs.Qxb6601153a
