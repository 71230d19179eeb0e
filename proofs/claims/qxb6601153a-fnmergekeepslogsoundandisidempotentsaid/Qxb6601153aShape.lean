import Derived.Test.Qxb6601153aLogIs
import Derived.Test.Qxb6601153aPure
import Derived.BigRegion
import Derived.Deep.DeepCutAuto
namespace Go.Proofs.Qxb6601153a
open Go.RowKit
set_option linter.unusedVariables false

set_option maxRecDepth 100000 in
set_option maxHeartbeats 2000000 in
/-- shapeOK, at a sound log. -/
theorem c21 {T : Nat → Prop} (w : World) (si st off un sb : Int) (a1 a2 : Option Addr) (n1 n2 k1 k2 : Nat) (ev cv : Value) (rs : List Raw) (h5 : Rd T w ev rs.length (flat rs)) (h7 : U64s T w cv (chgs rs)) (hptr : ∀ r ∈ rs, ∃ p, r.ch = .pointer p)
    (b0 : 0 ≤ off) (lo : off ≤ si) (hi : si ≤ off + rs.length) (room : off + rs.length ≤ 18446744073709551615) (idx : Runs off rs) (hterm : off < si → ∀ r : Raw, rs[((si - off).toNat - 1)]? = some r → r.term = st) (hn : rs.length ≤ 1048576) :
    Calls Try.prog 21 #[.agg #[.int .u64 si, .int .u64 st, .slice a1 n1 k1, .slice a2 n2 k2, .int .u64 off, ev, cv, .int .u64 un, .int .u64 sb]] w (RetTrueF w) := by
  obtain ⟨ao, c, rfl, hnc, hcm, _, hp⟩ := h5
  obtain ⟨ao2, c2, rfl, hnc2, hcm2, _, hp2⟩ := h7
  have hpH : Hid (0 < rs.length → ∃ b off, ao = some ⟨b, off, none⟩ ∧ T b ∧ ∀ j u, (flat rs)[j]? = some u → w.cell? ⟨b, off + j, none⟩ = some u) := hp
  have hpH2 : Hid (0 < (chgs rs).length → ∃ b off, ao2 = some ⟨b, off, none⟩ ∧ T b ∧ ∀ j u, ((chgs rs).map (Value.int .u64))[j]? = some u → w.cell? ⟨b, off + j, none⟩ = some u) := hp2
  have H : Hid ((∀ r ∈ rs, ∃ p, r.ch = .pointer p) ∧ Runs off rs ∧ (off < si → ∀ r : Raw, rs[((si - off).toNat - 1)]? = some r → r.term = st)) := ⟨hptr, idx, hterm⟩
  clear hp hp2 hcm hcm2 hptr idx hterm
  obtain ⟨N, hN⟩ : ∃ N, N = (chgs rs).length := ⟨_, rfl⟩
  rw [← hN] at hnc2 ⊢
  have hNl : N ≤ rs.length := by
    rw [hN]; simp only [chgs, List.length_map]; exact List.length_filter_le _ _
  have hNH : Hid (N = (chgs rs).length) := hN
  clear hN
  go_enter Try.func21, Try.ntmps21
  have hd1 : decide (si < off) = false := by simp; omega
  have hd2 : decide ((rs.length : Int) < si - off) = false := by simp; omega
  go_wp2_with fail
  obtain ⟨W, hW⟩ : ∃ W, W = (w.alloc (.cells #[.int .u64 si, .int .u64 st, .slice a1 n1 k1, .slice a2 n2 k2, .int .u64 off, .slice ao rs.length c, .slice ao2 N c2, .int .u64 un, .int .u64 sb] 38)) := ⟨_, rfl⟩
  have fW : Fr All w W := by rw [hW]; exact Fr.alloc _ _ _
  have hA : W.heap[w.heap.size]? = some (.cells #[.int .u64 si, .int .u64 st, .slice a1 n1 k1, .slice a2 n2 k2, .int .u64 off, .slice ao rs.length c, .slice ao2 N c2, .int .u64 un, .int .u64 sb] 38 (0, 0)) := by rw [hW]; exact heap_alloc_new _ _
  rw [← hW]
  clear hW
  have x0 : W.cell? ⟨w.heap.size, 0, none⟩ = some (.int .u64 si) := by rw [cell_of_row W _ _ _ _ _ hA]; rfl
  have x1 : W.cell? ⟨w.heap.size, 1, none⟩ = some (.int .u64 st) := by rw [cell_of_row W _ _ _ _ _ hA]; rfl
  have x4 : W.cell? ⟨w.heap.size, 4, none⟩ = some (.int .u64 off) := by rw [cell_of_row W _ _ _ _ _ hA]; rfl
  have x5 : W.cell? ⟨w.heap.size, 5, none⟩ = some (.slice ao rs.length c) := by rw [cell_of_row W _ _ _ _ _ hA]; rfl
  have x6 : W.cell? ⟨w.heap.size, 6, none⟩ = some (.slice ao2 N c2) := by rw [cell_of_row W _ _ _ _ _ hA]; rfl
  clear hA
  go_loopw [3] (fun i wr => ∃ k : Nat, k ≤ rs.length ∧ i = .int .i64 k ∧ Qt W wr) (fun i _ => rs.length - (intOf i).toNat)
  case atStart => exact ⟨0, by omega, rfl, Qt.refl _⟩
  case round =>
    obtain ⟨k, hk, rfl, nq, rfl⟩ := hrel
    by_cases hlt : k < rs.length
    · obtain ⟨b, o, rfl, _, hcell⟩ := hpH.out (by omega)
      obtain ⟨r, hr⟩ : ∃ r, rs[k]? = some r := ⟨rs[k], by simp [hlt]⟩
      obtain ⟨e0, _, _, _⟩ := ents_cells hcell hr
      have he := H.out.2.1 k r hr
      rw [he] at e0
      have q0 := fW.cellSome e0 trivial
      clear hcell hr hpH hpH2 e0 he
      go_wp2
      go_region
      go_wp2
      go_roundw
      case rel => exact ⟨k + 1, by omega, by go_num, Qt.drewN _ _⟩
      case measure => simp [intOf]; omega
    · go_upto_region 8 with fail
      go_cut [68] (fun s wx => s = .bool false ∧ Qt W wx)
      case first =>
        by_cases hs : off < si
        · obtain ⟨b, o, rfl, _, hcell⟩ := hpH.out (by omega)
          have hl : ((si - off).toNat - 1) < rs.length := by omega
          obtain ⟨r, hr⟩ : ∃ r, rs[((si - off).toNat - 1)]? = some r := ⟨rs[((si - off).toNat - 1)], by simp [hl]⟩
          obtain ⟨_, e1, _, _⟩ := ents_cells hcell hr
          have he := H.out.2.2 hs r hr
          rw [he] at e1
          have q1 := fW.cellSome e1 trivial
          have hds : decide (off < si) = true := by simpa using hs
          clear hcell hr e1 he
          go_quiet (fail)
          go_wp2_with fail
          go_meet
          exact ⟨rfl, by first | exact Qt.drewN _ _ | exact (Qt.drewN _ _).trans (Qt.drewN _ _)⟩
        · have hds : decide (off < si) = false := by simpa using hs
          go_quiet (fail)
          go_wp2_with fail
          go_meet
          exact ⟨rfl, by first | exact Qt.drewN _ _ | exact (Qt.drewN _ _).trans (Qt.drewN _ _)⟩
      case rest =>
        obtain ⟨rfl, nq2, rfl⟩ := hcut
        go_wp2_with fail
        go_loopw [4, 5] (fun t i wr => ∃ k j : Nat, k ≤ rs.length ∧ i = .int .i64 k ∧ j ≤ N ∧ t = .int .i64 j ∧ Qt W wr ∧ j = (chgs (rs.take k)).length) (fun _ i _ => rs.length - (intOf i).toNat)
        case atStart => exact ⟨0, 0, by omega, rfl, by omega, rfl, Qt.drewN _ _, by simp [chgs]⟩
        case round =>
          obtain ⟨k2, j, hk2, rfl, hj, rfl, ⟨nq, rfl⟩, hch⟩ := hrel
          have hchH : Hid (j = (chgs (rs.take k2)).length) := hch
          clear hch
          by_cases hlt2 : k2 < rs.length
          · obtain ⟨b, o, rfl, _, hcell⟩ := hpH.out (by omega)
            obtain ⟨r2, hr2⟩ : ∃ r, rs[k2]? = some r := ⟨rs[k2], by simp [hlt2]⟩
            obtain ⟨e0, _, _, e3⟩ := ents_cells hcell hr2
            obtain ⟨p, hp⟩ := H.out.1 r2 (List.mem_of_getElem? hr2)
            rw [hp] at e3
            have q0 := fW.cellSome e0 trivial
            have q3 := fW.cellSome e3 trivial
            have hst := chgs_step hr2
            have hstH : Hid (chgs (rs.take (k2 + 1)) = chgs (rs.take k2) ++ (if r2.flag then [r2.idx] else [])) := hst
            cases p with
            | none =>
              have hfl : r2.flag = false := by simp [Raw.flag, hp]
              have hflH : Hid (r2.flag = false) := hfl
              clear hcell hr2 hp hfl hst hpH e0 e3
              go_wp2
              go_roundw
              case rel => exact ⟨k2 + 1, j, by omega, by go_num, by omega, rfl, Qt.drewN _ _, by rw [hstH.out, hflH.out, hchH.out]; simp⟩
              case measure => simp [intOf]; omega
            | some pa =>
              have hfl : r2.flag = true := by simp [Raw.flag, hp]
              have hflH : Hid (r2.flag = true) := hfl
              have hg := chgs_get hr2 hfl
              rw [← hchH.out] at hg
              have hjl : j < N := by rw [hNH.out]; exact (List.getElem?_eq_some_iff.1 hg).1
              obtain ⟨b2, o2, rfl, _, hcell2⟩ := hpH2.out (by rw [← hNH.out]; omega)
              have q := fW.cellSome (nums_cell hcell2 hg) trivial
              have hd : decide ((N : Int) ≤ (j : Int)) = false := by simp; omega
              clear hcell2 hpH2 hg hcell hr2 hp hfl hst hpH e0 e3
              go_wp2
              go_quiet (fail)
              go_wp2
              go_roundw
              case rel =>
                refine ⟨k2 + 1, j + 1, by omega, by go_num, by omega, by go_num, (by first | exact Qt.drewN _ _ | exact (Qt.drewN _ _).trans (Qt.drewN _ _)), ?_⟩
                rw [hstH.out, hflH.out, hchH.out]; simp
              case measure => simp [intOf]; omega
          · have hjN : j = N := by
              rw [hchH.out, hNH.out, List.take_of_length_le (by omega)]
            subst hjN
            go_wp2
            go_ret
            exact ⟨rfl, fW.tr (Fr.drewN _ _ _)⟩
end Go.Proofs.Qxb6601153a
