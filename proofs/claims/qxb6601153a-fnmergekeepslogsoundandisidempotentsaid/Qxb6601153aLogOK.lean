/-
  SEAT b6601153a. THE WALK OF logOK. By an AI agent.
-/
import Derived.Test.Qxb6601153aBase
namespace Go.Proofs.Qxb6601153a
open Go.RowKit
set_option linter.unusedVariables false


set_option maxRecDepth 100000 in
set_option maxHeartbeats 2000000 in
/-- logOK. -/
theorem c11 {T : Nat → Prop} (w : World) (si st off : Int) (v3 v4 : Value) (rs : List Raw) (ns : List Int) (h1 : Ents T w v3 rs) (h2 : U64s T w v4 ns) (hok : EntOk rs)
    (hn : rs.length ≤ 1048576) (hm : ns.length ≤ 1048576) (b0 : 0 ≤ si) (b1 : si ≤ 18446744073709551615) (b2 : 0 ≤ off) (b3 : off ≤ 18446744073709551615) :
    Calls Try.prog 11 #[.int .u64 si, .int .u64 st, .int .u64 off, v3, v4] w (RetB w fun b => b = true → LogOk si st off rs ns) := by
  obtain ⟨⟨ao, c, rfl, hnc, hcm, _, hp⟩, hc⟩ := h1
  obtain ⟨ao2, c2, rfl, hnc2, hcm2, _, hp2⟩ := h2
  have hpH : Hid (0 < rs.length → ∃ b off, ao = some ⟨b, off, none⟩ ∧ T b ∧ ∀ j u, (flat rs)[j]? = some u → w.cell? ⟨b, off + j, none⟩ = some u) := hp
  have hpH2 : Hid (0 < ns.length → ∃ b off, ao2 = some ⟨b, off, none⟩ ∧ T b ∧ ∀ j u, (ns.map (Value.int .u64))[j]? = some u → w.cell? ⟨b, off + j, none⟩ = some u) := hp2
  have hokH : Hid (EntOk rs) := hok
  clear hp hc hp2 hok hcm hcm2
  by_cases t1 : 18446744073709551615 - rs.length ≤ off
  · go_enter Try.func11, Try.ntmps11
    go_wp2
    go_ret
    exact ⟨_, rfl, Qt.refl _, by simp⟩
  by_cases t2 : si < off
  · go_enter Try.func11, Try.ntmps11
    go_wp2
    go_ret
    exact ⟨_, rfl, Qt.refl _, by simp⟩
  by_cases t3 : off + rs.length < si
  · go_enter Try.func11, Try.ntmps11
    go_wp2
    go_ret
    exact ⟨_, rfl, Qt.refl _, by simp⟩
  go_enter Try.func11, Try.ntmps11
  go_wp2
  go_loop [12] (fun i => ∃ k : Nat, k ≤ rs.length ∧ i = .int .i64 k ∧ (∀ (j : Nat) (r : Raw), j < k → rs[j]? = some r → r.idx = off + j + 1)) (fun i => rs.length - (intOf i).toNat)
  case atStart => exact ⟨0, by omega, rfl, fun j r h => by omega⟩
  case round =>
    obtain ⟨k, hk, rfl, hall⟩ := hrel
    have hallH : Hid (∀ (j : Nat) (r : Raw), j < k → rs[j]? = some r → r.idx = off + j + 1) := hall
    clear hall
    by_cases hlt : k < rs.length
    · obtain ⟨b, o, rfl, _, hcell⟩ := hpH.out (by omega)
      obtain ⟨r, hr⟩ : ∃ r, rs[k]? = some r := ⟨rs[k], by simp [hlt]⟩
      obtain ⟨e0, _, _, _⟩ := ents_cells hcell hr
      have hrH : Hid (rs[k]? = some r) := hr
      clear hcell hr hpH hpH2 hokH
      by_cases he : r.idx = off + k + 1
      · have he' : (r.idx != off + k + 1) = false := by simp [he]
        have heH : Hid (r.idx = off + k + 1) := he
        clear he
        go_wp2
        go_round
        case rel =>
          refine ⟨k + 1, by omega, by go_num, fun j r' hj hr' => ?_⟩
          by_cases hjk : j = k
          · subst hjk
            rw [hrH.out] at hr'; cases hr'; exact heH.out
          · exact hallH.out j r' (by omega) hr'
        case measure => simp [intOf]; omega
      · have he' : (r.idx != off + k + 1) = true := by simp [he]
        clear he
        go_wp2
        go_ret
        exact ⟨_, rfl, Qt.refl _, by simp⟩
    · have hidx : Hid (∀ (j : Nat) (r : Raw), rs[j]? = some r → r.idx = off + j + 1) := fun j r hr => hallH.out j r (by have := (List.getElem?_eq_some_iff.1 hr).1; omega) hr
      clear hallH
      obtain ⟨tb, htb, hterm⟩ : ∃ tb : Bool, Hid (off < si → ∃ (b o : Nat) (r : Raw), ao = some ⟨b, o, none⟩ ∧ w.cell? ⟨b, o + ((si - off).toNat - 1) * 4 + 1, none⟩ = some (.int .u64 r.term) ∧ (r.term != st) = tb) ∧ Hid (tb = false → off < si → ∀ r : Raw, rs[((si - off).toNat - 1)]? = some r → r.term = st) := by
        by_cases hs : off < si
        · have hl : ((si - off).toNat - 1) < rs.length := by omega
          obtain ⟨b, o, rfl, _, hcell⟩ := hpH.out (by omega)
          obtain ⟨r, hr⟩ : ∃ r, rs[((si - off).toNat - 1)]? = some r := ⟨rs[((si - off).toNat - 1)], by simp [hl]⟩
          obtain ⟨_, e1, _, _⟩ := ents_cells hcell hr
          exact ⟨r.term != st, fun _ => ⟨b, o, r, rfl, e1, rfl⟩, fun h _ r' hr' => by rw [hr] at hr'; cases hr'; simpa using h⟩
        · exact ⟨false, fun h => absurd h hs, fun _ h => absurd h hs⟩
      by_cases hs : off < si
      · obtain ⟨b, o, r, rfl, e1, hb⟩ := htb.out hs
        clear htb
        cases tb
        · have htermF : Hid (off < si → ∀ r : Raw, rs[((si - off).toNat - 1)]? = some r → r.term = st) := hterm.out rfl
          go_wp2
          go_loopw [13, 14] (fun t i wr => ∃ k j : Nat, k ≤ rs.length ∧ i = .int .i64 k ∧ j ≤ ns.length ∧ t = .int .i64 j ∧ Qt w wr ∧ ns.take j = chgs (rs.take k)) (fun _ i _ => rs.length - (intOf i).toNat)
          case atStart => exact ⟨0, 0, by omega, rfl, by omega, rfl, Qt.refl _, by simp [chgs]⟩
          case round =>
            obtain ⟨k2, j, hk2, rfl, hj, rfl, ⟨nq, rfl⟩, hch⟩ := hrel
            have hchH : Hid (ns.take j = chgs (rs.take k2)) := hch
            clear hch
            by_cases hlt2 : k2 < rs.length
            · obtain ⟨b', o', ea, _, hcell⟩ := hpH.out (by omega)
              first | subst ea | (obtain ⟨rfl, rfl⟩ : b = b' ∧ o = o' := by simpa using ea)
              obtain ⟨r2, hr2⟩ : ∃ r, rs[k2]? = some r := ⟨rs[k2], by simp [hlt2]⟩
              obtain ⟨e0, _, _, e3⟩ := ents_cells hcell hr2
              obtain ⟨_, bb, hbb⟩ := hokH.out r2 (List.mem_of_getElem? hr2)
              rw [hbb] at e3
              have hfl : r2.flag = bb := by simp [Raw.flag, hbb]
              have hst := chgs_step hr2
              rw [hfl] at hst
              have hstH : Hid (chgs (rs.take (k2 + 1)) = chgs (rs.take k2) ++ (if bb then [r2.idx] else [])) := hst
              clear hcell hr2 hokH hbb hfl hst hpH
              cases bb
              · go_wp2
                go_roundw
                case rel => exact ⟨k2 + 1, j, by omega, by go_num, by omega, rfl, Qt.drewN _ _, by rw [hstH.out, hchH.out]; simp⟩
                case measure => simp [intOf]; omega
              · by_cases hjl : j < ns.length
                · obtain ⟨b2, o2, rfl, _, hcell2⟩ := hpH2.out (by omega)
                  obtain ⟨x, hx⟩ : ∃ x, ns[j]? = some x := ⟨ns[j], by simp [hjl]⟩
                  have q := nums_cell hcell2 hx
                  have hxH : Hid (ns[j]? = some x) := hx
                  have hd : decide ((ns.length : Int) ≤ (j : Int)) = false := by simp; omega
                  clear hcell2 hx hpH2
                  cases hxe : (x != r2.idx)
                  · have hxH2 : Hid (x = r2.idx) := (by simpa using hxe : x = r2.idx)
                    go_wp2
                    go_quiet (fail)
                    go_wp2
                    go_roundw
                    case rel =>
                      refine ⟨k2 + 1, j + 1, by omega, by go_num, by omega, by go_num, (by first | exact Qt.drewN _ _ | exact (Qt.drewN _ _).trans (Qt.drewN _ _)), ?_⟩
                      rw [hstH.out, List.take_add_one, hxH.out, hchH.out, hxH2.out]; simp
                    case measure => simp [intOf]; omega
                  · go_wp2
                    go_quiet (fail)
                    go_wp2
                    go_ret
                    exact ⟨_, rfl, (by first | exact Qt.drewN _ _ | exact (Qt.drewN _ _).trans (Qt.drewN _ _)), by simp⟩
                · have hd : decide ((ns.length : Int) ≤ (j : Int)) = true := by simp; omega
                  go_wp2
                  go_quiet (fail)
                  go_wp2
                  go_ret
                  exact ⟨_, rfl, (by first | exact Qt.drewN _ _ | exact (Qt.drewN _ _).trans (Qt.drewN _ _)), by simp⟩
            · go_wp2
              go_ret
              refine ⟨_, rfl, Qt.drewN _ _, fun hb => ?_⟩
              have hjn : j = ns.length := by
                have : (j : Int) = ns.length := by simpa using hb
                omega
              have hch := hchH.out
              rw [hjn, List.take_of_length_le (Nat.le_refl _), List.take_of_length_le (by omega)] at hch
              exact ⟨by omega, by omega, by omega, hidx.out, htermF.out, hch⟩
        · go_wp2
          go_ret
          exact ⟨_, rfl, Qt.refl _, by simp⟩
      · have htermF : Hid (off < si → ∀ r : Raw, rs[((si - off).toNat - 1)]? = some r → r.term = st) := fun h => absurd h hs
        clear htb
        go_wp2
        go_loopw [13, 14] (fun t i wr => ∃ k j : Nat, k ≤ rs.length ∧ i = .int .i64 k ∧ j ≤ ns.length ∧ t = .int .i64 j ∧ Qt w wr ∧ ns.take j = chgs (rs.take k)) (fun _ i _ => rs.length - (intOf i).toNat)
        case atStart => exact ⟨0, 0, by omega, rfl, by omega, rfl, Qt.refl _, by simp [chgs]⟩
        case round =>
          obtain ⟨k2, j, hk2, rfl, hj, rfl, ⟨nq, rfl⟩, hch⟩ := hrel
          have hchH : Hid (ns.take j = chgs (rs.take k2)) := hch
          clear hch
          by_cases hlt2 : k2 < rs.length
          · obtain ⟨b', o', ea, _, hcell⟩ := hpH.out (by omega)
            first | subst ea | (obtain ⟨rfl, rfl⟩ : b = b' ∧ o = o' := by simpa using ea)
            obtain ⟨r2, hr2⟩ : ∃ r, rs[k2]? = some r := ⟨rs[k2], by simp [hlt2]⟩
            obtain ⟨e0, _, _, e3⟩ := ents_cells hcell hr2
            obtain ⟨_, bb, hbb⟩ := hokH.out r2 (List.mem_of_getElem? hr2)
            rw [hbb] at e3
            have hfl : r2.flag = bb := by simp [Raw.flag, hbb]
            have hst := chgs_step hr2
            rw [hfl] at hst
            have hstH : Hid (chgs (rs.take (k2 + 1)) = chgs (rs.take k2) ++ (if bb then [r2.idx] else [])) := hst
            clear hcell hr2 hokH hbb hfl hst hpH
            cases bb
            · go_wp2
              go_roundw
              case rel => exact ⟨k2 + 1, j, by omega, by go_num, by omega, rfl, Qt.drewN _ _, by rw [hstH.out, hchH.out]; simp⟩
              case measure => simp [intOf]; omega
            · by_cases hjl : j < ns.length
              · obtain ⟨b2, o2, rfl, _, hcell2⟩ := hpH2.out (by omega)
                obtain ⟨x, hx⟩ : ∃ x, ns[j]? = some x := ⟨ns[j], by simp [hjl]⟩
                have q := nums_cell hcell2 hx
                have hxH : Hid (ns[j]? = some x) := hx
                have hd : decide ((ns.length : Int) ≤ (j : Int)) = false := by simp; omega
                clear hcell2 hx hpH2
                cases hxe : (x != r2.idx)
                · have hxH2 : Hid (x = r2.idx) := (by simpa using hxe : x = r2.idx)
                  go_wp2
                  go_quiet (fail)
                  go_wp2
                  go_roundw
                  case rel =>
                    refine ⟨k2 + 1, j + 1, by omega, by go_num, by omega, by go_num, (by first | exact Qt.drewN _ _ | exact (Qt.drewN _ _).trans (Qt.drewN _ _)), ?_⟩
                    rw [hstH.out, List.take_add_one, hxH.out, hchH.out, hxH2.out]; simp
                  case measure => simp [intOf]; omega
                · go_wp2
                  go_quiet (fail)
                  go_wp2
                  go_ret
                  exact ⟨_, rfl, (by first | exact Qt.drewN _ _ | exact (Qt.drewN _ _).trans (Qt.drewN _ _)), by simp⟩
              · have hd : decide ((ns.length : Int) ≤ (j : Int)) = true := by simp; omega
                go_wp2
                go_quiet (fail)
                go_wp2
                go_ret
                exact ⟨_, rfl, (by first | exact Qt.drewN _ _ | exact (Qt.drewN _ _).trans (Qt.drewN _ _)), by simp⟩
          · go_wp2
            go_ret
            refine ⟨_, rfl, Qt.drewN _ _, fun hb => ?_⟩
            have hjn : j = ns.length := by
              have : (j : Int) = ns.length := by simpa using hb
              omega
            have hch := hchH.out
            rw [hjn, List.take_of_length_le (Nat.le_refl _), List.take_of_length_le (by omega)] at hch
            exact ⟨by omega, by omega, by omega, hidx.out, htermF.out, hch⟩
end Go.Proofs.Qxb6601153a
