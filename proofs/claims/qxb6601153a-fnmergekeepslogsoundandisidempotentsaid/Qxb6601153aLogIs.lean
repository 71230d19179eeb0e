/-
  SEAT b6601153a. THE WALKS OF changesAre, logIs. By an AI agent.
-/
import Derived.Test.Qxb6601153aSame
namespace Go.Proofs.Qxb6601153a
open Go.RowKit
set_option linter.unusedVariables false

theorem chgs_get {rs : List Raw} {k : Nat} {r : Raw} (hr : rs[k]? = some r) (hf : r.flag = true) : (chgs rs)[(chgs (rs.take k)).length]? = some r.idx := by
  have h1 : rs = rs.take (k + 1) ++ rs.drop (k + 1) := (List.take_append_drop _ _).symm
  rw [h1, chgs_append, List.take_append_of_le_length (by have := (List.getElem?_eq_some_iff.1 hr).1; simp; omega), List.take_take, Nat.min_eq_left (by omega), chgs_step hr, hf]
  simp

set_option maxRecDepth 100000 in
set_option maxHeartbeats 1000000 in
/-- changesAre, at the changes of what is wanted. -/
theorem c38 {T : Nat → Prop} (w : World) (v1 v2 : Value) (rs : List Raw) (h1 : U64s T w v1 (chgs rs)) (h2 : Ents T w v2 rs) (hok : EntOk rs) (hn : rs.length ≤ 1099511627776) : Calls Try.prog 38 #[v1, v2] w (RetTrue w) := by
  obtain ⟨ao2, c2, rfl, hnc2, hcm2, _, hp2⟩ := h1
  obtain ⟨⟨ao, c, rfl, hnc, hcm, _, hp⟩, hc⟩ := h2
  have hpH : Hid (0 < rs.length → ∃ b off, ao = some ⟨b, off, none⟩ ∧ T b ∧ ∀ j u, (flat rs)[j]? = some u → w.cell? ⟨b, off + j, none⟩ = some u) := hp
  have hpH2 : Hid (0 < (chgs rs).length → ∃ b off, ao2 = some ⟨b, off, none⟩ ∧ T b ∧ ∀ j u, ((chgs rs).map (Value.int .u64))[j]? = some u → w.cell? ⟨b, off + j, none⟩ = some u) := hp2
  have hokH : Hid (EntOk rs) := hok
  clear hp hc hp2 hok hcm hcm2
  obtain ⟨N, hN⟩ : ∃ N, N = (chgs rs).length := ⟨_, rfl⟩
  rw [← hN] at hnc2 ⊢
  have hNl : N ≤ rs.length := by
    rw [hN]; simp only [chgs, List.length_map]; exact List.length_filter_le _ _
  have hNH : Hid (N = (chgs rs).length) := hN
  clear hN
  go_enter Try.func38, Try.ntmps38
  go_wp2
  go_loopw [5, 6] (fun t i wr => ∃ k j : Nat, k ≤ rs.length ∧ i = .int .i64 k ∧ j ≤ N ∧ t = .int .i64 j ∧ Qt w wr ∧ j = (chgs (rs.take k)).length) (fun _ i _ => rs.length - (intOf i).toNat)
  case atStart => exact ⟨0, 0, by omega, rfl, by omega, rfl, Qt.refl _, by simp [chgs]⟩
  case round =>
    obtain ⟨k2, j, hk2, rfl, hj, rfl, ⟨nq, rfl⟩, hch⟩ := hrel
    have hchH : Hid (j = (chgs (rs.take k2)).length) := hch
    clear hch
    by_cases hlt2 : k2 < rs.length
    · obtain ⟨b, o, rfl, _, hcell⟩ := hpH.out (by omega)
      obtain ⟨r2, hr2⟩ : ∃ r, rs[k2]? = some r := ⟨rs[k2], by simp [hlt2]⟩
      obtain ⟨e0, _, _, e3⟩ := ents_cells hcell hr2
      obtain ⟨_, bb, hbb⟩ := hokH.out r2 (List.mem_of_getElem? hr2)
      rw [hbb] at e3
      have hfl : r2.flag = bb := by simp [Raw.flag, hbb]
      have hst := chgs_step hr2
      rw [hfl] at hst
      have hstH : Hid (chgs (rs.take (k2 + 1)) = chgs (rs.take k2) ++ (if bb then [r2.idx] else [])) := hst
      cases bb
      · clear hcell hr2 hokH hbb hfl hst hpH
        go_wp2
        go_roundw
        case rel => exact ⟨k2 + 1, j, by omega, by go_num, by omega, rfl, Qt.drewN _ _, by rw [hstH.out, hchH.out]; simp⟩
        case measure => simp [intOf]; omega
      · have hg := chgs_get hr2 hfl
        rw [← hchH.out] at hg
        have hjl : j < N := by rw [hNH.out]; exact (List.getElem?_eq_some_iff.1 hg).1
        obtain ⟨b2, o2, rfl, _, hcell2⟩ := hpH2.out (by rw [← hNH.out]; omega)
        have q := nums_cell hcell2 hg
        have hd : decide ((N : Int) ≤ (j : Int)) = false := by simp; omega
        clear hcell2 hpH2 hg hcell hr2 hokH hbb hfl hst hpH
        go_wp2
        go_quiet (fail)
        go_wp2
        go_roundw
        case rel =>
          refine ⟨k2 + 1, j + 1, by omega, by go_num, by omega, by go_num, (by first | exact Qt.drewN _ _ | exact (Qt.drewN _ _).trans (Qt.drewN _ _)), ?_⟩
          rw [hstH.out, hchH.out]; simp
        case measure => simp [intOf]; omega
    · have hjN : j = N := by
        rw [hchH.out, hNH.out, List.take_of_length_le (by omega)]
      subst hjN
      go_wp2
      go_ret
      exact ⟨rfl, Qt.drewN _ _⟩
theorem sc_all {w w' : World} (h : Fr All w w') : ∀ x o, x < w.heap.size → w'.cell? ⟨x, o, none⟩ = w.cell? ⟨x, o, none⟩ := fun x o h1 => h.cell (a := ⟨x, o, none⟩) h1 trivial

set_option maxRecDepth 100000 in
set_option maxHeartbeats 2000000 in
/-- logIs, at a log that is what is wanted. -/
theorem c18 {T : Nat → Prop} (w : World) (si st off un sb : Int) (vo le vov lev ev cv wv : Value) (vs ls : List Int) (rs ws : List Raw)
    (hvs : ∀ x ∈ vs, 0 ≤ x ∧ x ≤ 18446744073709551615) (hls : ∀ x ∈ ls, 0 ≤ x ∧ x ≤ 18446744073709551615)
    (h1 : U64s T w vo vs) (h2 : U64s T w vov vs) (h3 : U64s T w le ls) (h4 : U64s T w lev ls) (h5 : Ents T w ev rs) (h6 : Ents T w wv ws) (h7 : U64s T w cv (chgs ws)) (hok : EntOk ws) (hptr : ∀ r ∈ rs, ∃ p, r.ch = .pointer p)
    (hpl : rs.map Raw.plain = ws.map Raw.plain) (hn : ws.length ≤ 1099511627776) :
    Calls Try.prog 18 #[.agg #[.int .u64 si, .int .u64 st, vo, le, .int .u64 off, ev, cv, .int .u64 un, .int .u64 sb], .int .u64 si, .int .u64 st, vov, lev, .int .u64 off, wv, .int .u64 un, .int .u64 sb] w (RetTrueF w) := by
  obtain ⟨ao1, c1, e1⟩ : ∃ ao c, vo = .slice ao vs.length c := by obtain ⟨ao, c, rfl, _⟩ := h1; exact ⟨_, _, rfl⟩
  obtain ⟨ao3, c3, e3⟩ : ∃ ao c, le = .slice ao ls.length c := by obtain ⟨ao, c, rfl, _⟩ := h3; exact ⟨_, _, rfl⟩
  obtain ⟨ao7, c7, e7⟩ : ∃ ao c, cv = .slice ao (chgs ws).length c := by obtain ⟨ao, c, rfl, _⟩ := h7; exact ⟨_, _, rfl⟩
  subst e1 e3 e7
  have hlen : rs.length = ws.length := by have := congrArg List.length hpl; simpa using this
  obtain ⟨ao5, c5, e5⟩ : ∃ ao c, ev = .slice ao ws.length c := by obtain ⟨⟨ao, c, rfl, _⟩, _⟩ := h5; exact ⟨_, _, by rw [hlen]⟩
  obtain ⟨ao6, c6, e6⟩ : ∃ ao c, wv = .slice ao ws.length c := by obtain ⟨⟨ao, c, rfl, _⟩, _⟩ := h6; exact ⟨_, _, rfl⟩
  subst e5 e6
  have H : Hid (U64s T w (.slice ao1 vs.length c1) vs ∧ U64s T w vov vs ∧ U64s T w (.slice ao3 ls.length c3) ls ∧ U64s T w lev ls ∧ Ents T w (.slice ao5 ws.length c5) rs ∧ Ents T w (.slice ao6 ws.length c6) ws ∧ U64s T w (.slice ao7 (chgs ws).length c7) (chgs ws) ∧ EntOk ws ∧ (∀ r ∈ rs, ∃ p, r.ch = .pointer p) ∧ rs.map Raw.plain = ws.map Raw.plain ∧ rs.length = ws.length ∧ (∀ x ∈ vs, 0 ≤ x ∧ x ≤ 18446744073709551615) ∧ (∀ x ∈ ls, 0 ≤ x ∧ x ≤ 18446744073709551615)) :=
    ⟨h1, h2, h3, h4, h5, h6, h7, hok, hptr, hpl, hlen, hvs, hls⟩
  obtain ⟨N7, hN7⟩ : ∃ N7, N7 = (chgs ws).length := ⟨_, rfl⟩
  have H7 : Hid (N7 = (chgs ws).length) := hN7
  rw [← hN7]
  clear hN7 h1 h2 h3 h4 h5 h6 h7 hok hptr hpl hlen hvs hls
  go_enter Try.func18, Try.ntmps18
  go_wp2_with fail
  refine (c37 (T := T) _ _ _ vs H.out.2.2.2.2.2.2.2.2.2.2.2.1 (Rd.fr H.out.1 (Fr.alloc _ _ _)) (Rd.fr H.out.2.1 (Fr.alloc _ _ _))).mono ?_
  rintro e w' ⟨rfl, nq, rfl⟩
  go_wp2_with fail
  refine (c37 (T := T) _ _ _ ls H.out.2.2.2.2.2.2.2.2.2.2.2.2 (Rd.fr H.out.2.2.1 ((Fr.alloc _ _ _).tr (Fr.drewN _ _ _))) (Rd.fr H.out.2.2.2.1 ((Fr.alloc _ _ _).tr (Fr.drewN _ _ _)))).mono ?_
  rintro e w' ⟨rfl, nq2, rfl⟩
  go_wp2_with fail
  go_loopw [19] (fun i wr => ∃ k : Nat, k ≤ ws.length ∧ i = .int .i64 k ∧ Fr All (w.alloc (.cells #[.int .u64 si, .int .u64 st, .slice ao1 vs.length c1, .slice ao3 ls.length c3, .int .u64 off, .slice ao5 ws.length c5, .slice ao7 N7 c7, .int .u64 un, .int .u64 sb] 38)) wr) (fun i _ => ws.length - (intOf i).toNat)
  case atStart => exact ⟨0, by omega, rfl, (by first | exact Fr.drewN _ _ _ | exact (Fr.drewN _ _ _).tr (Fr.drewN _ _ _))⟩
  case round =>
    obtain ⟨k, hk, rfl, hfr⟩ := hrel
    by_cases hlt : k < ws.length
    · obtain ⟨_, _, _, _, ⟨⟨ao5', c5', x5, _, _, _, hp5⟩, hc5⟩, ⟨⟨ao6', c6', x6, _, _, _, hp6⟩, hc6⟩, _, hok, hptr, hpl, hlen, _, _⟩ := H.out
      simp only [Value.slice.injEq] at x5 x6
      obtain ⟨rfl, -, rfl⟩ := x5
      obtain ⟨rfl, -, rfl⟩ := x6
      obtain ⟨b5, o5, rfl, _, hcell5⟩ := hp5 (by omega)
      obtain ⟨b6, o6, rfl, _, hcell6⟩ := hp6 (by omega)
      obtain ⟨r, hr⟩ : ∃ r, rs[k]? = some r := ⟨rs[k]'(by omega), by simp⟩
      obtain ⟨q, hq⟩ : ∃ q, ws[k]? = some q := ⟨ws[k], by simp⟩
      have hrq : r.plain = q.plain := by
        have := congrArg (fun l => l[k]?) hpl
        simpa [hr, hq] using this
      obtain ⟨p, hp⟩ := hptr r (List.mem_of_getElem? hr)
      obtain ⟨_, bb, hbb⟩ := hok q (List.mem_of_getElem? hq)
      simp only [Raw.plain, Prod.mk.injEq] at hrq
      obtain ⟨hi, ht, hcmd, hfl⟩ := hrq
      have hbp : bb = p.isSome := by
        simp only [Raw.flag, hp, hbb] at hfl
        rw [← hfl]; cases p <;> rfl
      subst hbp
      obtain ⟨f0, f1, f2, f3⟩ := ents_cells hcell5 hr
      obtain ⟨g0, g1, g2, g3⟩ := ents_cells hcell6 hq
      rw [hp] at f3
      rw [hbb] at g3
      rw [← hi] at g0
      rw [← ht] at g1
      have fA : Fr All w wr := (Fr.alloc _ _ _).tr hfr
      have u1 : Hid (U8s T wr r.cv r.cmd) := Rd.fr (hc5 r (List.mem_of_getElem? hr)) fA.any
      have u2 : Hid (U8s T wr q.cv r.cmd) := by rw [hcmd]; exact Rd.fr (hc6 q (List.mem_of_getElem? hq)) fA.any
      have q0 := fA.cellSome f0 trivial
      have q1 := fA.cellSome f1 trivial
      have q2 := fA.cellSome f2 trivial
      have q3 := fA.cellSome f3 trivial
      have p0 := fA.cellSome g0 trivial
      have p1 := fA.cellSome g1 trivial
      have p2 := fA.cellSome g2 trivial
      have p3 := fA.cellSome g3 trivial
      have l5 : b5 < wr.heap.size := World.block_lt_of_cell? wr _ q0
      have l6 : b6 < wr.heap.size := World.block_lt_of_cell? wr _ p0
      have bx : wr.cell? ⟨w.heap.size, 5, none⟩ = some (.slice (some ⟨b5, o5, none⟩) ws.length c5) := hfr.cellSome (a := ⟨w.heap.size, 5, none⟩) (by simp) trivial
      have lw : w.heap.size < wr.heap.size := World.block_lt_of_cell? wr _ bx
      clear hcell5 hcell6 hr hq hi ht hcmd hfl hp hbb f0 f1 f2 f3 g0 g1 g2 g3 hp5 hp6 hc5 hc6 hok hptr hpl hlen
      go_wp2
      go_region_held3 (fun w' => ∀ x o, x < wr.heap.size → w'.cell? ⟨x, o, none⟩ = wr.cell? ⟨x, o, none⟩)
        (first | exact sc_all (Fr.drew _ _) | exact sc_all ((Fr.drew _ _).tr hf2))
        (first | (go_at_call 31; refine (c31 (T := T) _ _ _ _ _ r.cmd p (by exact Rd.fr u1.out (Fr.drew _ _)) (by exact Rd.fr u2.out (Fr.drew _ _))).mono ?_; rintro e w2 ⟨rfl, hf2⟩))
      go_wp2
      go_roundw
      case rel => exact ⟨k + 1, by omega, by go_num, hfr.tr ((Fr.drew _ _).tr hf2)⟩
      case measure => simp [intOf]; omega
    · have bx : wr.cell? ⟨w.heap.size, 6, none⟩ = some (.slice ao7 N7 c7) := hfr.cellSome (a := ⟨w.heap.size, 6, none⟩) (by simp) trivial
      have fA : Fr All w wr := (Fr.alloc _ _ _).tr hfr
      go_wp2_with fail
      have hx := H7.out
      subst hx
      refine (c38 (T := T) _ _ _ ws (Rd.fr H.out.2.2.2.2.2.2.1 fA.any) (H.out.2.2.2.2.2.1.fr fA.any) H.out.2.2.2.2.2.2.2.1 hn).mono ?_
      rintro e w2 ⟨rfl, hq⟩
      go_wp2
      go_ret
      exact ⟨rfl, fA.tr hq.fr⟩
end Go.Proofs.Qxb6601153a
