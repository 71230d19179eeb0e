/-
  SEAT b6601153a. FnRestoreLeavesSoundLogAndIsIdempotent. By an AI agent.
-/
import Derived.Test.Qxb6601153aLaw1
import Derived.Test.Qxb6601153aBytes2
import Derived.Test.Qxb6601153aRest3
import Derived.Test.Qxb6601153aSameLog
import Derived.Test.Qxb6601153aCloneLog
import Derived.Test.Qxb6601153aShape
namespace Go.Proofs.Qxb6601153a
open Go.RowKit
set_option linter.unusedVariables false
theorem wrap_id {x : Int} (h0 : 0 ≤ x) (h1 : x ≤ 18446744073709551615) : IntKind.u64.wrap x = x := by
  unfold IntKind.wrap; simp [IntKind.bits, IntKind.signed]; omega
theorem rsS_le {si st off : Int} {rs : List Raw} {sb i t cm : Int} : rsS si st off rs sb i t cm ≤ sb := by
  unfold rsS; split <;> omega
theorem rsU_ge {si st off : Int} {rs : List Raw} {un i t : Int} : succU i ≤ rsU si st off rs un i t := by
  unfold rsU; split <;> omega
theorem rsR_runs {si st off : Int} {rs : List Raw} {i t : Int} (h : Runs off rs) (h1 : off ≤ si) (h2 : si ≤ off + rs.length) : Runs i (rsR si st off rs i t) := by
  unfold rsR
  by_cases hk : termF si st off rs i = some t
  · rw [if_pos hk]
    have hr := termF_rng h1 h2 hk
    have := h.drop (i - off).toNat
    have e : off + ((i - off).toNat : Int) = i := by omega
    rw [e] at this
    exact this
  · rw [if_neg hk]; intro k r hr; simp at hr
theorem rsR_room {si st off : Int} {rs : List Raw} {i t : Int} (h1 : off ≤ si) (h2 : si ≤ off + rs.length) (h3 : off + rs.length < 18446744073709551615) : i + (rsR si st off rs i t).length < 18446744073709551615 ∨ rsR si st off rs i t = [] := by
  unfold rsR
  by_cases hk : termF si st off rs i = some t
  · rw [if_pos hk]
    have hr := termF_rng h1 h2 hk
    left; simp; omega
  · rw [if_neg hk]; right; rfl
theorem rsR_get {si st off : Int} {rs : List Raw} {i t : Int} (h1 : off ≤ si) (h2 : si ≤ off + rs.length) {k : Nat} {r : Raw} (hr : (rsR si st off rs i t)[k]? = some r) : ∃ m : Nat, i = off + m ∧ rs[m + k]? = some r := by
  unfold rsR at hr
  by_cases hk : termF si st off rs i = some t
  · rw [if_pos hk, List.getElem?_drop] at hr
    have := termF_rng h1 h2 hk
    exact ⟨(i - off).toNat, by omega, hr⟩
  · rw [if_neg hk] at hr; simp at hr
/-- The same snapshot once more. -/
theorem again {i t U S cm : Int} {rs : List Raw} (hU : succU i ≤ U) : rsU i t i rs U i t = U ∧ rsS i t i rs S i t cm = S ∧ rsR i t i rs i t = rs := by
  have hk : termF i t i rs i = some t := termF_snap _ _ _ _
  refine ⟨by unfold rsU; rw [if_pos hk]; omega, by unfold rsS; rw [if_pos hk], by unfold rsR; rw [if_pos hk]; simp⟩

set_option maxRecDepth 100000 in
set_option maxHeartbeats 4000000 in
/-- FnRestoreLeavesSoundLogAndIsIdempotent. -/
theorem c6 (w : World) (si st off un sb i t cm : Int) (v3 v4 v9 v10 : Value) (rs0 : List Raw) (ns vs ls : List Int) (h3 : Ents All w v3 rs0) (h4 : U64s All w v4 ns) (h9 : U64s All w v9 vs) (h10 : U64s All w v10 ls)
    (hb3 : ∀ r ∈ rs0, ∃ b, r.ch = .bool b) (hi3 : IdxOk rs0) (hvs : ∀ x ∈ vs, 0 ≤ x ∧ x ≤ 18446744073709551615) (hls : ∀ x ∈ ls, 0 ≤ x ∧ x ≤ 18446744073709551615) (s0 : 0 ≤ si) (s1 : si ≤ 18446744073709551615) (f0 : 0 ≤ off) (f1 : off ≤ 18446744073709551615) (i0 : 0 ≤ i) (i1 : i ≤ 18446744073709551615) :
    Calls Try.prog 6 #[.int .u64 si, .int .u64 st, .int .u64 off, v3, v4, .int .u64 un, .int .u64 sb, .int .u64 i, .int .u64 t, v9, v10, .int .u64 cm] w (RetTrueF w) := by
  obtain ⟨a3, k3, e3⟩ : ∃ a c, v3 = .slice a rs0.length c := by obtain ⟨⟨a, c, rfl, _⟩, _⟩ := h3; exact ⟨_, _, rfl⟩
  obtain ⟨a4, k4, e4⟩ : ∃ a c, v4 = .slice a ns.length c := by obtain ⟨a, c, rfl, _⟩ := h4; exact ⟨_, _, rfl⟩
  obtain ⟨a9, k9, e9⟩ : ∃ a c, v9 = .slice a vs.length c := by obtain ⟨a, c, rfl, _⟩ := h9; exact ⟨_, _, rfl⟩
  obtain ⟨a10, k10, e10⟩ : ∃ a c, v10 = .slice a ls.length c := by obtain ⟨a, c, rfl, _⟩ := h10; exact ⟨_, _, rfl⟩
  subst e3 e4 e9 e10
  have H : Hid (Ents All w (.slice a3 rs0.length k3) rs0 ∧ U64s All w (.slice a4 ns.length k4) ns ∧ U64s All w (.slice a9 vs.length k9) vs ∧ U64s All w (.slice a10 ls.length k10) ls ∧ (∀ r ∈ rs0, ∃ b, r.ch = .bool b) ∧ IdxOk rs0 ∧ (∀ x ∈ vs, 0 ≤ x ∧ x ≤ 18446744073709551615) ∧ (∀ x ∈ ls, 0 ≤ x ∧ x ≤ 18446744073709551615) ∧ 0 ≤ i ∧ i ≤ 18446744073709551615) := ⟨h3, h4, h9, h10, hb3, hi3, hvs, hls, i0, i1⟩
  clear h3 h4 h9 h10 hb3 hi3 hvs hls i0 i1
  go_enter Try.func6, Try.ntmps6
  go_wp2_with fail
  refine (c30 (T := All) w _ _ _ _ _ _ _ _ _ _ _ _ rs0 ns vs ls H.out.1 H.out.2.1 H.out.2.2.1 H.out.2.2.2.1).mono ?_
  rintro e w' ⟨b, rfl, ⟨nq, rfl⟩, hb⟩
  cases b with
  | false =>
    go_wp2
    go_ret
    exact ⟨rfl, Fr.drewN _ _ _⟩
  | true =>
    have hb' := hb rfl
    clear hb
    obtain ⟨l3, c3, l4, l9, l10⟩ := hb'
    have HB : Hid (∀ r ∈ rs0, r.cmd.length ≤ 1048576) := c3
    clear c3
    by_cases t3 : 65536 < rs0.length
    · go_wp2
      go_ret
      exact ⟨rfl, Fr.drewN _ _ _⟩
    have d3 : decide ((65536 : Int) < (rs0.length : Int)) = false := by simp; omega
    by_cases t4 : 65536 < ns.length
    · go_wp2
      go_ret
      exact ⟨rfl, Fr.drewN _ _ _⟩
    have d4 : decide ((65536 : Int) < (ns.length : Int)) = false := by simp; omega
    by_cases t9 : 65536 < vs.length
    · go_wp2
      go_ret
      exact ⟨rfl, Fr.drewN _ _ _⟩
    have d9 : decide ((65536 : Int) < (vs.length : Int)) = false := by simp; omega
    by_cases t10 : 65536 < ls.length
    · go_wp2
      go_ret
      exact ⟨rfl, Fr.drewN _ _ _⟩
    go_wp2_with fail
    refine (c26 (T := All) _ _ _ _ _ rs0 ns vs ls (H.out.1.fr (Fr.drewN _ _ _)) (Rd.fr H.out.2.1 (Fr.drewN _ _ _)) (Rd.fr H.out.2.2.1 (Fr.drewN _ _ _)) (Rd.fr H.out.2.2.2.1 (Fr.drewN _ _ _))).mono ?_
    rintro e w' ⟨b, rfl, ⟨nq2, rfl⟩, -⟩
    cases b with
    | false =>
      go_wp2
      go_ret
      exact ⟨rfl, by first | exact Fr.drewN _ _ _ | exact (Fr.drewN _ _ _).tr (Fr.drewN _ _ _)⟩
    | true =>
      go_wp2_with fail
      have hok0 : EntOk rs0 := fun r hr => ⟨HB.out r hr, H.out.2.2.2.2.1 r hr⟩
      refine (c9 (T := All) _ _ rs0 (H.out.1.fr (Fr.drewN _ _ _)) (by omega) hok0).mono ?_
      rintro e w1 ⟨v1, rs, rfl, g1, o1, u1, p1, hb1⟩
      have G1 : Fr All w w1 := (Fr.drewN _ _ _).tr g1
      have E1 : Ents All w1 v1 rs := ⟨Rd.own o1 (fun _ _ _ => trivial), fun r hr => Rd.any (u1 r hr)⟩
      have P1 : Pl rs rs0 := p1
      clear g1 o1 u1 p1
      obtain ⟨a1, k1, e1⟩ : ∃ a c, v1 = .slice a rs.length c := by obtain ⟨⟨a, c, rfl, _⟩, _⟩ := E1; exact ⟨_, _, rfl⟩
      subst e1
      go_wp2_with fail
      refine (c10 (T := All) _ _ ns (Rd.fr H.out.2.1 G1) (by omega)).mono ?_
      rintro e w2 ⟨v2, rfl, g2, o2⟩
      have G2 : Fr All w w2 := G1.tr g2
      have E1 := E1.fr g2
      have E2 : U64s All w2 v2 ns := Rd.own o2 (fun _ _ _ => trivial)
      clear g2 o2 G1
      obtain ⟨a2, k2, e2⟩ : ∃ a c, v2 = .slice a ns.length c := by obtain ⟨a, c, rfl, _⟩ := E2; exact ⟨_, _, rfl⟩
      subst e2
      go_wp2_with fail
      refine (c10 (T := All) _ _ vs (Rd.fr H.out.2.2.1 G2) (by omega)).mono ?_
      rintro e w3 ⟨v5, rfl, g3, o3⟩
      have G3 : Fr All w w3 := G2.tr g3
      have E1 := E1.fr g3
      have E2 := E2.fr g3
      have E3 : U64s All w3 v5 vs := Rd.own o3 (fun _ _ _ => trivial)
      clear g3 o3 G2
      obtain ⟨a5, k5, e5⟩ : ∃ a c, v5 = .slice a vs.length c := by obtain ⟨a, c, rfl, _⟩ := E3; exact ⟨_, _, rfl⟩
      subst e5
      go_wp2_with fail
      refine (c10 (T := All) _ _ ls (Rd.fr H.out.2.2.2.1 G3) (by omega)).mono ?_
      rintro e w4 ⟨v6, rfl, g4, o4⟩
      have G4 : Fr All w w4 := G3.tr g4
      have E1 := E1.fr g4
      have E2 := E2.fr g4
      have E3 := E3.fr g4
      have E4 : U64s All w4 v6 ls := Rd.own o4 (fun _ _ _ => trivial)
      clear g4 o4 G3
      obtain ⟨a6, k6, e6⟩ : ∃ a c, v6 = .slice a ls.length c := by obtain ⟨a, c, rfl, _⟩ := E4; exact ⟨_, _, rfl⟩
      subst e6
      have okR : EntOk rs := fun r hr => ⟨P1.symm.cmdLen HB.out r hr, hb1 r hr⟩
      have ixR : IdxOk rs := P1.symm.idxOk H.out.2.2.2.2.2.1
      have lR : rs.length ≤ 65536 := by rw [P1.len]; omega
      have HE : Hid (Ents All w4 (.slice a1 rs.length k1) rs ∧ U64s All w4 (.slice a2 ns.length k2) ns ∧ U64s All w4 (.slice a5 vs.length k5) vs ∧ U64s All w4 (.slice a6 ls.length k6) ls ∧ EntOk rs ∧ IdxOk rs ∧ Fr All w w4) := ⟨E1, E2, E3, E4, okR, ixR, G4⟩
      clear E1 E2 E3 E4 okR ixR G4 P1 hb1 hok0 HB d3 d4 d9
      go_wp2_with fail
      refine (c11 (T := All) _ si st off _ _ rs ns HE.out.1 HE.out.2.1 HE.out.2.2.2.2.1 (by omega) (by omega) s0 s1 f0 f1).mono ?_
      rintro e w' ⟨b, rfl, ⟨nq3, rfl⟩, hlog⟩
      cases b with
      | false =>
        go_wp2
        go_ret
        exact ⟨rfl, HE.out.2.2.2.2.2.2.tr (Fr.drewN _ _ _)⟩
      | true =>
        have hlog' := hlog rfl
        have room := hlog'.room
        have HL : Hid (LogOk si st off rs ns) := hlog'
        clear hlog hlog'
        go_wp2_with fail
        obtain ⟨W, hW⟩ : ∃ W, W = w4.drewN nq3 := ⟨_, rfl⟩
        have fW : Fr All w4 W := by rw [hW]; exact Fr.drewN _ _ _
        rw [← hW]
        clear hW
        have EL : Hid (Ents All W (.slice a1 rs.length k1) rs ∧ U64s All W (.slice a2 ns.length k2) ns ∧ U64s All W (.slice a5 vs.length k5) vs ∧ U64s All W (.slice a6 ls.length k6) ls ∧ Fr All w W) := ⟨HE.out.1.fr fW, HE.out.2.1.fr fW, HE.out.2.2.1.fr fW, HE.out.2.2.2.1.fr fW, HE.out.2.2.2.2.2.2.tr fW⟩
        refine (c14 (T := All) _ si st off un sb _ _ rs ns EL.out.1 EL.out.2.1 HE.out.2.2.2.2.1 (by omega) (by omega)).mono ?_
        rintro e w5 ⟨ev, cv, rs2, rfl, g5, oE, uE, pE, hpE, oC⟩
        obtain ⟨ae, ne, ce, e1⟩ := own_shape oE
        obtain ⟨ac, nc, cc, e2⟩ := own_shape oC
        subst e1 e2
        go_wp2_with fail
        refine (c28 (T := All) _ i t _ _ vs ls (Rd.fr EL.out.2.2.1 g5) (Rd.fr EL.out.2.2.2.1 g5) (by omega) (by omega)).mono ?_
        rintro e w6 ⟨vo, le, rfl, g6, oV, oL⟩
        obtain ⟨b1, j1, e1⟩ : ∃ a c, vo = .slice a vs.length c := by obtain ⟨a, c, rfl, _⟩ := oV; exact ⟨_, _, rfl⟩
        obtain ⟨b2, j2, e2⟩ : ∃ a c, le = .slice a ls.length c := by obtain ⟨a, c, rfl, _⟩ := oL; exact ⟨_, _, rfl⟩
        subst e1 e2
        have PE : Pl rs2 rs := pE
        have hch : ns = chgs rs2 := by rw [PE.chgs]; exact HL.out.chg
        have hrun : Runs off rs2 := PE.symm.runs HL.out.idx
        have hE6 : Rd All w6 (.slice ae ne ce) rs2.length (flat rs2) := Rd.fr (Rd.own oE (fun _ _ _ => trivial)) g6
        have hC6 : U64s All w6 (.slice ac nc cc) (chgs rs2) := by rw [← hch]; exact Rd.fr (Rd.own oC (fun _ _ _ => trivial)) g6
        have h1c : ∀ u ∈ flat rs2, u.oneCell' = true := flat_one (fun r hr => ⟨cvs_of uE r hr, hpE r hr⟩)
        go_wp2_with fail
        refine (c27 (T := All) w6 si st off un sb none none b1 b2 0 0 0 0 vs.length ls.length j1 j2 (.slice ae ne ce) (.slice ac nc cc) rs2 i t cm hE6 hC6 f0 (.inl (by rw [PE.len]; exact room)) (by rw [PE.len]; omega) HL.out.lo (by rw [PE.len]; exact HL.out.hi) f1 H.out.2.2.2.2.2.2.2.2.1 H.out.2.2.2.2.2.2.2.2.2 h1c hrun).mono ?_
        rintro e w7 ⟨ev', cv', rfl, oE', oC', g7⟩
        obtain ⟨U, hU⟩ : ∃ U, U = rsU si st off rs2 un i t := ⟨_, rfl⟩
        obtain ⟨S, hS⟩ : ∃ S, S = rsS si st off rs2 sb i t cm := ⟨_, rfl⟩
        obtain ⟨rs', hR⟩ : ∃ rs', rs' = rsR si st off rs2 i t := ⟨_, rfl⟩
        rw [← hR] at oE' oC'
        rw [← hU, ← hS]
        obtain ⟨ae', ce', e1⟩ : ∃ a c, ev' = .slice a rs'.length c := by obtain ⟨a, c, rfl, _⟩ := oE'; exact ⟨_, _, rfl⟩
        obtain ⟨ac', cc', e2⟩ : ∃ a c, cv' = .slice a (chgs rs').length c := by obtain ⟨a, c, rfl, _⟩ := oC'; exact ⟨_, _, rfl⟩
        subst e1 e2
        have uR : ∀ r ∈ rs', U8s All w7 r.cv r.cmd := by
          intro r hr
          have hr2 : r ∈ rs2 := by rw [hR] at hr; exact rsR_mem hr
          exact Rd.fr (Rd.any (uE r hr2)) (g6.tr g7)
        have hpR : ∀ r ∈ rs', ∃ p, r.ch = .pointer p := by
          intro r hr
          rw [hR] at hr; exact hpE r (rsR_mem hr)
        have hlen' : rs'.length ≤ 65536 := by rw [hR]; have := rsR_len (si := si) (st := st) (off := off) (rs := rs2) (i := i) (t := t); have := PE.len; omega
        have HM : Hid (U = rsU si st off rs2 un i t ∧ S = rsS si st off rs2 sb i t cm ∧ rs' = rsR si st off rs2 i t ∧ Pl rs2 rs ∧ (∀ r ∈ rs', ∃ p, r.ch = .pointer p) ∧ Runs off rs2 ∧ (∀ u ∈ flat rs2, u.oneCell' = true)) := ⟨hU, hS, hR, PE, hpR, hrun, h1c⟩
        have gW7 : Fr All W w7 := (g5.tr g6).tr g7
        have HG : Hid (Ents All w7 (.slice ae' rs'.length ce') rs' ∧ U64s All w7 (.slice ac' (chgs rs').length cc') (chgs rs') ∧ Ents All w7 (.slice a1 rs.length k1) rs ∧ U64s All w7 (.slice b1 vs.length j1) vs ∧ U64s All w7 (.slice b2 ls.length j2) ls ∧ U64s All w7 (.slice a5 vs.length k5) vs ∧ U64s All w7 (.slice a6 ls.length k6) ls ∧ Fr All w w7) :=
          ⟨⟨oE', uR⟩, oC', EL.out.1.fr gW7, Rd.fr oV g7, Rd.fr oL g7, EL.out.2.2.1.fr gW7, EL.out.2.2.2.1.fr gW7, EL.out.2.2.2.2.tr gW7⟩
        clear gW7 uR hpR oE' oC' g7 hrun hch PE g5 oE uE pE hpE oC EL fW hE6 hC6 h1c g6 oV oL hU hS hR
        go_wp2_with fail
        obtain ⟨W7, hW7⟩ : ∃ W7, W7 = w7.alloc (.cells #[.int .u64 i, .int .u64 t, .slice b1 vs.length j1, .slice b2 ls.length j2, .int .u64 i, .slice ae' rs'.length ce', .slice ac' (chgs rs').length cc', .int .u64 U, .int .u64 S] 38) := ⟨_, rfl⟩
        have hbx : Hid (W7.heap[w7.heap.size]? = some (.cells #[.int .u64 i, .int .u64 t, .slice b1 vs.length j1, .slice b2 ls.length j2, .int .u64 i, .slice ae' rs'.length ce', .slice ac' (chgs rs').length cc', .int .u64 U, .int .u64 S] 38 (0, 0))) := by rw [hW7]; exact heap_alloc_new _ _
        have f77 : Fr All w7 W7 := by rw [hW7]; exact Fr.alloc _ _ _
        rw [← hW7]
        clear hW7
        have HW : Hid (Ents All W7 (.slice ae' rs'.length ce') rs' ∧ U64s All W7 (.slice ac' (chgs rs').length cc') (chgs rs') ∧ Ents All W7 (.slice a1 rs.length k1) rs ∧ U64s All W7 (.slice b1 vs.length j1) vs ∧ U64s All W7 (.slice b2 ls.length j2) ls ∧ U64s All W7 (.slice a5 vs.length k5) vs ∧ U64s All W7 (.slice a6 ls.length k6) ls ∧ Fr All w W7) :=
          ⟨HG.out.1.fr f77, Rd.fr HG.out.2.1 f77, HG.out.2.2.1.fr f77, Rd.fr HG.out.2.2.2.1 f77, Rd.fr HG.out.2.2.2.2.1 f77, Rd.fr HG.out.2.2.2.2.2.1 f77, Rd.fr HG.out.2.2.2.2.2.2.1 f77, HG.out.2.2.2.2.2.2.2.tr f77⟩
        clear HG f77
        have HP : Hid (S ≤ sb ∧ succU i ≤ U ∧ Runs i rs' ∧ (i + rs'.length < 18446744073709551615 ∨ rs' = []) ∧ i + rs'.length ≤ 18446744073709551615) := by
          have hlen := HM.out.2.2.2.1.len
          refine ⟨?_, ?_, ?_, ?_, ?_⟩
          · rw [HM.out.2.1]; exact rsS_le
          · rw [HM.out.1]; exact rsU_ge
          · rw [HM.out.2.2.1]; exact rsR_runs HM.out.2.2.2.2.2.1 HL.out.lo (by rw [hlen]; exact HL.out.hi)
          · rw [HM.out.2.2.1]; exact rsR_room HL.out.lo (by rw [hlen]; exact HL.out.hi) (by rw [hlen]; exact room)
          · rw [HM.out.2.2.1]; exact rsR_len2 HL.out.lo (by rw [hlen]; exact HL.out.hi) (by rw [hlen]; omega) H.out.2.2.2.2.2.2.2.2.2
        have x0 : W7.cell? ⟨w7.heap.size, 0, none⟩ = some (.int .u64 i) := by rw [cell_of_row W7 _ _ _ _ _ hbx.out]; rfl
        have x1 : W7.cell? ⟨w7.heap.size, 1, none⟩ = some (.int .u64 t) := by rw [cell_of_row W7 _ _ _ _ _ hbx.out]; rfl
        have x4 : W7.cell? ⟨w7.heap.size, 4, none⟩ = some (.int .u64 i) := by rw [cell_of_row W7 _ _ _ _ _ hbx.out]; rfl
        have hbx7 := hbx.out
        go_wp2_with (refine wpList_load_row rfl 38 (.tmp 25) rfl w7.heap.size rfl 38 _ (0, 0) _ hbx7 Try.underlying38 rfl Try.size38 ?_)
        refine (c21 (T := All) W7 i t i U S b1 b2 vs.length ls.length j1 j2 _ _ rs' HW.out.1.1 HW.out.2.1 HM.out.2.2.2.2.1 H.out.2.2.2.2.2.2.2.2.1 (Int.le_refl _) (by omega) HP.out.2.2.2.2 HP.out.2.2.1 (fun h => absurd h (by omega)) (by omega)).mono ?_
        rintro e W8 ⟨rfl, f8⟩
        have hbx8 : Hid (W8.heap[w7.heap.size]? = some (.cells #[.int .u64 i, .int .u64 t, .slice b1 vs.length j1, .slice b2 ls.length j2, .int .u64 i, .slice ae' rs'.length ce', .slice ac' (chgs rs').length cc', .int .u64 U, .int .u64 S] 38 (0, 0))) := f8.heap hbx7 trivial
        have x7 : W8.cell? ⟨w7.heap.size, 7, none⟩ = some (.int .u64 U) := by rw [cell_of_row W8 _ _ _ _ _ hbx8.out]; rfl
        have x8 : W8.cell? ⟨w7.heap.size, 8, none⟩ = some (.int .u64 S) := by rw [cell_of_row W8 _ _ _ _ _ hbx8.out]; rfl
        have x5 : W8.cell? ⟨w7.heap.size, 5, none⟩ = some (.slice ae' rs'.length ce') := by rw [cell_of_row W8 _ _ _ _ _ hbx8.out]; rfl
        have hd1 : decide (sb < S) = false := by have := HP.out.1; simp; omega
        clear x0 x1 x4 hbx7
        go_upto_region 20 with fail
        go_cut [129] (fun s wx => s = .bool false ∧ wx = W8)
        case first =>
          by_cases him : i < 18446744073709551615
          · have hd2 : decide (i < 18446744073709551615) = true := by simpa using him
            have hd3 : decide (U ≤ i) = false := by have := HP.out.2.1; rw [succU_lt H.out.2.2.2.2.2.2.2.2.1 him] at this; simp; omega
            go_wp2_with fail
            go_meet
            exact ⟨rfl, rfl⟩
          · have hd2 : decide (i < 18446744073709551615) = false := by simpa using him
            go_wp2_with fail
            go_meet
            exact ⟨rfl, rfl⟩
        case rest =>
          obtain ⟨rfl, rfl⟩ := hcut
          have H8 : Hid (Ents All wc (.slice ae' rs'.length ce') rs' ∧ U64s All wc (.slice ac' (chgs rs').length cc') (chgs rs') ∧ Ents All wc (.slice a1 rs.length k1) rs ∧ U64s All wc (.slice b1 vs.length j1) vs ∧ U64s All wc (.slice b2 ls.length j2) ls ∧ U64s All wc (.slice a5 vs.length k5) vs ∧ U64s All wc (.slice a6 ls.length k6) ls ∧ Fr All w wc) :=
            ⟨HW.out.1.fr f8, Rd.fr HW.out.2.1 f8, HW.out.2.2.1.fr f8, Rd.fr HW.out.2.2.2.1 f8, Rd.fr HW.out.2.2.2.2.1 f8, Rd.fr HW.out.2.2.2.2.2.1 f8, Rd.fr HW.out.2.2.2.2.2.2.1 f8, HW.out.2.2.2.2.2.2.2.tr f8⟩
          clear HW f8 hbx x7 x8 hd1
          go_wp2_with fail
          go_loopw [26] (fun I wr => ∃ k : Nat, k ≤ rs'.length ∧ I = .int .i64 k ∧ Fr All wc wr) (fun I _ => rs'.length - (intOf I).toNat)
          case atStart => exact ⟨0, by omega, rfl, Fr.refl _ _⟩
          case round =>
            obtain ⟨k, hk, rfl, hfr⟩ := hrel
            have x5r := hfr.cellSome x5 trivial
            clear x5
            by_cases hlt : k < rs'.length
            · obtain ⟨⟨⟨ao5', c5', x5, _, _, _, hp5⟩, hc5⟩, _, ⟨⟨ao6', c6', x6, _, _, _, hp6⟩, hc6⟩, _⟩ := H8.out
              simp only [Value.slice.injEq, true_and] at x5 x6
              obtain ⟨rfl, rfl⟩ := x5
              obtain ⟨rfl, rfl⟩ := x6
              obtain ⟨r, hr⟩ : ∃ r, rs'[k]? = some r := ⟨rs'[k]'(by omega), by simp⟩
              obtain ⟨m, him, hr2⟩ := rsR_get HL.out.lo (by rw [HM.out.2.2.2.1.len]; exact HL.out.hi) (by rw [← HM.out.2.2.1]; exact hr)
              obtain ⟨q, hq, hrq⟩ := HM.out.2.2.2.1.get hr2
              have hmk : m + k < rs.length := (List.getElem?_eq_some_iff.1 hq).1
              obtain ⟨b5, o5, rfl, _, hcell5⟩ := hp5 (by omega)
              obtain ⟨b6, o6, rfl, _, hcell6⟩ := hp6 (by omega)
              obtain ⟨p, hp⟩ := HM.out.2.2.2.2.1 r (List.mem_of_getElem? hr)
              obtain ⟨_, bb, hbb⟩ := HE.out.2.2.2.2.1 q (List.mem_of_getElem? hq)
              simp only [Raw.plain, Prod.mk.injEq] at hrq
              obtain ⟨hi, ht, hcmd, hfl⟩ := hrq
              have hbp : bb = p.isSome := by
                simp only [Raw.flag, hp, hbb] at hfl
                rw [← hfl]; cases p <;> rfl
              subst hbp
              have hJ : r.idx = i + k + 1 := HP.out.2.2.1 k r hr
              obtain ⟨J, hJe⟩ : ∃ J, J = r.idx := ⟨_, rfl⟩
              have hmk2 : m + k = (J - off).toNat - 1 := by omega
              rw [hmk2] at hq
              obtain ⟨f0, f1, f2, f3⟩ := ents_cells hcell5 hr
              obtain ⟨g0, g1, g2, g3⟩ := ents_cells hcell6 hq
              rw [hp] at f3
              rw [hbb] at g3
              rw [← hi, ← hJe] at g0
              rw [← hJe] at f0
              rw [← ht] at g1
              have u1 : Hid (U8s All wr r.cv r.cmd) := Rd.fr (hc5 r (List.mem_of_getElem? hr)) hfr
              have u2 : Hid (U8s All wr q.cv r.cmd) := by rw [hcmd]; exact Rd.fr (hc6 q (List.mem_of_getElem? hq)) hfr
              have q0 := hfr.cellSome f0 trivial
              have q1 := hfr.cellSome f1 trivial
              have q2 := hfr.cellSome f2 trivial
              have q3 := hfr.cellSome f3 trivial
              have p0 := hfr.cellSome g0 trivial
              have p1 := hfr.cellSome g1 trivial
              have p2 := hfr.cellSome g2 trivial
              have p3 := hfr.cellSome g3 trivial
              have l5 : b5 < wr.heap.size := World.block_lt_of_cell? wr _ q0
              have l6 : b6 < wr.heap.size := World.block_lt_of_cell? wr _ p0
              have lw : w7.heap.size < wr.heap.size := World.block_lt_of_cell? wr _ x5r
              have hd1 : decide (J ≤ off) = false := by simp; omega
              have hd2 : decide ((rs.length : Int) < J - off) = false := by simp; omega
              have hj1 : off < J := by omega
              have hj2 : J - off ≤ rs.length := by omega
              have hj3 : J ≤ 18446744073709551615 := by omega
              have hj4 : J - off - 1 < rs.length := by omega
              have hj5 : 1 ≤ J - off := by omega
              have hw1 : IntKind.u64.wrap (J - off) = J - off := wrap_id (by omega) (by omega)
              have hw2 : IntKind.u64.wrap (J - off - 1) = J - off - 1 := wrap_id (by omega) (by omega)
              clear hcell5 hcell6 hr hq hi ht hcmd hfl hp hbb f0 f1 f2 f3 g0 g1 g2 g3 hp5 hp6 hc5 hc6 hJ hJe hmk2 hr2 him hmk
              go_wp2
              go_region_held3 (fun w' => ∀ x o, x < wr.heap.size → w'.cell? ⟨x, o, none⟩ = wr.cell? ⟨x, o, none⟩)
                (first | exact sc_all (Fr.drew _ _) | exact sc_all ((Fr.drew _ _).tr hf2))
                (first | (go_at_call 31; refine (c31 (T := All) _ _ _ _ _ r.cmd p (by exact Rd.fr u1.out (Fr.drew _ _)) (by exact Rd.fr u2.out (Fr.drew _ _))).mono ?_; rintro e w2 ⟨rfl, hf2⟩))
              go_wp2
              go_roundw
              case rel => exact ⟨k + 1, by omega, by go_num, hfr.tr ((Fr.drew _ _).tr hf2)⟩
              case measure => simp [intOf]; omega
            · have H9 : Hid (Ents All wr (.slice ae' rs'.length ce') rs' ∧ U64s All wr (.slice ac' (chgs rs').length cc') (chgs rs') ∧ Ents All wr (.slice a1 rs.length k1) rs ∧ U64s All wr (.slice b1 vs.length j1) vs ∧ U64s All wr (.slice b2 ls.length j2) ls ∧ U64s All wr (.slice a5 vs.length k5) vs ∧ U64s All wr (.slice a6 ls.length k6) ls ∧ Fr All w wr) :=
                ⟨H8.out.1.fr hfr, Rd.fr H8.out.2.1 hfr, H8.out.2.2.1.fr hfr, Rd.fr H8.out.2.2.2.1 hfr, Rd.fr H8.out.2.2.2.2.1 hfr, Rd.fr H8.out.2.2.2.2.2.1 hfr, Rd.fr H8.out.2.2.2.2.2.2.1 hfr, H8.out.2.2.2.2.2.2.2.tr hfr⟩
              have hbx9 := hfr.heap hbx8.out trivial
              have h1c : ∀ u ∈ flat rs', u.oneCell' = true := flat_one (fun r hr => ⟨cvs_of H9.out.1.2 r hr, HM.out.2.2.2.2.1 r hr⟩)
              have hcl : (chgs rs').length ≤ rs'.length := chgs_len rs'
              have H1c : Hid (∀ u ∈ flat rs', u.oneCell' = true) := h1c
              have HB9 : Hid (wr.heap[w7.heap.size]? = some (.cells #[.int .u64 i, .int .u64 t, .slice b1 vs.length j1, .slice b2 ls.length j2, .int .u64 i, .slice ae' rs'.length ce', .slice ac' (chgs rs').length cc', .int .u64 U, .int .u64 S] 38 (0, 0))) := hbx9
              clear hfr H8 hbx8 h1c
              go_wp2_with (refine wpList_load_row rfl 38 (.tmp 25) rfl w7.heap.size rfl 38 _ (0, 0) _ hbx9 Try.underlying38 rfl Try.size38 ?_)
              clear x5r hbx9
              refine (c23 (T := All) wr i t i U S _ _ _ _ vs ls (chgs rs') rs' H9.out.2.2.2.1 H9.out.2.2.2.2.1 H9.out.1.1 H9.out.2.1 H1c.out (by omega) (by omega) (by omega) (by omega)).mono ?_
              rintro e w10 ⟨vo3, le3, ev3, cv3, rfl, g10, oV3, oL3, oE3, oC3⟩
              obtain ⟨a31, k31, e1⟩ : ∃ a c, vo3 = .slice a vs.length c := by obtain ⟨a, c, rfl, _⟩ := oV3; exact ⟨_, _, rfl⟩
              obtain ⟨a32, k32, e2⟩ : ∃ a c, le3 = .slice a ls.length c := by obtain ⟨a, c, rfl, _⟩ := oL3; exact ⟨_, _, rfl⟩
              subst e1 e2
              obtain ⟨a33, n33, k33, e3⟩ := own_shape oE3
              obtain ⟨a34, n34, k34, e4⟩ := own_shape oC3
              subst e3 e4
              go_wp2_with fail
              refine (c28 (T := All) _ i t _ _ vs ls (Rd.fr H9.out.2.2.2.2.2.1 g10) (Rd.fr H9.out.2.2.2.2.2.2.1 g10) (by omega) (by omega)).mono ?_
              rintro e w11 ⟨vo4, le4, rfl, g11, oV4, oL4⟩
              obtain ⟨b41, j41, e1⟩ : ∃ a c, vo4 = .slice a vs.length c := by obtain ⟨a, c, rfl, _⟩ := oV4; exact ⟨_, _, rfl⟩
              obtain ⟨b42, j42, e2⟩ : ∃ a c, le4 = .slice a ls.length c := by obtain ⟨a, c, rfl, _⟩ := oL4; exact ⟨_, _, rfl⟩
              subst e1 e2
              go_wp2_with fail
              refine (c27 (T := All) w11 i t i U S a31 a32 b41 b42 vs.length ls.length k31 k32 vs.length ls.length j41 j42 _ _ rs' i t cm (Rd.fr (Rd.own oE3 (fun _ _ _ => trivial)) g11) (Rd.fr (Rd.own oC3 (fun _ _ _ => trivial)) g11) H.out.2.2.2.2.2.2.2.2.1 HP.out.2.2.2.1 (by omega) (Int.le_refl _) (by omega) H.out.2.2.2.2.2.2.2.2.2 H.out.2.2.2.2.2.2.2.2.1 H.out.2.2.2.2.2.2.2.2.2 H1c.out HP.out.2.2.1).mono ?_
              rintro e w12 ⟨ev5, cv5, rfl, oE5, oC5, g12⟩
              obtain ⟨ag1, ag2, ag3⟩ := again (i := i) (t := t) (U := U) (S := S) (cm := cm) (rs := rs') HP.out.2.1
              rw [ag3] at oE5 oC5
              rw [ag1, ag2]
              clear ag1 ag2 ag3
              obtain ⟨a51, k51, e1⟩ : ∃ a c, ev5 = .slice a rs'.length c := by obtain ⟨a, c, rfl, _⟩ := oE5; exact ⟨_, _, rfl⟩
              obtain ⟨a52, k52, e2⟩ : ∃ a c, cv5 = .slice a (chgs rs').length c := by obtain ⟨a, c, rfl, _⟩ := oC5; exact ⟨_, _, rfl⟩
              subst e1 e2
              have gA : Fr All wr w12 := (g10.tr g11).tr g12
              obtain ⟨W13, hW13⟩ : ∃ W13, W13 = w12.alloc (.cells #[.int .u64 i, .int .u64 t, .slice b41 vs.length j41, .slice b42 ls.length j42, .int .u64 i, .slice a51 rs'.length k51, .slice a52 (chgs rs').length k52, .int .u64 U, .int .u64 S] 38) := ⟨_, rfl⟩
              have hb13 : W13.heap[w12.heap.size]? = some (.cells #[.int .u64 i, .int .u64 t, .slice b41 vs.length j41, .slice b42 ls.length j42, .int .u64 i, .slice a51 rs'.length k51, .slice a52 (chgs rs').length k52, .int .u64 U, .int .u64 S] 38 (0, 0)) := by rw [hW13]; exact heap_alloc_new _ _
              have f13 : Fr All w12 W13 := by rw [hW13]; exact Fr.alloc _ _ _
              have hb25 := (gA.tr f13).heap HB9.out trivial
              have H13 : Hid (Ents All W13 (.slice ae' rs'.length ce') rs' ∧ U64s All W13 (.slice ac' (chgs rs').length cc') (chgs rs') ∧ U64s All W13 (.slice b1 vs.length j1) vs ∧ U64s All W13 (.slice b2 ls.length j2) ls ∧ Fr All w W13 ∧ Ents All W13 (.slice a51 rs'.length k51) rs' ∧ U64s All W13 (.slice a52 (chgs rs').length k52) (chgs rs') ∧ U64s All W13 (.slice b41 vs.length j41) vs ∧ U64s All W13 (.slice b42 ls.length j42) ls) :=
                ⟨H9.out.1.fr (gA.tr f13), Rd.fr H9.out.2.1 (gA.tr f13), Rd.fr H9.out.2.2.2.1 (gA.tr f13), Rd.fr H9.out.2.2.2.2.1 (gA.tr f13), H9.out.2.2.2.2.2.2.2.tr (gA.tr f13), ⟨Rd.fr oE5 f13, fun r hr => Rd.fr (H9.out.1.2 r hr) (gA.tr f13)⟩, Rd.fr oC5 f13, Rd.fr oV4 (g12.tr f13), Rd.fr oL4 (g12.tr f13)⟩
              clear gA f13 oE5 oC5 oV4 oL4 g12 g11 g10 oE3 oC3 oV3 oL3 H9 HB9
              go_upto_region 31 with fail
              rw [← hW13]
              clear hW13
              go_wp2_with (first | (refine wpList_load_row rfl 38 (.tmp 28) rfl w12.heap.size rfl 38 _ (0, 0) _ hb13 Try.underlying38 rfl Try.size38 ?_) | (refine wpList_load_row rfl 38 (.tmp 25) rfl w7.heap.size rfl 38 _ (0, 0) _ hb25 Try.underlying38 rfl Try.size38 ?_))
              refine (c24 (T := All) W13 i t i U S _ _ _ _ _ _ _ _ vs ls (chgs rs') rs' H.out.2.2.2.2.2.2.1 H.out.2.2.2.2.2.2.2.1 H13.out.2.2.2.2.2.2.2.1 H13.out.2.2.1 H13.out.2.2.2.2.2.2.2.2 H13.out.2.2.2.1 H13.out.2.2.2.2.2.1 H13.out.1 H13.out.2.2.2.2.2.2.1 H13.out.2.1 HM.out.2.2.2.2.1 (by omega) (by omega)).mono ?_
              rintro e w14 ⟨rfl, g14⟩
              go_wp2
              go_ret
              exact ⟨rfl, H13.out.2.2.2.2.1.tr g14⟩
end Go.Proofs.Qxb6601153a
