/-
  SEAT b6601153a. FnRestoreMatchesModel. By an AI agent.
-/
import Derived.Test.Qxb6601153aLaw1
import Derived.Test.Qxb6601153aBytes2
import Derived.Test.Qxb6601153aRest3

namespace Go.Proofs.Qxb6601153a
open Go.RowKit
set_option linter.unusedVariables false

set_option maxRecDepth 100000 in
set_option maxHeartbeats 4000000 in
/-- FnRestoreMatchesModel. -/
theorem c5 (w : World) (si st off un sb i t cm : Int) (v3 v4 v9 v10 : Value) (rs0 : List Raw) (ns vs ls : List Int) (h3 : Ents All w v3 rs0) (h4 : U64s All w v4 ns) (h9 : U64s All w v9 vs) (h10 : U64s All w v10 ls)
    (hb3 : ∀ r ∈ rs0, ∃ b, r.ch = .bool b) (hi3 : IdxOk rs0) (hvs : ∀ x ∈ vs, 0 ≤ x ∧ x ≤ 18446744073709551615) (hls : ∀ x ∈ ls, 0 ≤ x ∧ x ≤ 18446744073709551615) (s0 : 0 ≤ si) (s1 : si ≤ 18446744073709551615) (f0 : 0 ≤ off) (f1 : off ≤ 18446744073709551615) (i0 : 0 ≤ i) (i1 : i ≤ 18446744073709551615) :
    Calls Try.prog 5 #[.int .u64 si, .int .u64 st, .int .u64 off, v3, v4, .int .u64 un, .int .u64 sb, .int .u64 i, .int .u64 t, v9, v10, .int .u64 cm] w (RetTrueF w) := by
  obtain ⟨a3, k3, e3⟩ : ∃ a c, v3 = .slice a rs0.length c := by obtain ⟨⟨a, c, rfl, _⟩, _⟩ := h3; exact ⟨_, _, rfl⟩
  obtain ⟨a4, k4, e4⟩ : ∃ a c, v4 = .slice a ns.length c := by obtain ⟨a, c, rfl, _⟩ := h4; exact ⟨_, _, rfl⟩
  obtain ⟨a9, k9, e9⟩ : ∃ a c, v9 = .slice a vs.length c := by obtain ⟨a, c, rfl, _⟩ := h9; exact ⟨_, _, rfl⟩
  obtain ⟨a10, k10, e10⟩ : ∃ a c, v10 = .slice a ls.length c := by obtain ⟨a, c, rfl, _⟩ := h10; exact ⟨_, _, rfl⟩
  subst e3 e4 e9 e10
  have H : Hid (Ents All w (.slice a3 rs0.length k3) rs0 ∧ U64s All w (.slice a4 ns.length k4) ns ∧ U64s All w (.slice a9 vs.length k9) vs ∧ U64s All w (.slice a10 ls.length k10) ls ∧ (∀ r ∈ rs0, ∃ b, r.ch = .bool b) ∧ IdxOk rs0 ∧ (∀ x ∈ vs, 0 ≤ x ∧ x ≤ 18446744073709551615) ∧ (∀ x ∈ ls, 0 ≤ x ∧ x ≤ 18446744073709551615) ∧ 0 ≤ i ∧ i ≤ 18446744073709551615) := ⟨h3, h4, h9, h10, hb3, hi3, hvs, hls, i0, i1⟩
  clear h3 h4 h9 h10 hb3 hi3 hvs hls i0 i1
  go_enter Try.func5, Try.ntmps5
  go_wp2_with fail
  refine (c25 (T := All) w _ _ _ _ _ _ _ _ _ _ _ _ rs0 ns vs ls H.out.1 H.out.2.1 H.out.2.2.1 H.out.2.2.2.1).mono ?_
  rintro e w' ⟨b, rfl, ⟨nq, rfl⟩, hb⟩
  cases b with
  | false =>
    go_wp2
    go_ret
    exact ⟨rfl, Fr.drewN _ _ _⟩
  | true =>
    have hb' := hb rfl
    clear hb
    obtain ⟨l3, c3, l4, l9, l10⟩ := hb'
    have HB : Hid (∀ r ∈ rs0, r.cmd.length ≤ 1048576) := c3
    clear c3
    by_cases t3 : 65536 < rs0.length
    · go_wp2
      go_ret
      exact ⟨rfl, Fr.drewN _ _ _⟩
    have d3 : decide ((65536 : Int) < (rs0.length : Int)) = false := by simp; omega
    by_cases t4 : 65536 < ns.length
    · go_wp2
      go_ret
      exact ⟨rfl, Fr.drewN _ _ _⟩
    have d4 : decide ((65536 : Int) < (ns.length : Int)) = false := by simp; omega
    by_cases t9 : 65536 < vs.length
    · go_wp2
      go_ret
      exact ⟨rfl, Fr.drewN _ _ _⟩
    have d9 : decide ((65536 : Int) < (vs.length : Int)) = false := by simp; omega
    by_cases t10 : 65536 < ls.length
    · go_wp2
      go_ret
      exact ⟨rfl, Fr.drewN _ _ _⟩
    go_wp2_with fail
    refine (c26 (T := All) _ _ _ _ _ rs0 ns vs ls (H.out.1.fr (Fr.drewN _ _ _)) (Rd.fr H.out.2.1 (Fr.drewN _ _ _)) (Rd.fr H.out.2.2.1 (Fr.drewN _ _ _)) (Rd.fr H.out.2.2.2.1 (Fr.drewN _ _ _))).mono ?_
    rintro e w' ⟨b, rfl, ⟨nq2, rfl⟩, -⟩
    cases b with
    | false =>
      go_wp2
      go_ret
      exact ⟨rfl, by first | exact Fr.drewN _ _ _ | exact (Fr.drewN _ _ _).tr (Fr.drewN _ _ _)⟩
    | true =>
      go_wp2_with fail
      have hok0 : EntOk rs0 := fun r hr => ⟨HB.out r hr, H.out.2.2.2.2.1 r hr⟩
      refine (c9 (T := All) _ _ rs0 (H.out.1.fr (Fr.drewN _ _ _)) (by omega) hok0).mono ?_
      rintro e w1 ⟨v1, rs, rfl, g1, o1, u1, p1, hb1⟩
      have G1 : Fr All w w1 := (Fr.drewN _ _ _).tr g1
      have E1 : Ents All w1 v1 rs := ⟨Rd.own o1 (fun _ _ _ => trivial), fun r hr => Rd.any (u1 r hr)⟩
      have P1 : Pl rs rs0 := p1
      clear g1 o1 u1 p1
      obtain ⟨a1, k1, e1⟩ : ∃ a c, v1 = .slice a rs.length c := by obtain ⟨⟨a, c, rfl, _⟩, _⟩ := E1; exact ⟨_, _, rfl⟩
      subst e1
      go_wp2_with fail
      refine (c10 (T := All) _ _ ns (Rd.fr H.out.2.1 G1) (by omega)).mono ?_
      rintro e w2 ⟨v2, rfl, g2, o2⟩
      have G2 : Fr All w w2 := G1.tr g2
      have E1 := E1.fr g2
      have E2 : U64s All w2 v2 ns := Rd.own o2 (fun _ _ _ => trivial)
      clear g2 o2 G1
      obtain ⟨a2, k2, e2⟩ : ∃ a c, v2 = .slice a ns.length c := by obtain ⟨a, c, rfl, _⟩ := E2; exact ⟨_, _, rfl⟩
      subst e2
      go_wp2_with fail
      refine (c10 (T := All) _ _ vs (Rd.fr H.out.2.2.1 G2) (by omega)).mono ?_
      rintro e w3 ⟨v5, rfl, g3, o3⟩
      have G3 : Fr All w w3 := G2.tr g3
      have E1 := E1.fr g3
      have E2 := E2.fr g3
      have E3 : U64s All w3 v5 vs := Rd.own o3 (fun _ _ _ => trivial)
      clear g3 o3 G2
      obtain ⟨a5, k5, e5⟩ : ∃ a c, v5 = .slice a vs.length c := by obtain ⟨a, c, rfl, _⟩ := E3; exact ⟨_, _, rfl⟩
      subst e5
      go_wp2_with fail
      refine (c10 (T := All) _ _ ls (Rd.fr H.out.2.2.2.1 G3) (by omega)).mono ?_
      rintro e w4 ⟨v6, rfl, g4, o4⟩
      have G4 : Fr All w w4 := G3.tr g4
      have E1 := E1.fr g4
      have E2 := E2.fr g4
      have E3 := E3.fr g4
      have E4 : U64s All w4 v6 ls := Rd.own o4 (fun _ _ _ => trivial)
      clear g4 o4 G3
      obtain ⟨a6, k6, e6⟩ : ∃ a c, v6 = .slice a ls.length c := by obtain ⟨a, c, rfl, _⟩ := E4; exact ⟨_, _, rfl⟩
      subst e6
      have okR : EntOk rs := fun r hr => ⟨P1.symm.cmdLen HB.out r hr, hb1 r hr⟩
      have ixR : IdxOk rs := P1.symm.idxOk H.out.2.2.2.2.2.1
      have lR : rs.length ≤ 65536 := by rw [P1.len]; omega
      have HE : Hid (Ents All w4 (.slice a1 rs.length k1) rs ∧ U64s All w4 (.slice a2 ns.length k2) ns ∧ U64s All w4 (.slice a5 vs.length k5) vs ∧ U64s All w4 (.slice a6 ls.length k6) ls ∧ EntOk rs ∧ IdxOk rs ∧ Fr All w w4) := ⟨E1, E2, E3, E4, okR, ixR, G4⟩
      clear E1 E2 E3 E4 okR ixR G4 P1 hb1 hok0 HB d3 d4 d9
      go_wp2_with fail
      refine (c11 (T := All) _ si st off _ _ rs ns HE.out.1 HE.out.2.1 HE.out.2.2.2.2.1 (by omega) (by omega) s0 s1 f0 f1).mono ?_
      rintro e w' ⟨b, rfl, ⟨nq3, rfl⟩, hlog⟩
      cases b with
      | false =>
        go_wp2
        go_ret
        exact ⟨rfl, HE.out.2.2.2.2.2.2.tr (Fr.drewN _ _ _)⟩
      | true =>
        have hlog' := hlog rfl
        have room := hlog'.room
        have HL : Hid (LogOk si st off rs ns) := hlog'
        clear hlog hlog'
        go_wp2_with fail
        obtain ⟨W, hW⟩ : ∃ W, W = w4.drewN nq3 := ⟨_, rfl⟩
        have fW : Fr All w4 W := by rw [hW]; exact Fr.drewN _ _ _
        rw [← hW]
        clear hW
        have EL : Hid (Ents All W (.slice a1 rs.length k1) rs ∧ U64s All W (.slice a2 ns.length k2) ns ∧ U64s All W (.slice a5 vs.length k5) vs ∧ U64s All W (.slice a6 ls.length k6) ls ∧ Fr All w W) := ⟨HE.out.1.fr fW, HE.out.2.1.fr fW, HE.out.2.2.1.fr fW, HE.out.2.2.2.1.fr fW, HE.out.2.2.2.2.2.2.tr fW⟩
        refine (c14 (T := All) _ si st off un sb _ _ rs ns EL.out.1 EL.out.2.1 HE.out.2.2.2.2.1 (by omega) (by omega)).mono ?_
        rintro e w5 ⟨ev, cv, rs2, rfl, g5, oE, uE, pE, hpE, oC⟩
        obtain ⟨ae, ne, ce, e1⟩ := own_shape oE
        obtain ⟨ac, nc, cc, e2⟩ := own_shape oC
        subst e1 e2
        go_wp2_with fail
        refine (c28 (T := All) _ i t _ _ vs ls (Rd.fr EL.out.2.2.1 g5) (Rd.fr EL.out.2.2.2.1 g5) (by omega) (by omega)).mono ?_
        rintro e w6 ⟨vo, le, rfl, g6, oV, oL⟩
        obtain ⟨b1, j1, e1⟩ : ∃ a c, vo = .slice a vs.length c := by obtain ⟨a, c, rfl, _⟩ := oV; exact ⟨_, _, rfl⟩
        obtain ⟨b2, j2, e2⟩ : ∃ a c, le = .slice a ls.length c := by obtain ⟨a, c, rfl, _⟩ := oL; exact ⟨_, _, rfl⟩
        subst e1 e2
        have PE : Pl rs2 rs := pE
        have hch : ns = chgs rs2 := by rw [PE.chgs]; exact HL.out.chg
        have hrun : Runs off rs2 := PE.symm.runs HL.out.idx
        have hE6 : Rd All w6 (.slice ae ne ce) rs2.length (flat rs2) := Rd.fr (Rd.own oE (fun _ _ _ => trivial)) g6
        have hC6 : U64s All w6 (.slice ac nc cc) (chgs rs2) := by rw [← hch]; exact Rd.fr (Rd.own oC (fun _ _ _ => trivial)) g6
        have h1c : ∀ u ∈ flat rs2, u.oneCell' = true := flat_one (fun r hr => ⟨cvs_of uE r hr, hpE r hr⟩)
        go_wp2_with fail
        refine (c27 (T := All) w6 si st off un sb none none b1 b2 0 0 0 0 vs.length ls.length j1 j2 (.slice ae ne ce) (.slice ac nc cc) rs2 i t cm hE6 hC6 f0 (.inl (by rw [PE.len]; exact room)) (by rw [PE.len]; omega) HL.out.lo (by rw [PE.len]; exact HL.out.hi) f1 H.out.2.2.2.2.2.2.2.2.1 H.out.2.2.2.2.2.2.2.2.2 h1c hrun).mono ?_
        rintro e w7 ⟨ev', cv', rfl, oE', oC', g7⟩
        obtain ⟨U, hU⟩ : ∃ U, U = rsU si st off rs2 un i t := ⟨_, rfl⟩
        obtain ⟨S, hS⟩ : ∃ S, S = rsS si st off rs2 sb i t cm := ⟨_, rfl⟩
        obtain ⟨rs', hR⟩ : ∃ rs', rs' = rsR si st off rs2 i t := ⟨_, rfl⟩
        rw [← hR] at oE' oC'
        rw [← hU, ← hS]
        obtain ⟨ae', ce', e1⟩ : ∃ a c, ev' = .slice a rs'.length c := by obtain ⟨a, c, rfl, _⟩ := oE'; exact ⟨_, _, rfl⟩
        obtain ⟨ac', cc', e2⟩ : ∃ a c, cv' = .slice a (chgs rs').length c := by obtain ⟨a, c, rfl, _⟩ := oC'; exact ⟨_, _, rfl⟩
        subst e1 e2
        have uR : ∀ r ∈ rs', U8s All w7 r.cv r.cmd := by
          intro r hr
          have hr2 : r ∈ rs2 := by rw [hR] at hr; exact rsR_mem hr
          exact Rd.fr (Rd.any (uE r hr2)) (g6.tr g7)
        have hpR : ∀ r ∈ rs', ∃ p, r.ch = .pointer p := by
          intro r hr
          rw [hR] at hr; exact hpE r (rsR_mem hr)
        have hlen' : rs'.length ≤ 65536 := by rw [hR]; have := rsR_len (si := si) (st := st) (off := off) (rs := rs2) (i := i) (t := t); have := PE.len; omega
        have HM : Hid (U = rsU si st off rs2 un i t ∧ S = rsS si st off rs2 sb i t cm ∧ rs' = rsR si st off rs2 i t ∧ Pl rs2 rs ∧ (∀ r ∈ rs', ∃ p, r.ch = .pointer p) ∧ Runs off rs2 ∧ (∀ u ∈ flat rs2, u.oneCell' = true)) := ⟨hU, hS, hR, PE, hpR, hrun, h1c⟩
        have gW7 : Fr All W w7 := (g5.tr g6).tr g7
        have HG : Hid (Ents All w7 (.slice ae' rs'.length ce') rs' ∧ U64s All w7 (.slice ac' (chgs rs').length cc') (chgs rs') ∧ Ents All w7 (.slice a1 rs.length k1) rs ∧ U64s All w7 (.slice b1 vs.length j1) vs ∧ U64s All w7 (.slice b2 ls.length j2) ls ∧ U64s All w7 (.slice a5 vs.length k5) vs ∧ U64s All w7 (.slice a6 ls.length k6) ls ∧ Fr All w w7) :=
          ⟨⟨oE', uR⟩, oC', EL.out.1.fr gW7, Rd.fr oV g7, Rd.fr oL g7, EL.out.2.2.1.fr gW7, EL.out.2.2.2.1.fr gW7, EL.out.2.2.2.2.tr gW7⟩
        clear gW7 uR hpR oE' oC' g7 hrun hch PE g5 oE uE pE hpE oC EL fW hE6 hC6 h1c g6 oV oL hU hS hR
        go_wp2_with fail
        obtain ⟨W7, hW7⟩ : ∃ W7, W7 = w7.alloc (.cells #[.int .u64 i, .int .u64 t, .slice b1 vs.length j1, .slice b2 ls.length j2, .int .u64 i, .slice ae' rs'.length ce', .slice ac' (chgs rs').length cc', .int .u64 U, .int .u64 S] 38) := ⟨_, rfl⟩
        have hbx : Hid (W7.heap[w7.heap.size]? = some (.cells #[.int .u64 i, .int .u64 t, .slice b1 vs.length j1, .slice b2 ls.length j2, .int .u64 i, .slice ae' rs'.length ce', .slice ac' (chgs rs').length cc', .int .u64 U, .int .u64 S] 38 (0, 0))) := by rw [hW7]; exact heap_alloc_new _ _
        have f77 : Fr All w7 W7 := by rw [hW7]; exact Fr.alloc _ _ _
        rw [← hW7]
        clear hW7
        have HW : Hid (Ents All W7 (.slice ae' rs'.length ce') rs' ∧ U64s All W7 (.slice ac' (chgs rs').length cc') (chgs rs') ∧ Ents All W7 (.slice a1 rs.length k1) rs ∧ U64s All W7 (.slice b1 vs.length j1) vs ∧ U64s All W7 (.slice b2 ls.length j2) ls ∧ U64s All W7 (.slice a5 vs.length k5) vs ∧ U64s All W7 (.slice a6 ls.length k6) ls ∧ Fr All w W7) :=
          ⟨HG.out.1.fr f77, Rd.fr HG.out.2.1 f77, HG.out.2.2.1.fr f77, Rd.fr HG.out.2.2.2.1 f77, Rd.fr HG.out.2.2.2.2.1 f77, Rd.fr HG.out.2.2.2.2.2.1 f77, Rd.fr HG.out.2.2.2.2.2.2.1 f77, HG.out.2.2.2.2.2.2.2.tr f77⟩
        clear HG f77
        go_wp2_with fail
        refine (c16 (T := All) _ si st off i _ rs HW.out.2.2.1 (by omega) f0 f1 H.out.2.2.2.2.2.2.2.2.1 H.out.2.2.2.2.2.2.2.2.2).mono ?_
        rintro e w' ⟨rfl, nq5, rfl⟩
        cases hq : termF si st off rs i with
        | none =>
          have hun := rs_unknown HM.out.1 HM.out.2.1 HM.out.2.2.1 HM.out.2.2.2.1 (by rw [hq]; simp)
          have HU : Hid (U = succU i ∧ S = min sb cm ∧ rs' = []) := hun
          have hXr : IntKind.u64.wrap (i + 1) = U := hun.1.symm
          clear hun hq
          go_wp2_with fail
          refine (c17 _ sb cm).mono ?_
          rintro e w' ⟨rfl, rfl⟩
          rw [← HU.out.2.1]
          have hbx' := (Fr.drewN All W7 nq5).heap hbx.out trivial
          go_wp2_with (refine wpList_load_row rfl 38 (.tmp 25) rfl w7.heap.size rfl 38 _ (0, 0) _ hbx' Try.underlying38 rfl Try.size38 ?_)
          refine (c18 (T := All) _ i t i U S _ _ _ _ _ _ _ vs ls rs' [] H.out.2.2.2.2.2.2.1 H.out.2.2.2.2.2.2.2.1 (Rd.fr HW.out.2.2.2.1 (Fr.drewN _ _ _)) (Rd.fr HW.out.2.2.2.2.2.1 (Fr.drewN _ _ _)) (Rd.fr HW.out.2.2.2.2.1 (Fr.drewN _ _ _)) (Rd.fr HW.out.2.2.2.2.2.2.1 (Fr.drewN _ _ _)) (HW.out.1.fr (Fr.drewN _ _ _)) ⟨Rd.nil _ _, by simp⟩ (by have h := Rd.fr HW.out.2.1 (Fr.drewN _ _ nq5); rw [show chgs ([] : List Raw) = chgs rs' by rw [HU.out.2.2]]; exact h) (fun r hr => by simp at hr) HM.out.2.2.2.2.1 (by rw [HU.out.2.2]) (by simp)).mono ?_
          rintro e w9 ⟨rfl, g9⟩
          go_wp2
          go_ret
          exact ⟨rfl, HW.out.2.2.2.2.2.2.2.tr ((Fr.drewN _ _ _).tr g9)⟩

        | some tt =>
          by_cases htt : tt = t
          · subst htt
            obtain ⟨m, hm1, hm2, hm3, hm4, hm5, hm6⟩ := rs_known HM.out.1 HM.out.2.1 HM.out.2.2.1 HM.out.2.2.2.1 HL.out.lo HL.out.hi hq
            have HU : Hid (U = max un (succU i) ∧ S = sb ∧ Pl rs' (rs.drop m) ∧ i = off + m) := ⟨hm3, hm4, hm6, hm1⟩
            obtain ⟨X, hX⟩ : ∃ X, X = succU i := ⟨_, rfl⟩
            have hXr : IntKind.u64.wrap (i + 1) = X := hX.symm
            have HX : Hid (X = succU i) := hX
            obtain ⟨i47, hi47, hz0, hz1, hz2⟩ := info_parts Try.info47
            clear hm1 hm3 hm4 hm5 hm6 hq hX
            have htd : (tt == tt) = true := by simp
            go_wp2
            go_loopw [28, 31] (fun V I wr => ∃ q : Nat, q ≤ rs.length ∧ I = .int .i64 q ∧ wr.ownsRow W7.heap.size 47 4 V (q - m) (flat ((rs.drop m).take (q - m))) ∧ Fr All W7 wr) (fun _ I _ => rs.length - (intOf I).toNat)
            case atStart => exact ⟨0, by omega, rfl, by simpa [flat] using World.ownsRow_nil _ _ _ _, Fr.drewN _ _ _⟩
            case round =>
              obtain ⟨q, hqn, rfl, hown, hfr⟩ := hrel
              obtain ⟨av, nv, cv2, ev2⟩ := own_shape hown
              subst ev2
              have HQ : Hid (wr.ownsRow W7.heap.size 47 4 (.slice av nv cv2) (q - m) (flat ((rs.drop m).take (q - m))) ∧ Fr All W7 wr) := ⟨hown, hfr⟩
              clear hown hfr
              by_cases hqN : q < rs.length
              · obtain ⟨bI, oI, rq, xa, xn, xc, xb, ea1, hwl, p0, p1, p2, p3, hcv, hch⟩ := want_log HW.out.2.2.1 HE.out.2.2.2.2.1 HQ.out.2 (Nat.le_refl _) hqN [] q rfl
                subst ea1
                have hrq : rs[q]? = some rq := by simpa using hwl
                have hix : rq.idx = off + q + 1 := HL.out.idx q rq hrq
                have hHw : Hid (rs[q]? = some rq ∧ rq.cv = .slice xa xn xc ∧ rq.ch = .bool xb) := ⟨hrq, hcv, hch⟩
                have him := HU.out.2.2.2
                by_cases hmq : m ≤ q
                · have hd : decide (i < rq.idx) = true := by simp; omega
                  clear hwl hcv hch hrq hix him
                  go_wp2_with (first | (at_builtin; refine wpList_append_own _ rfl (.tmp 128) (.tmp 133) 23 rfl W7.heap.size 47 i47 (.agg #[.int .u64 0, .int .u64 0, .slice none 0 0, .bool false]) 4 48 Try.underlying23 hi47 hz0 hz1 hz2 rfl (by decide) _ (q - m) _ rfl (HQ.out.1.alloc _) ⟨wr.heap.size, 0, none⟩ 1 1 [.int .u64 rq.idx, .int .u64 rq.term, .slice xa xn xc, .bool xb] rfl rfl ?c1 ?c2 ?c3 ?c4 ?c5 ?_))
                  case c1 => exact arr4 _ _ _ _ _
                  case c2 => simp [Value.oneCell']
                  case c3 => unfold maxLen; omega
                  case c4 => omega
                  case c5 => have := HQ.out.2.size; simp; omega
                  intro v' w' hown' hgrow _
                  go_wp2
                  go_roundw
                  case rel =>
                    have hs := want_step HQ.out.1 HQ.out.2 (wl := rs.drop m) (q := q - m) (by rw [List.getElem?_drop, ← hHw.out.1]; congr 1; omega) hHw.out.2.1 hHw.out.2.2 hown' hgrow
                    have hqq : q + 1 - m = q - m + 1 := by omega
                    exact ⟨q + 1, by omega, by go_num, by rw [hqq]; exact hs⟩
                  case measure => simp [intOf]; omega
                · have hd : decide (i < rq.idx) = false := by simp; omega
                  clear hwl hcv hch hrq hix him
                  go_wp2
                  go_roundw
                  case rel =>
                    have hqq : q + 1 - m = q - m := by omega
                    exact ⟨q + 1, by omega, by go_num, by rw [hqq]; exact HQ.out⟩
                  case measure => simp [intOf]; omega
              · have hqe : q = rs.length := by omega
                subst hqe
                go_wp2_with fail
                refine (c29 _ un X).mono ?_
                rintro e w' ⟨rfl, rfl⟩
                have hU2 : max un X = U := by rw [HX.out]; exact HU.out.1.symm
                have hS2 : sb = S := HU.out.2.1.symm
                rw [hU2]
                clear hU2
                subst hS2
                have hbx' := HQ.out.2.heap hbx.out trivial
                have hwant : Ents All w' (.slice av nv cv2) (rs.drop m) := by
                  refine ⟨?_, fun r hr => Rd.fr (HW.out.2.2.1.2 r (List.mem_of_mem_drop hr)) HQ.out.2⟩
                  have h1 := Rd.own (T := All) HQ.out.1 (fun _ _ _ => trivial)
                  rw [List.take_of_length_le (by simp)] at h1
                  simpa using h1
                have hwH : Hid (Ents All w' (.slice av nv cv2) (rs.drop m)) := hwant
                clear hwant
                go_wp2_with (refine wpList_load_row rfl 38 (.tmp 25) rfl w7.heap.size rfl 38 _ (0, 0) _ hbx' Try.underlying38 rfl Try.size38 ?_)
                refine (c18 (T := All) _ i tt i U sb _ _ _ _ _ _ _ vs ls rs' (rs.drop m) H.out.2.2.2.2.2.2.1 H.out.2.2.2.2.2.2.2.1 (Rd.fr HW.out.2.2.2.1 HQ.out.2) (Rd.fr HW.out.2.2.2.2.2.1 HQ.out.2) (Rd.fr HW.out.2.2.2.2.1 HQ.out.2) (Rd.fr HW.out.2.2.2.2.2.2.1 HQ.out.2) (HW.out.1.fr HQ.out.2) hwH.out (by rw [← HU.out.2.2.1.chgs]; exact Rd.fr HW.out.2.1 HQ.out.2) (fun r hr => HE.out.2.2.2.2.1 r (List.mem_of_mem_drop hr)) HM.out.2.2.2.2.1 HU.out.2.2.1 (by simp; omega)).mono ?_
                rintro e w9 ⟨rfl, g9⟩
                go_wp2
                go_ret
                exact ⟨rfl, HW.out.2.2.2.2.2.2.2.tr (HQ.out.2.tr g9)⟩
          · have htd : (tt == t) = false := by simpa using htt

            have hun := rs_unknown HM.out.1 HM.out.2.1 HM.out.2.2.1 HM.out.2.2.2.1 (by rw [hq]; simp; exact htt)
            have HU : Hid (U = succU i ∧ S = min sb cm ∧ rs' = []) := hun
            have hXr : IntKind.u64.wrap (i + 1) = U := hun.1.symm
            clear hun hq
            go_wp2_with fail
            refine (c17 _ sb cm).mono ?_
            rintro e w' ⟨rfl, rfl⟩
            rw [← HU.out.2.1]
            have hbx' := (Fr.drewN All W7 nq5).heap hbx.out trivial
            go_wp2_with (refine wpList_load_row rfl 38 (.tmp 25) rfl w7.heap.size rfl 38 _ (0, 0) _ hbx' Try.underlying38 rfl Try.size38 ?_)
            refine (c18 (T := All) _ i t i U S _ _ _ _ _ _ _ vs ls rs' [] H.out.2.2.2.2.2.2.1 H.out.2.2.2.2.2.2.2.1 (Rd.fr HW.out.2.2.2.1 (Fr.drewN _ _ _)) (Rd.fr HW.out.2.2.2.2.2.1 (Fr.drewN _ _ _)) (Rd.fr HW.out.2.2.2.2.1 (Fr.drewN _ _ _)) (Rd.fr HW.out.2.2.2.2.2.2.1 (Fr.drewN _ _ _)) (HW.out.1.fr (Fr.drewN _ _ _)) ⟨Rd.nil _ _, by simp⟩ (by have h := Rd.fr HW.out.2.1 (Fr.drewN _ _ nq5); rw [show chgs ([] : List Raw) = chgs rs' by rw [HU.out.2.2]]; exact h) (fun r hr => by simp at hr) HM.out.2.2.2.2.1 (by rw [HU.out.2.2]) (by simp)).mono ?_
            rintro e w9 ⟨rfl, g9⟩
            go_wp2
            go_ret
            exact ⟨rfl, HW.out.2.2.2.2.2.2.2.tr ((Fr.drewN _ _ _).tr g9)⟩

end Go.Proofs.Qxb6601153a
