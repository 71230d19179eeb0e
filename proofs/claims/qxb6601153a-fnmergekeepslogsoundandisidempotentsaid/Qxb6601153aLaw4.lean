/-
  SEAT b6601153a. FnMergeKeepsLogSoundAndIsIdempotent. By an AI agent.
-/
import Derived.Test.Qxb6601153aLaw1
import Derived.Test.Qxb6601153aAgrees
import Derived.Test.Qxb6601153aAgain
import Derived.Test.Qxb6601153aSameLog
import Derived.Test.Qxb6601153aCloneLog
import Derived.Test.Qxb6601153aShape
namespace Go.Proofs.Qxb6601153a
open Go.RowKit
set_option linter.unusedVariables false

set_option maxRecDepth 100000 in
set_option maxHeartbeats 4000000 in
/-- FnMergeKeepsLogSoundAndIsIdempotent. -/
theorem c4 (w : World) (si st off un sb : Int) (v3 v4 v7 : Value) (rs0 ap0 : List Raw) (ns : List Int) (h3 : Ents All w v3 rs0) (h4 : U64s All w v4 ns) (h7 : Ents All w v7 ap0)
    (hb3 : ∀ r ∈ rs0, ∃ b, r.ch = .bool b) (hb7 : ∀ r ∈ ap0, ∃ b, r.ch = .bool b) (hi3 : IdxOk rs0) (hi7 : IdxOk ap0) (s0 : 0 ≤ si) (s1 : si ≤ 18446744073709551615) (f0 : 0 ≤ off) (f1 : off ≤ 18446744073709551615) :
    Calls Try.prog 4 #[.int .u64 si, .int .u64 st, .int .u64 off, v3, v4, .int .u64 un, .int .u64 sb, v7] w (RetTrueF w) := by
  obtain ⟨a3, k3, e3⟩ : ∃ a c, v3 = .slice a rs0.length c := by obtain ⟨⟨a, c, rfl, _⟩, _⟩ := h3; exact ⟨_, _, rfl⟩
  obtain ⟨a4, k4, e4⟩ : ∃ a c, v4 = .slice a ns.length c := by obtain ⟨a, c, rfl, _⟩ := h4; exact ⟨_, _, rfl⟩
  obtain ⟨a7, k7, e7⟩ : ∃ a c, v7 = .slice a ap0.length c := by obtain ⟨⟨a, c, rfl, _⟩, _⟩ := h7; exact ⟨_, _, rfl⟩
  subst e3 e4 e7
  have H : Hid (Ents All w (.slice a3 rs0.length k3) rs0 ∧ U64s All w (.slice a4 ns.length k4) ns ∧ Ents All w (.slice a7 ap0.length k7) ap0 ∧ (∀ r ∈ rs0, ∃ b, r.ch = .bool b) ∧ (∀ r ∈ ap0, ∃ b, r.ch = .bool b) ∧ IdxOk rs0 ∧ IdxOk ap0) := ⟨h3, h4, h7, hb3, hb7, hi3, hi7⟩
  clear h3 h4 h7 hb3 hb7 hi3 hi7
  go_enter Try.func4, Try.ntmps4
  go_wp2_with fail
  refine (c19 (T := All) w _ _ _ _ _ _ _ _ rs0 ap0 ns H.out.1 H.out.2.1 H.out.2.2.1).mono ?_
  rintro e w' ⟨b, rfl, ⟨nq, rfl⟩, hb⟩
  cases b with
  | false =>
    go_wp2
    go_ret
    exact ⟨rfl, Fr.drewN _ _ _⟩
  | true =>
    have hb' := hb rfl
    clear hb
    obtain ⟨l3, c3, l4, l7, c7⟩ := hb'
    have HB : Hid ((∀ r ∈ rs0, r.cmd.length ≤ 1048576) ∧ (∀ r ∈ ap0, r.cmd.length ≤ 1048576)) := ⟨c3, c7⟩
    clear c3 c7
    by_cases t3 : 65536 < rs0.length
    · go_wp2
      go_ret
      exact ⟨rfl, Fr.drewN _ _ _⟩
    have d3 : decide ((65536 : Int) < (rs0.length : Int)) = false := by simp; omega
    by_cases t4 : 65536 < ns.length
    · go_wp2
      go_ret
      exact ⟨rfl, Fr.drewN _ _ _⟩
    have d4 : decide ((65536 : Int) < (ns.length : Int)) = false := by simp; omega
    by_cases t7 : 65536 < ap0.length
    · go_wp2
      go_ret
      exact ⟨rfl, Fr.drewN _ _ _⟩
    go_wp2_with fail
    refine (c8 (T := All) _ _ _ _ rs0 ap0 ns (H.out.1.fr (Fr.drewN _ _ _)) (Rd.fr H.out.2.1 (Fr.drewN _ _ _)) (H.out.2.2.1.fr (Fr.drewN _ _ _))).mono ?_
    rintro e w' ⟨b, rfl, ⟨nq2, rfl⟩, -⟩
    cases b with
    | false =>
      go_wp2
      go_ret
      exact ⟨rfl, by first | exact Fr.drewN _ _ _ | exact (Fr.drewN _ _ _).tr (Fr.drewN _ _ _)⟩
    | true =>
      go_wp2_with fail
      have hok0 : EntOk rs0 := fun r hr => ⟨HB.out.1 r hr, H.out.2.2.2.1 r hr⟩
      have hok7 : EntOk ap0 := fun r hr => ⟨HB.out.2 r hr, H.out.2.2.2.2.1 r hr⟩
      refine (c9 (T := All) _ _ rs0 (H.out.1.fr (Fr.drewN _ _ _)) (by omega) hok0).mono ?_
      rintro e w1 ⟨v1, rs, rfl, g1, o1, u1, p1, hb1⟩
      have G1 : Fr All w w1 := (Fr.drewN _ _ _).tr g1
      have E1 : Ents All w1 v1 rs := ⟨Rd.own o1 (fun _ _ _ => trivial), fun r hr => Rd.any (u1 r hr)⟩
      have P1 : Pl rs rs0 := p1
      clear g1 o1 u1 p1
      obtain ⟨a1, k1, e1⟩ : ∃ a c, v1 = .slice a rs.length c := by obtain ⟨⟨a, c, rfl, _⟩, _⟩ := E1; exact ⟨_, _, rfl⟩
      subst e1
      go_wp2_with fail
      refine (c10 (T := All) _ _ ns (Rd.fr H.out.2.1 G1) (by omega)).mono ?_
      rintro e w2 ⟨v2, rfl, g2, o2⟩
      have G2 : Fr All w w2 := G1.tr g2
      have E1 := E1.fr g2
      have E2 : U64s All w2 v2 ns := Rd.own o2 (fun _ _ _ => trivial)
      clear g2 o2 G1
      obtain ⟨a2, k2, e2⟩ : ∃ a c, v2 = .slice a ns.length c := by obtain ⟨a, c, rfl, _⟩ := E2; exact ⟨_, _, rfl⟩
      subst e2
      go_wp2_with fail
      refine (c9 (T := All) _ _ ap0 (H.out.2.2.1.fr G2) (by omega) hok7).mono ?_
      rintro e w3 ⟨v5, ap, rfl, g3, o3, u3, p3, hb5⟩
      have G3 : Fr All w w3 := G2.tr g3
      have E1 := E1.fr g3
      have E2 := E2.fr g3
      have E3 : Ents All w3 v5 ap := ⟨Rd.own o3 (fun _ _ _ => trivial), fun r hr => Rd.any (u3 r hr)⟩
      have P3 : Pl ap ap0 := p3
      clear g3 o3 u3 p3 G2
      obtain ⟨a5, k5, e5⟩ : ∃ a c, v5 = .slice a ap.length c := by obtain ⟨⟨a, c, rfl, _⟩, _⟩ := E3; exact ⟨_, _, rfl⟩
      subst e5
      have okR : EntOk rs := fun r hr => ⟨P1.symm.cmdLen HB.out.1 r hr, hb1 r hr⟩
      have okA : EntOk ap := fun r hr => ⟨P3.symm.cmdLen HB.out.2 r hr, hb5 r hr⟩
      have ixR : IdxOk rs := P1.symm.idxOk H.out.2.2.2.2.2.1
      have ixA : IdxOk ap := P3.symm.idxOk H.out.2.2.2.2.2.2
      have lR : rs.length ≤ 65536 := by rw [P1.len]; omega
      have lA : ap.length ≤ 65536 := by rw [P3.len]; omega
      have HE : Hid (Ents All w3 (.slice a1 rs.length k1) rs ∧ U64s All w3 (.slice a2 ns.length k2) ns ∧ Ents All w3 (.slice a5 ap.length k5) ap ∧ EntOk rs ∧ EntOk ap ∧ IdxOk rs ∧ IdxOk ap ∧ Fr All w w3) := ⟨E1, E2, E3, okR, okA, ixR, ixA, G3⟩
      clear E1 E2 E3 okR okA ixR ixA G3 P1 P3 hb1 hb5 hok0 hok7 HB
      go_wp2_with fail
      refine (c11 (T := All) _ si st off _ _ rs ns HE.out.1 HE.out.2.1 HE.out.2.2.2.1 (by omega) (by omega) s0 s1 f0 f1).mono ?_
      rintro e w' ⟨b, rfl, ⟨nq3, rfl⟩, hlog⟩
      cases b with
      | false =>
        go_wp2
        go_ret
        exact ⟨rfl, HE.out.2.2.2.2.2.2.2.tr (Fr.drewN _ _ _)⟩
      | true =>
        have hlog' := hlog rfl
        have room := hlog'.room
        have HL : Hid (LogOk si st off rs ns) := hlog'
        clear hlog hlog'
        go_wp2_with fail
        refine (c12 (T := All) _ si off rs.length _ ap (HE.out.2.2.1.fr (Fr.drewN _ _ _)) HE.out.2.2.2.2.2.2.1 (by omega) (by omega) s0 s1 f0 room).mono ?_
        rintro e w' ⟨b, rfl, ⟨nq4, rfl⟩, happ⟩
        cases b with
        | false =>
          go_wp2
          go_ret
          exact ⟨rfl, HE.out.2.2.2.2.2.2.2.tr (by first | exact Fr.drewN _ _ _ | exact (Fr.drewN _ _ _).tr (Fr.drewN _ _ _))⟩
        | true =>
          have HA : Hid (AppOk si off rs.length ap) := happ rfl
          clear happ
          go_wp2_with fail
          refine (c20 (T := All) _ si st off _ _ rs ap (HE.out.1.fr (Fr.drewN _ _ _)) (HE.out.2.2.1.fr (Fr.drewN _ _ _)) HE.out.2.2.2.2.2.2.1 (by omega) (by omega) f0 f1).mono ?_
          rintro e w' ⟨b, rfl, ⟨nq5, rfl⟩, hag⟩
          cases b with
          | false =>
            go_wp2
            go_ret
            exact ⟨rfl, HE.out.2.2.2.2.2.2.2.tr (by first | exact Fr.drewN _ _ _ | exact (Fr.drewN _ _ _).tr (Fr.drewN _ _ _))⟩
          | true =>
            have HG0 : Hid (∀ r ∈ ap, r.idx ≤ si → termF si st off rs r.idx = some r.term) := hag rfl
            clear hag
            go_wp2_with fail
            obtain ⟨W, hW⟩ : ∃ W, W = w3.drewN (nq3 + nq4 + nq5) := ⟨_, rfl⟩
            have fW : Fr All w3 W := by rw [hW]; exact Fr.drewN _ _ _
            rw [← hW]
            clear hW
            have EL : Hid (Ents (Lt W.heap.size) W (.slice a1 rs.length k1) rs ∧ U64s (Lt W.heap.size) W (.slice a2 ns.length k2) ns ∧ Ents (Lt W.heap.size) W (.slice a5 ap.length k5) ap ∧ Fr All w W) := ⟨(HE.out.1.fr fW).lt, U64s.lt (HE.out.2.1.fr fW), (HE.out.2.2.1.fr fW).lt, HE.out.2.2.2.2.2.2.2.tr fW⟩
            refine (c14 (T := All) _ si st off un sb _ _ rs ns EL.out.1.any (Rd.any EL.out.2.1) HE.out.2.2.2.1 (by omega) (by omega)).mono ?_
            rintro e w4 ⟨ev, cv, rs2, rfl, g4, oE, uE, pE, hpE, oC⟩
            go_wp2_with fail
            refine (c15 (T := All) _ _ ap (EL.out.2.2.1.any.fr g4) (by omega) HE.out.2.2.2.2.1).mono ?_
            rintro e w5 ⟨v6, ap2, rfl, g5, oA, uA, pA, hpA⟩
            go_wp2_with fail
            have PE : Pl rs2 rs := pE
            have PA : Pl ap2 ap := pA
            have hch : ns = chgs rs2 := by rw [PE.chgs]; exact HL.out.chg
            have oE5 := own_fr oE g5 (fun _ _ => trivial)
            have oC5 := own_fr oC g5 (fun _ _ => trivial)
            rw [hch] at oC5
            have hlE : ∀ b, ev.ownBlock = some b → W.heap.size ≤ b ∧ b < w4.heap.size := fun b h => oE.lt b h
            have hlC : ∀ b, cv.ownBlock = some b → W.heap.size ≤ b ∧ b < w4.heap.size := fun b h => oC.lt b h
            have haA : Rd (fun b => ev.ownBlock ≠ some b ∧ cv.ownBlock ≠ some b) w5 v6 ap2.length (flat ap2) := Rd.own oA (fun b hb _ => ⟨fun h => by have := (hlE b h).2; omega, fun h => by have := (hlC b h).2; omega⟩)
            have room2 : off + rs2.length < 18446744073709551615 := by rw [PE.len]; exact room
            have hrun : Runs off rs2 := PE.symm.runs HL.out.idx
            refine (c13 w5 W.heap.size si st off un sb none none 0 0 0 0 ev cv rs2 ap2 v6 oE5 oC5 (Nat.le_trans g4.size g5.size) f0 room2 (by rw [PE.len]; omega) haA (PA.symm.idxOk HE.out.2.2.2.2.2.2.1) hpA (cvs_of uA) (fun b h => h) hrun HL.out.lo (by rw [PE.len]; exact HL.out.hi) (by rw [PE.len]; exact PA.symm.appOk HA.out) (by rw [PA.len]; omega)).mono ?_
            rintro e w6 ⟨rs', un', sb', ch, ev', cv', rfl, hM, oE', oC', g6⟩
            have g36 : Fr (Lt W.heap.size) W w6 := ((g4.tr g5).any).trans g6 (fun i hi h => ⟨h, fun e => by have := (hlE i e).1; unfold Lt at h; omega, fun e => by have := (hlC i e).1; unfold Lt at h; omega⟩)
            have uR : ∀ r ∈ rs', U8s All w6 r.cv r.cmd := by
              have uE6 : ∀ r ∈ rs2, U8s All w6 r.cv r.cmd := fun r hr => Rd.any (Rd.fr (Rd.mono (uE r hr) (fun i h => h.2)) ((g5.any).tr g6))
              have uA6 : ∀ r ∈ ap2, U8s All w6 r.cv r.cmd := fun r hr => Rd.any (Rd.fr (Rd.mono (uA r hr) (fun i h => ⟨fun e => by have := (hlE i e).2; omega, fun e => by have := (hlC i e).2; omega⟩)) g6)
              rcases hM with ⟨_, rfl, _⟩ | ⟨k, m, x, _, _, _, _, _, rfl, _⟩
              · exact uE6
              · intro r hr
                rcases List.mem_append.1 hr with h | h
                · exact uE6 r (List.mem_of_mem_take h)
                · exact uA6 r (List.mem_of_mem_drop h)
            have hpR : ∀ r ∈ rs', ∃ p, r.ch = .pointer p := by
              rcases hM with ⟨_, rfl, _⟩ | ⟨k, m, x, _, _, _, _, _, rfl, _⟩
              · exact hpE
              · intro r hr
                rcases List.mem_append.1 hr with h | h
                · exact hpE r (List.mem_of_mem_take h)
                · exact hpA r (List.mem_of_mem_drop h)
            obtain ⟨ae', ne', ce', e1⟩ := own_shape oE'
            obtain ⟨ac', nc', cc', e2⟩ := own_shape oC'
            subst e1 e2
            have ne1 := own_len oE'
            have nc1 := own_len oC'
            subst ne1 nc1
            have hlen' : rs'.length ≤ 1048576 := by
              rcases hM with ⟨_, rfl, _⟩ | ⟨k, m, x, _, _, _, _, _, rfl, _⟩
              · rw [PE.len]; omega
              · have := PE.len; have := PA.len; simp; omega
            have HM : Hid (MRes si st off un sb rs2 ap2 rs' un' sb' ch ∧ Pl rs2 rs ∧ Pl ap2 ap ∧ (∀ r ∈ rs', ∃ p, r.ch = .pointer p)) := ⟨hM, PE, PA, hpR⟩
            have HG : Hid (Ents All w6 (.slice ae' rs'.length ce') rs' ∧ U64s All w6 (.slice ac' (chgs rs').length cc') (chgs rs') ∧ Ents All w6 (.slice a1 rs.length k1) rs ∧ Ents All w6 (.slice a5 ap.length k5) ap ∧ Fr All w w6) :=
              ⟨⟨Rd.own oE' (fun _ _ _ => trivial), uR⟩, Rd.own oC' (fun _ _ _ => trivial), (EL.out.1.fr g36).any, (EL.out.2.2.1.fr g36).any, EL.out.2.2.2.trans g36 (fun i hi _ => ⟨trivial, Nat.lt_of_lt_of_le hi EL.out.2.2.2.size⟩)⟩
            clear g36 uR hpR oE' oC' g6 hM haA room2 hrun hlE hlC oC5 oE5 hch PE PA oA uA pA hpA g5 oE uE pE hpE oC g4 EL fW
            go_wp2_with fail
            obtain ⟨W7, hW7⟩ : ∃ W7, W7 = w6.alloc (.cells #[.int .u64 si, .int .u64 st, .slice none 0 0, .slice none 0 0, .int .u64 off, .slice ae' rs'.length ce', .slice ac' (chgs rs').length cc', .int .u64 un', .int .u64 sb'] 38) := ⟨_, rfl⟩
            have hbx : Hid (W7.heap[w6.heap.size]? = some (.cells #[.int .u64 si, .int .u64 st, .slice none 0 0, .slice none 0 0, .int .u64 off, .slice ae' rs'.length ce', .slice ac' (chgs rs').length cc', .int .u64 un', .int .u64 sb'] 38 (0, 0))) := by rw [hW7]; exact heap_alloc_new _ _
            have f67 : Fr All w6 W7 := by rw [hW7]; exact Fr.alloc _ _ _
            rw [← hW7]
            clear hW7
            have HW : Hid (Ents All W7 (.slice ae' rs'.length ce') rs' ∧ U64s All W7 (.slice ac' (chgs rs').length cc') (chgs rs') ∧ Ents All W7 (.slice a1 rs.length k1) rs ∧ Ents All W7 (.slice a5 ap.length k5) ap ∧ Fr All w W7) :=
              ⟨HG.out.1.fr f67, HG.out.2.1.fr f67, HG.out.2.2.1.fr f67, HG.out.2.2.2.1.fr f67, HG.out.2.2.2.2.tr f67⟩
            clear HG f67
            have HS : Hid (un' ≤ un ∧ sb' ≤ sb ∧ Runs off rs' ∧ si ≤ off + rs'.length ∧ off + rs'.length ≤ 18446744073709551615 ∧ (off < si → ∀ r : Raw, rs'[((si - off).toNat - 1)]? = some r → r.term = st) ∧ ∀ r ∈ ap2, termF si st off rs' r.idx = some r.term) := by
              have hlen := HM.out.2.1.len
              refine mres_sound HM.out.1 (HM.out.2.1.symm.runs HL.out.idx) HL.out.lo (by rw [hlen]; exact HL.out.hi) (by rw [hlen]; exact room) (fun hs r hr => ?_) (by rw [hlen]; exact HM.out.2.2.1.symm.appOk HA.out) (fun r hr hl => ?_)
              · obtain ⟨q, hq, hp⟩ := HM.out.2.1.get hr
                rw [(plain_parts hp).2.1]; exact HL.out.term hs q hq
              · obtain ⟨j, hj⟩ := List.getElem?_of_mem hr
                obtain ⟨q, hq, hp⟩ := HM.out.2.2.1.get hj
                rw [HM.out.2.1.termF, (plain_parts hp).1, (plain_parts hp).2.1]
                exact HG0.out q (List.mem_of_getElem? hq) (by rw [← (plain_parts hp).1]; exact hl)
            have HT : Hid (∀ r ∈ ap, termF si st off rs' r.idx = some r.term) := by
              intro r hr
              obtain ⟨j, hj⟩ := List.getElem?_of_mem hr
              obtain ⟨q, hq, hp⟩ := HM.out.2.2.1.symm.get hj
              rw [(plain_parts hp).1, (plain_parts hp).2.1]
              exact HS.out.2.2.2.2.2.2 q (List.mem_of_getElem? hq)
            have x0 : W7.cell? ⟨w6.heap.size, 0, none⟩ = some (.int .u64 si) := by rw [cell_of_row W7 _ _ _ _ _ hbx.out]; rfl
            have x1 : W7.cell? ⟨w6.heap.size, 1, none⟩ = some (.int .u64 st) := by rw [cell_of_row W7 _ _ _ _ _ hbx.out]; rfl
            have x4 : W7.cell? ⟨w6.heap.size, 4, none⟩ = some (.int .u64 off) := by rw [cell_of_row W7 _ _ _ _ _ hbx.out]; rfl
            have hbx7 := hbx.out
            go_wp2_with (refine wpList_load_row rfl 38 (.tmp 17) rfl w6.heap.size rfl 38 _ (0, 0) _ hbx7 Try.underlying38 rfl Try.size38 ?_)
            refine (c21 (T := All) W7 si st off un' sb' none none 0 0 0 0 _ _ rs' HW.out.1.1 HW.out.2.1 HM.out.2.2.2 f0 HL.out.lo HS.out.2.2.2.1 HS.out.2.2.2.2.1 HS.out.2.2.1 HS.out.2.2.2.2.2.1 (by omega)).mono ?_
            rintro e W8 ⟨rfl, f8⟩
            have hbx8 : Hid (W8.heap[w6.heap.size]? = some (.cells #[.int .u64 si, .int .u64 st, .slice none 0 0, .slice none 0 0, .int .u64 off, .slice ae' rs'.length ce', .slice ac' (chgs rs').length cc', .int .u64 un', .int .u64 sb'] 38 (0, 0))) := f8.heap hbx7 trivial
            have x7 : W8.cell? ⟨w6.heap.size, 7, none⟩ = some (.int .u64 un') := by rw [cell_of_row W8 _ _ _ _ _ hbx8.out]; rfl
            have x8 : W8.cell? ⟨w6.heap.size, 8, none⟩ = some (.int .u64 sb') := by rw [cell_of_row W8 _ _ _ _ _ hbx8.out]; rfl
            have hd1 : decide (un < un') = false := by have := HS.out.1; simp; omega
            have hd2 : decide (sb < sb') = false := by have := HS.out.2.1; simp; omega
            have H8 : Hid (Ents All W8 (.slice ae' rs'.length ce') rs' ∧ U64s All W8 (.slice ac' (chgs rs').length cc') (chgs rs') ∧ Ents All W8 (.slice a5 ap.length k5) ap ∧ Fr All w W8) := ⟨HW.out.1.fr f8, Rd.fr HW.out.2.1 f8, HW.out.2.2.2.1.fr f8, HW.out.2.2.2.2.tr f8⟩
            clear x0 x1 x4 hbx7 HW f8 hbx
            go_wp2_with fail
            clear x7 x8 hd1 hd2
            go_loopw [19] (fun I wr => ∃ k : Nat, k ≤ ap.length ∧ I = .int .i64 k ∧ Fr All W8 wr) (fun I _ => ap.length - (intOf I).toNat)
            case atStart => exact ⟨0, by omega, rfl, Fr.refl _ _⟩
            case round =>
              obtain ⟨k, hk, rfl, hfr⟩ := hrel
              by_cases hlt : k < ap.length
              · obtain ⟨⟨⟨ao6', c6', x6, _, _, _, hp6⟩, hc6⟩, _⟩ := H8.out.2.2
                simp only [Value.slice.injEq, true_and] at x6
                obtain ⟨rfl, rfl⟩ := x6
                obtain ⟨b6, o6, rfl, _, hcell6⟩ := hp6 (by omega)
                obtain ⟨r, hr⟩ : ∃ r, ap[k]? = some r := ⟨ap[k]'(by omega), by simp⟩
                obtain ⟨g0, g1, _, _⟩ := ents_cells hcell6 hr
                have p0 := hfr.cellSome g0 trivial
                have p1 := hfr.cellSome g1 trivial
                have hbr := hfr.heap hbx8.out trivial
                have HR : Hid (termF si st off rs' r.idx = some r.term ∧ (0 ≤ r.idx ∧ r.idx ≤ 18446744073709551615)) := ⟨HT.out r (List.mem_of_getElem? hr), (HE.out.2.2.2.2.2.2.1 r (List.mem_of_getElem? hr)).1⟩
                have y0 : wr.cell? ⟨w6.heap.size, 0, none⟩ = some (.int .u64 si) := by rw [cell_of_row wr _ _ _ _ _ hbr]; rfl
                have y1 : wr.cell? ⟨w6.heap.size, 1, none⟩ = some (.int .u64 st) := by rw [cell_of_row wr _ _ _ _ _ hbr]; rfl
                have y2 : wr.cell? ⟨w6.heap.size, 2, none⟩ = some (.slice none 0 0) := by rw [cell_of_row wr _ _ _ _ _ hbr]; rfl
                have y3 : wr.cell? ⟨w6.heap.size, 3, none⟩ = some (.slice none 0 0) := by rw [cell_of_row wr _ _ _ _ _ hbr]; rfl
                have y4 : wr.cell? ⟨w6.heap.size, 4, none⟩ = some (.int .u64 off) := by rw [cell_of_row wr _ _ _ _ _ hbr]; rfl
                have y5 : wr.cell? ⟨w6.heap.size, 5, none⟩ = some (.slice ae' rs'.length ce') := by rw [cell_of_row wr _ _ _ _ _ hbr]; rfl
                have y6 : wr.cell? ⟨w6.heap.size, 6, none⟩ = some (.slice ac' (chgs rs').length cc') := by rw [cell_of_row wr _ _ _ _ _ hbr]; rfl
                have y7 : wr.cell? ⟨w6.heap.size, 7, none⟩ = some (.int .u64 un') := by rw [cell_of_row wr _ _ _ _ _ hbr]; rfl
                have y8 : wr.cell? ⟨w6.heap.size, 8, none⟩ = some (.int .u64 sb') := by rw [cell_of_row wr _ _ _ _ _ hbr]; rfl
                have l6 : b6 < wr.heap.size := World.block_lt_of_cell? wr _ p0
                have lw : w6.heap.size < wr.heap.size := World.block_lt_of_cell? wr _ y0
                have hEr : Hid (Rd All wr (.slice ae' rs'.length ce') rs'.length (flat rs')) := Rd.fr H8.out.1.1 hfr
                clear hcell6 hr g0 g1 hp6 hc6 hbr
                go_wp2
                go_region_held3 (fun w' => ∀ x o, x < wr.heap.size → w'.cell? ⟨x, o, none⟩ = wr.cell? ⟨x, o, none⟩)
                  (first | exact sc_all (Fr.drew _ _) | exact sc_all ((Fr.drew _ _).tr hf2))
                  (first | (go_at_call 22; refine (c22 (T := All) _ si st off un' sb' r.idx r.term _ _ _ _ _ _ _ _ ⟨_, _, _, rfl⟩ rs' (by exact Rd.fr hEr.out (Fr.drew _ _)) (by omega) f0 f1 HR.out.2.1 HR.out.2.2 HR.out.1).mono ?_; rintro e w2 ⟨rfl, hf2⟩))
                have p1' := ((Fr.drew All wr).tr hf2).cellSome p1 trivial
                go_wp2
                go_roundw
                case rel => exact ⟨k + 1, by omega, by go_num, hfr.tr ((Fr.drew _ _).tr hf2)⟩
                case measure => simp [intOf]; omega
              · have H9 : Hid (Ents All wr (.slice ae' rs'.length ce') rs' ∧ U64s All wr (.slice ac' (chgs rs').length cc') (chgs rs') ∧ Ents All wr (.slice a5 ap.length k5) ap ∧ Fr All w wr) := ⟨H8.out.1.fr hfr, Rd.fr H8.out.2.1 hfr, H8.out.2.2.1.fr hfr, H8.out.2.2.2.tr hfr⟩
                have hbx9 := hfr.heap hbx8.out trivial
                have HB9 : Hid (wr.heap[w6.heap.size]? = some (.cells #[.int .u64 si, .int .u64 st, .slice none 0 0, .slice none 0 0, .int .u64 off, .slice ae' rs'.length ce', .slice ac' (chgs rs').length cc', .int .u64 un', .int .u64 sb'] 38 (0, 0))) := hbx9
                have H1c : Hid (∀ u ∈ flat rs', u.oneCell' = true) := flat_one (fun r hr => ⟨cvs_of H9.out.1.2 r hr, HM.out.2.2.2 r hr⟩)
                have hcl : (chgs rs').length ≤ rs'.length := chgs_len rs'
                clear hfr H8 hbx8
                go_wp2_with (refine wpList_load_row rfl 38 (.tmp 17) rfl w6.heap.size rfl 38 _ (0, 0) _ hbx9 Try.underlying38 rfl Try.size38 ?_)
                clear hbx9
                refine (c23 (T := All) wr si st off un' sb' _ _ _ _ [] [] (chgs rs') rs' (Rd.nil _ _) (Rd.nil _ _) H9.out.1.1 H9.out.2.1 H1c.out (by simp) (by simp) (by omega) (by omega)).mono ?_
                rintro e w10 ⟨vo3, le3, ev3, cv3, rfl, g10, oV3, oL3, oE3, oC3⟩
                obtain ⟨a31, k31, e1⟩ : ∃ a c, vo3 = .slice a ([] : List Int).length c := by obtain ⟨a, c, rfl, _⟩ := oV3; exact ⟨_, _, rfl⟩
                obtain ⟨a32, k32, e2⟩ : ∃ a c, le3 = .slice a ([] : List Int).length c := by obtain ⟨a, c, rfl, _⟩ := oL3; exact ⟨_, _, rfl⟩
                subst e1 e2
                obtain ⟨a33, n33, k33, e3⟩ := own_shape oE3
                obtain ⟨a34, n34, k34, e4⟩ := own_shape oC3
                subst e3 e4
                simp only [List.length_nil] at oV3 oL3 ⊢
                go_wp2_with fail
                refine (c15 (T := All) _ _ ap (H9.out.2.2.1.fr g10) (by omega) HE.out.2.2.2.2.1).mono ?_
                rintro e w11 ⟨v11, ap3, rfl, g11, oA, uA, pA, hpA⟩
                have PA3 : Pl ap3 ap := pA
                obtain ⟨a11, n11, k11, e11⟩ := own_shape oA
                subst e11
                have oE4 := own_fr oE3 g11 (fun _ _ => trivial)
                have hall3 : ∀ r ∈ ap3, termF si st off rs' r.idx = some r.term := by
                  intro r hr
                  obtain ⟨j, hj⟩ := List.getElem?_of_mem hr
                  obtain ⟨q, hq, hp⟩ := PA3.get hj
                  rw [(plain_parts hp).1, (plain_parts hp).2.1]
                  exact HT.out q (List.mem_of_getElem? hq)
                go_wp2_with fail
                refine (c13s (T := All) w11 wr.heap.size si st off un' sb' a31 a32 0 0 k31 k32 (.slice a33 n33 k33) (.slice a34 n34 k34) ⟨_, _, _, rfl⟩ rs' ap3 (.slice a11 n11 k11) oE4 f0 HS.out.2.2.2.2.1 (by omega) (Rd.own oA (fun _ _ _ => trivial)) (PA3.symm.idxOk HE.out.2.2.2.2.2.2.1) hpA (cvs_of uA) hall3 (by rw [PA3.len]; omega)).mono ?_
                rintro e w12 ⟨rfl, g12⟩
                have gA : Fr All wr w12 := (g10.tr g11).tr g12
                have n33e := own_len oE3
                have n34e := own_len oC3
                subst n33e n34e
                obtain ⟨W13, hW13⟩ : ∃ W13, W13 = w12.alloc (.cells #[.int .u64 si, .int .u64 st, .slice a31 0 k31, .slice a32 0 k32, .int .u64 off, .slice a33 rs'.length k33, .slice a34 (chgs rs').length k34, .int .u64 un', .int .u64 sb'] 38) := ⟨_, rfl⟩
                have hb13 : W13.heap[w12.heap.size]? = some (.cells #[.int .u64 si, .int .u64 st, .slice a31 0 k31, .slice a32 0 k32, .int .u64 off, .slice a33 rs'.length k33, .slice a34 (chgs rs').length k34, .int .u64 un', .int .u64 sb'] 38 (0, 0)) := by rw [hW13]; exact heap_alloc_new _ _
                have f13 : Fr All w12 W13 := by rw [hW13]; exact Fr.alloc _ _ _
                have hb17 := (gA.tr f13).heap HB9.out trivial
                have H13 : Hid (Ents All W13 (.slice ae' rs'.length ce') rs' ∧ U64s All W13 (.slice ac' (chgs rs').length cc') (chgs rs') ∧ Fr All w W13 ∧ Ents All W13 (.slice a33 rs'.length k33) rs' ∧ U64s All W13 (.slice a34 (chgs rs').length k34) (chgs rs') ∧ U64s All W13 (.slice a31 0 k31) [] ∧ U64s All W13 (.slice a32 0 k32) []) :=
                  ⟨H9.out.1.fr (gA.tr f13), Rd.fr H9.out.2.1 (gA.tr f13), H9.out.2.2.2.tr (gA.tr f13), ⟨Rd.fr (Rd.own oE4 (fun _ _ _ => trivial)) (g12.tr f13), fun r hr => Rd.fr (H9.out.1.2 r hr) (gA.tr f13)⟩, Rd.fr (Rd.own oC3 (fun _ _ _ => trivial)) ((g11.tr g12).tr f13), Rd.fr oV3 ((g11.tr g12).tr f13), Rd.fr oL3 ((g11.tr g12).tr f13)⟩
                clear gA f13 g12 g11 g10 oE3 oC3 oV3 oL3 H9 HB9 oE4 hall3 oA uA pA hpA PA3
                go_upto_region 30 with fail
                rw [← hW13]
                clear hW13
                have u0x : W13.cell? ⟨w12.heap.size, 0, none⟩ = some (.int .u64 si) := by rw [cell_of_row W13 _ _ _ _ _ hb13]; rfl
                have v0x : W13.cell? ⟨w6.heap.size, 0, none⟩ = some (.int .u64 si) := by rw [cell_of_row W13 _ _ _ _ _ hb17]; rfl
                have u1x : W13.cell? ⟨w12.heap.size, 1, none⟩ = some (.int .u64 st) := by rw [cell_of_row W13 _ _ _ _ _ hb13]; rfl
                have v1x : W13.cell? ⟨w6.heap.size, 1, none⟩ = some (.int .u64 st) := by rw [cell_of_row W13 _ _ _ _ _ hb17]; rfl
                have u2x : W13.cell? ⟨w12.heap.size, 2, none⟩ = some (.slice a31 0 k31) := by rw [cell_of_row W13 _ _ _ _ _ hb13]; rfl
                have v2x : W13.cell? ⟨w6.heap.size, 2, none⟩ = some (.slice none 0 0) := by rw [cell_of_row W13 _ _ _ _ _ hb17]; rfl
                have u3x : W13.cell? ⟨w12.heap.size, 3, none⟩ = some (.slice a32 0 k32) := by rw [cell_of_row W13 _ _ _ _ _ hb13]; rfl
                have v3x : W13.cell? ⟨w6.heap.size, 3, none⟩ = some (.slice none 0 0) := by rw [cell_of_row W13 _ _ _ _ _ hb17]; rfl
                have u4x : W13.cell? ⟨w12.heap.size, 4, none⟩ = some (.int .u64 off) := by rw [cell_of_row W13 _ _ _ _ _ hb13]; rfl
                have v4x : W13.cell? ⟨w6.heap.size, 4, none⟩ = some (.int .u64 off) := by rw [cell_of_row W13 _ _ _ _ _ hb17]; rfl
                have u5x : W13.cell? ⟨w12.heap.size, 5, none⟩ = some (.slice a33 rs'.length k33) := by rw [cell_of_row W13 _ _ _ _ _ hb13]; rfl
                have v5x : W13.cell? ⟨w6.heap.size, 5, none⟩ = some (.slice ae' rs'.length ce') := by rw [cell_of_row W13 _ _ _ _ _ hb17]; rfl
                have u6x : W13.cell? ⟨w12.heap.size, 6, none⟩ = some (.slice a34 (chgs rs').length k34) := by rw [cell_of_row W13 _ _ _ _ _ hb13]; rfl
                have v6x : W13.cell? ⟨w6.heap.size, 6, none⟩ = some (.slice ac' (chgs rs').length cc') := by rw [cell_of_row W13 _ _ _ _ _ hb17]; rfl
                have u7x : W13.cell? ⟨w12.heap.size, 7, none⟩ = some (.int .u64 un') := by rw [cell_of_row W13 _ _ _ _ _ hb13]; rfl
                have v7x : W13.cell? ⟨w6.heap.size, 7, none⟩ = some (.int .u64 un') := by rw [cell_of_row W13 _ _ _ _ _ hb17]; rfl
                have u8x : W13.cell? ⟨w12.heap.size, 8, none⟩ = some (.int .u64 sb') := by rw [cell_of_row W13 _ _ _ _ _ hb13]; rfl
                have v8x : W13.cell? ⟨w6.heap.size, 8, none⟩ = some (.int .u64 sb') := by rw [cell_of_row W13 _ _ _ _ _ hb17]; rfl
                clear hb13 hb17
                go_wp2_with fail
                refine (c24 (T := All) W13 si st off un' sb' _ _ _ _ _ _ _ _ [] [] (chgs rs') rs' (by simp) (by simp) H13.out.2.2.2.2.2.1 (Rd.nil _ _) H13.out.2.2.2.2.2.2 (Rd.nil _ _) H13.out.2.2.2.1 H13.out.1 H13.out.2.2.2.2.1 H13.out.2.1 HM.out.2.2.2 (by omega) (by omega)).mono ?_
                rintro e w14 ⟨rfl, g14⟩
                go_wp2
                go_ret
                exact ⟨rfl, H13.out.2.2.1.tr g14⟩
end Go.Proofs.Qxb6601153a
