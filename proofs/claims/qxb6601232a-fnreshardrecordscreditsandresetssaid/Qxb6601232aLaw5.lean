/-
  SEAT b6601232a. THE WALK OF FnReshardRecordsCreditsAndResets. By an AI agent.
-/
import Derived.Test.Qxb6601232aNew2
import Derived.Test.Qxb6601232aFin5
import Derived.Test.Qxb6601232aLp5
import Derived.Test.Qxb6601232aBytes5
import Derived.Test.Qxb6601232aSize2
import Derived.Test.Qxb6601232aTwo
import Derived.BigQuiet
namespace Go.Proofs.Qxb6601232a
open Go.RowKit
set_option linter.unusedVariables false
set_option linter.unusedSimpArgs false

/-- true comes back; whatever lay there lies there as it did. -/
def RetTrueF (w : World) (e : Ending) (w' : World) : Prop := e = .returned (.bool true) ∧ Fr All w w'
theorem strs_at {u W : World} {base n : Nat} {e : TypeId} {v : Value} {xs : List Value} (o : u.ownsRow base e 1 v n xs) (f : Fr All u W) : Rd (fun b => b < W.heap.size) W v n xs :=
  Rd.fr ((Rd.own (T := fun b => b < u.heap.size) o (fun b _ hb => own_lt o hb)).mono (fun i hi => Nat.lt_of_lt_of_le hi f.size)) f.any
theorem RecsW.bound {w : World} {S : Nat → Prop} {t3 : Value} {recs : List (List (ByteArray × Int))} (h : RecsW w S t3 recs) : RecsW w (fun x => S x ∧ x < w.heap.size) t3 recs := by
  obtain ⟨vs, h1, h2, h3, h4⟩ := h
  exact ⟨vs, h1, fun g hg => ⟨h2 g hg, own_lt h1 hg⟩, h3, fun i u rec hu hr => ⟨(h4 i u rec hu hr).1, fun g hg => ⟨(h4 i u rec hu hr).2 g hg, own_lt (h4 i u rec hu hr).1 hg⟩⟩⟩
theorem nest_at {α : Type} {g : α → Value} {u W : World} {v : Value} {xss : List (List α)} (h : Nest g (fun b => b < u.heap.size) u v xss) (f : Fr All u W) : Nest g (fun b => b < W.heap.size) W v xss :=
  (h.fr f.any).mono (fun i hi => Nat.lt_of_lt_of_le hi f.size)

set_option maxRecDepth 100000 in
set_option maxHeartbeats 40000000 in
theorem c5 (w : World) (nv cv av ev bv nuv pnv pcv : Value) (ns : List ByteArray) (cs ats : List Int) (es bs : List Bool) (srt : Int) (nus : List Int) (pss : List (List ByteArray)) (css : List (List Int)) (h1 : Strs All w nv ns) (h2 : I64s All w cv cs) (h3 : I64s All w av ats) (h4 : Bls All w ev es) (h5 : Bls All w bv bs) (h6 : U64s All w nuv nus) (h7 : Nest Value.string All w pnv pss) (h8 : Nest (Value.int .i64) All w pcv css)
    (hsz : ∀ n ∈ ns, n.size ≤ maxLen) (hnw : ∀ n ∈ nus, (Lit.int .u64 n).wf = true) :
    Calls Try.prog 5 #[nv, cv, av, ev, bv, .int .i64 srt, nuv, pnv, pcv] w (RetTrueF w) := by
  have g1 := hid h1
  have g2 := hid h2
  have g3 := hid h3
  have g4 := hid h4
  have g5 := hid h5
  have g6 := hid h6
  have g7 := hid h7
  have g8 := hid h8
  obtain ⟨a1, k1, rfl, -, -, -, -⟩ := h1
  obtain ⟨a2, k2, rfl, -, -, -, -⟩ := h2
  obtain ⟨a3, k3, rfl, -, -, -, -⟩ := h3
  obtain ⟨a4, k4, rfl, -, -, -, -⟩ := h4
  obtain ⟨a5, k5, rfl, -, -, -, -⟩ := h5
  obtain ⟨a6, k6, rfl, -, -, -, -⟩ := h6
  obtain ⟨vs7, ⟨a7, k7, rfl, -, -, -, -⟩, -, -⟩ := h7
  obtain ⟨vs8, ⟨a8, k8, rfl, -, -, -, -⟩, -, -⟩ := h8
  have hszH := hid (And.intro hsz hnw)
  clear hsz hnw
  have ret := hid (show RetTrueF w (.returned (.bool true)) w from ⟨rfl, Fr.refl _ _⟩)
  go_enter Try.func5, Try.ntmps5
  go_wp2_with fail
  refine (c35 w _ ns g1.out a2 cs.length k2 a3 ats.length k3 a4 es.length k4 a5 bs.length k5 srt a6 nus.length k6 _ pss g7.out _ css g8.out).mono ?_
  rintro e w' ⟨b, rfl, hw⟩
  obtain rfl : w = w' := hw.symm
  cases b
  · go_wp2
    go_ret
    exact ret.out
  · skip
    by_cases l0 : 65536 < ns.length
    · go_wp2
      go_ret
      exact ret.out
    · skip
      by_cases l1 : 65536 < cs.length
      · go_wp2
        go_ret
        exact ret.out
      · skip
        by_cases l2 : 65536 < ats.length
        · go_wp2
          go_ret
          exact ret.out
        · skip
          by_cases l3 : 65536 < es.length
          · go_wp2
            go_ret
            exact ret.out
          · skip
            by_cases l4 : 65536 < bs.length
            · go_wp2
              go_ret
              exact ret.out
            · skip
              by_cases l5 : 65536 < nus.length
              · go_wp2
                go_ret
                exact ret.out
              · skip
                go_upto_region 5 with fail
                by_cases l6 : 65536 < pss.length
                · go_wp2
                  go_ret
                  exact ret.out
                · skip
                  by_cases l7 : 65536 < css.length
                  · go_wp2
                    go_ret
                    exact ret.out
                  · skip
                    go_wp2_with fail
                    refine (c10 w _ ns g1.out a2 a3 a4 a5 cs.length ats.length es.length bs.length k2 k3 k4 k5 (by omega) (by omega) (by omega) (by omega)).mono ?_
                    rintro e w' ⟨r, rfl, hr0, hr1, hw⟩
                    obtain rfl : w = w' := hw.symm
                    go_wp2_with fail
                    refine (c9 w _ _ hr0).mono ?_
                    rintro e w' ⟨r1, rfl, hr2, hr3, hw⟩
                    obtain rfl : w = w' := hw.symm
                    go_wp2_with fail
                    refine (c36b w _ pss g7.out).mono ?_
                    rintro e w' ⟨r2, rfl, hr4, hr5, hw, P2⟩
                    obtain rfl : w = w' := hw.symm
                    go_wp2_with fail
                    refine (c9b w _ _ hr2).mono ?_
                    rintro e w' ⟨r3, rfl, hr6, hr7, hw, P3⟩
                    obtain rfl : w = w' := hw.symm
                    go_wp2_with fail
                    refine (c37b w _ css g8.out).mono ?_
                    rintro e w' ⟨r4, rfl, hr8, hr9, hw, P4⟩
                    obtain rfl : w = w' := hw.symm
                    go_wp2_with fail
                    refine (c9b w _ _ hr6).mono ?_
                    rintro e w' ⟨r5, rfl, hra, hrb, hw, P5⟩
                    obtain rfl : w = w' := hw.symm
                    have PH := hid (And.intro P2 (And.intro P3 (And.intro P4 P5)))
                    clear P2 P3 P4 P5
                    by_cases hlim : 1048576 < r5
                    · go_wp2
                      go_ret
                      exact ret.out
                    · skip
                      have bnd : Hid ((∀ xs ∈ pss, xs.length ≤ 65536) ∧ ∀ xs ∈ css, xs.length ≤ 65536) := by obtain ⟨P2, P3, P4, P5⟩ := PH.out; obtain ⟨q1, q2⟩ := P5 (by omega); exact ⟨P2 (P3 q1).2, P4 q2⟩
                      clear PH
                      clear hr1 hr2 hr3 hr4 hr5 hr6 hr7 hr8 hr9 hrb
                      go_wp2_with fail
                      refine (c11 w a1 a2 a3 a4 a5 ns.length cs.length ats.length es.length bs.length k1 k2 k3 k4 k5).mono ?_
                      rintro e w' ⟨b, rfl, hw, hshape⟩
                      obtain rfl : w = w' := hw.symm
                      cases b
                      · go_wp2
                        go_ret
                        exact ret.out
                      · skip
                        have hshH := hid (hshape rfl)
                        clear hshape
                        by_cases hpl0 : ¬ css.length = pss.length
                        · have hd : ((pss.length : Int) != (css.length : Int)) = true := by simp; omega
                          go_wp2
                          go_ret
                          exact ret.out
                        have hplH := hid (show css.length = pss.length by omega)
                        have hd0 : ((pss.length : Int) != (css.length : Int)) = false := by simp; have := hplH.out; omega
                        clear hpl0
                        go_wp2
                        clear hd0
                        go_loopw [20] (fun i wr => ∃ k : Nat, k ≤ pss.length ∧ i = .int .i64 k ∧ Qt w wr ∧ ∀ (r : Nat) (xs : List ByteArray) (ys : List Int), r < k → pss[r]? = some xs → css[r]? = some ys → ys.length = xs.length) (fun i _ => pss.length - (intOf i).toNat)
                        case atStart => exact ⟨0, by omega, rfl, Qt.refl _, fun r xs ys h => by omega⟩
                        case round =>
                          obtain ⟨k, hk, rfl, hq, hle⟩ := hrel
                          by_cases hlt : k < pss.length
                          · obtain ⟨vs, ⟨ao, c, e, _, _, _, hp⟩, hl, hi⟩ := g7.out
                            obtain ⟨vt, ⟨ao', c', e', _, _, _, hp'⟩, hl', hi'⟩ := g8.out
                            simp only [Value.slice.injEq, true_and] at e e'
                            obtain ⟨rfl, rfl⟩ := e
                            obtain ⟨rfl, rfl⟩ := e'
                            have hcp := hplH.out
                            obtain ⟨xs, hxs⟩ : ∃ x, pss[k]? = some x := ⟨_, List.getElem?_eq_getElem hlt⟩
                            obtain ⟨ys, hys⟩ : ∃ x, css[k]? = some x := ⟨_, List.getElem?_eq_getElem (by omega)⟩
                            obtain ⟨u, hu⟩ : ∃ x, vs[k]? = some x := ⟨_, List.getElem?_eq_getElem (by omega)⟩
                            obtain ⟨t, ht⟩ : ∃ x, vt[k]? = some x := ⟨_, List.getElem?_eq_getElem (by omega)⟩
                            obtain ⟨b, o, rfl, _, d⟩ := hp (by omega)
                            obtain ⟨b', o', rfl, _, d'⟩ := hp' (by omega)
                            obtain ⟨ua, uc, rfl, -⟩ := hi k u xs hu hxs
                            obtain ⟨ta, tc, rfl, -⟩ := hi' k t ys ht hys
                            have q1 := (hq.cell _).trans (d k _ hu)
                            have q2 := (hq.cell _).trans (d' k _ ht)
                            have lc : k < css.length := by omega
                            have hKH := hid (And.intro hq (And.intro hle (And.intro hxs hys)))
                            clear hp hl hi hp' hl' hi' hxs hys hu ht d d' hq hle hcp
                            by_cases hxy : xs.length = ys.length
                            · have hd : ((xs.length : Int) != (ys.length : Int)) = false := by simp [hxy]
                              have hxyH := hid hxy
                              clear hxy
                              go_wp2
                              go_quiet (fail)
                              go_wp2
                              go_roundw
                              case rel =>
                                obtain ⟨hq, hle, hxs, hys⟩ := hKH.out
                                refine ⟨k + 1, by omega, by go_num, hq.trans (Qt.drewN _ _), fun r xs' ys' hr h1 h2 => ?_⟩
                                by_cases hrk : r < k
                                · exact hle r xs' ys' hrk h1 h2
                                · obtain rfl : r = k := by omega
                                  rw [hxs] at h1
                                  rw [hys] at h2
                                  cases h1; cases h2; exact hxyH.out.symm
                              case measure => simp [intOf]; omega
                            · have hd : ((xs.length : Int) != (ys.length : Int)) = true := by simp; omega
                              go_wp2
                              go_quiet (fail)
                              go_wp2
                              go_ret
                              exact ⟨rfl, hKH.out.1.fr.tr (Fr.drewN _ _ _)⟩
                          · have hleH := hid (show ∀ (r : Nat) (xs : List ByteArray) (ys : List Int), pss[r]? = some xs → css[r]? = some ys → ys.length = xs.length from fun r xs ys h1 h2 => hle r xs ys (by have := (List.getElem?_eq_some_iff.1 h1).1; omega) h1 h2)
                            obtain ⟨wq, hwq⟩ : ∃ wq : World, wq = wr := ⟨_, rfl⟩
                            subst hwq
                            have fq0 : Fr All w wq := hq.fr
                            clear hle hq hk
                            by_cases hs0 : srt < 0
                            · go_wp2
                              go_ret
                              exact ⟨rfl, fq0⟩
                            · by_cases hs1 : (ns.length : Int) < srt
                              · go_wp2
                                go_ret
                                exact ⟨rfl, fq0⟩
                              · obtain ⟨s, rfl⟩ : ∃ s : Nat, srt = s := ⟨srt.toNat, by omega⟩
                                go_wp2_with fail
                                refine (c12 (T := All) wq _ ns s (Rd.fr g1.out fq0) (by omega) (by omega)).mono ?_
                                rintro e w1 ⟨b, rfl, hq1, hincn⟩
                                have fq := fq0.tr hq1.fr
                                cases b
                                · go_wp2
                                  go_ret
                                  exact ⟨rfl, fq⟩
                                · have hincH := hid (hincn rfl)
                                  clear hincn hq1 fq0 hlt
                                  go_wp2_with fail
                                  refine (c13 (T := All) _ _ ns (Rd.fr g1.out fq) (by omega)).mono ?_
                                  rintro e u1 ⟨v1, rfl, f1, o1⟩
                                  obtain ⟨b1, m1, q1, rfl⟩ := own_shape o1
                                  obtain rfl := own_len o1
                                  have F1 := fq.tr f1
                                  go_wp2_with fail
                                  refine (c14 (T := All) _ _ cs (Rd.fr g2.out F1) (by omega)).mono ?_
                                  rintro e u2 ⟨v2, rfl, f2, o2⟩
                                  obtain ⟨b2, m2, q2, rfl⟩ := own_shape o2
                                  obtain rfl := own_len o2
                                  have F2 := F1.tr f2
                                  go_wp2_with fail
                                  refine (c15 (T := All) _ _ ats (Rd.fr g3.out F2) (by omega)).mono ?_
                                  rintro e u3 ⟨v3, rfl, f3, o3⟩
                                  obtain ⟨b3, m3, q3, rfl⟩ := own_shape o3
                                  obtain rfl := own_len o3
                                  have F3 := F2.tr f3
                                  go_wp2_with fail
                                  refine (c16 (T := All) _ _ es (Rd.fr g4.out F3) (by omega)).mono ?_
                                  rintro e u4 ⟨v4, rfl, f4, o4⟩
                                  obtain ⟨b4, m4, q4, rfl⟩ := own_shape o4
                                  obtain rfl := own_len o4
                                  have F4 := F3.tr f4
                                  go_wp2_with fail
                                  refine (c16 (T := All) _ _ bs (Rd.fr g5.out F4) (by omega)).mono ?_
                                  rintro e u5 ⟨v5, rfl, f5, o5⟩
                                  obtain ⟨b5, m5, q5, rfl⟩ := own_shape o5
                                  obtain rfl := own_len o5
                                  have F5 := F4.tr f5
                                  go_wp2_with fail
                                  refine (c17 (T := All) _ _ nus (Rd.fr g6.out F5) (by omega)).mono ?_
                                  rintro e u6 ⟨v6, rfl, f6, o6⟩
                                  obtain ⟨b6, m6, q6, rfl⟩ := own_shape o6
                                  obtain rfl := own_len o6
                                  have F6 := F5.tr f6
                                  go_wp2_with fail
                                  refine (c38 _ _ pss (Nest.fr g7.out F6) (by omega) (fun xs hx => by have := bnd.out.1 xs hx; omega)).mono ?_
                                  rintro e u7 ⟨b7, q7, rfl, f7, o7⟩
                                  have F7 := F6.tr f7
                                  go_wp2_with fail
                                  refine (c39 _ _ css (Nest.fr g8.out F7) (by omega) (fun xs hx => by have := bnd.out.2 xs hx; omega)).mono ?_
                                  rintro e u8 ⟨b8, q8, rfl, f8, o8⟩
                                  have F8 := F7.tr f8
                                  have G8 : Fr All u8 u8 := Fr.refl _ _
                                  have G7 : Fr All u7 u8 := f8.tr G8
                                  have G6 : Fr All u6 u8 := f7.tr G7
                                  have G5 : Fr All u5 u8 := f6.tr G6
                                  have G4 : Fr All u4 u8 := f5.tr G5
                                  have G3 : Fr All u3 u8 := f4.tr G4
                                  have G2 : Fr All u2 u8 := f3.tr G3
                                  have G1 : Fr All u1 u8 := f2.tr G2
                                  have R1 := hid (strs_at o1 G1)
                                  have R2 := hid (strs_at o2 G2)
                                  have R3 := hid (strs_at o3 G3)
                                  have R4 := hid (strs_at o4 G4)
                                  have R5 := hid (strs_at o5 G5)
                                  have R6 := hid (strs_at o6 G6)
                                  have R7 := hid (nest_at o7 G7)
                                  have R8 := hid (nest_at o8 G8)
                                  have FW := hid F8
                                  clear f1 o1 G1 F1 g1 f2 o2 G2 F2 g2 f3 o3 G3 F3 g3 f4 o4 G4 F4 g4 f5 o5 G5 F5 g5 f6 o6 G6 F6 g6 f7 o7 G7 F7 g7 f8 o8 G8 F8 g8 fq
                                  obtain ⟨e2, e3, e4, e5⟩ := hshH.out
                                  have hN1 := hid (c18g u8 _ _ _ _ _ ns cs ats es bs s R1.out R2.out R3.out R4.out R5.out e2 e3 e4 e5 hszH.out.1 (by omega) _ _ _ pss css nus R7.out R8.out R6.out hplH.out hleH.out hszH.out.2 (by omega) (fun xs hx => by have := bnd.out.1 xs hx; omega) (by omega))
                                  clear e2 e3 e4 e5
                                  go_wp2_with fail
                                  refine hN1.out.mono ?_
                                  rintro e W1 ⟨L, qs, lv, t3, nb, rfl, led, eqs, hrec, hown, hnb, fl⟩
                                  have hk := hid (c19 W1 _ L qs s lv _ _ led)
                                  have ledH := hid (And.intro led (And.intro eqs (And.intro hrec (And.intro hown fl))))
                                  clear led eqs hrec hown fl hN1
                                  go_wp2_with fail
                                  refine hk.out.mono ?_
                                  rintro e w' ⟨m, rfl, hw, hm⟩
                                  obtain rfl : W1 = w' := hw.symm
                                  have hmH := hid hm
                                  clear hm hk
                                  by_cases hmn0 : ¬ m = ns.length
                                  · have hd : ((m : Int) != (ns.length : Int)) = true := by simp; omega
                                    go_wp2
                                    go_ret
                                    exact ⟨rfl, FW.out.tr ledH.out.2.2.2.2⟩
                                  have hmn : m = ns.length := by omega
                                  clear hmn0
                                  subst hmn
                                  obtain ⟨led, eqs, hrec, hown, fl⟩ := ledH.out
                                  have hlq : qs.length = ns.length := by have := congrArg List.length eqs; simpa [stsTo] using this
                                  have hnd := hmH.out.1 hlq.symm
                                  have hinq : Incq (qs.take s) := by
                                    have h0 := inc_of_pre (t := []) (ss := qs.map Prod.snd) hincH.out (by omega) (by rw [eqs, stsTo_names, List.append_nil])
                                    unfold Inc at h0
                                    rw [← List.map_take, List.pairwise_map] at h0
                                    exact h0
                                  have hR := hid (c40 W1 _ L s qs lv t3 _ _ led.bound hnd (by omega) hinq (by omega) (fun b hb => hb.2) hrec.bound (by rw [recsTo_len]; omega))
                                  have hndH := hid hnd
                                  clear led eqs hrec hown fl hnd hinq hmH
                                  have hd1 : ((ns.length : Int) != (ns.length : Int)) = false := by simp
                                  go_wp2_with fail
                                  refine hR.out.mono ?_
                                  rintro e W2 ⟨rfl, qs', t3', nb', led2, hp2, hi2, rec2, hnb2, fr2⟩
                                  obtain ⟨led, eqs, hrec, hown, fl⟩ := ledH.out
                                  obtain ⟨e2, e3, e4, e5⟩ := hshH.out
                                  have f12 : Fr (fun b => b < u8.heap.size) u8 W2 := Fr.trans fl fr2 (fun i hi _ => ⟨trivial, fun hS => by have := hS.1; omega⟩)
                                  have FE := hid (show Fr All w W2 from Fr.trans FW.out f12 (fun i hi _ => ⟨trivial, Nat.lt_of_lt_of_le hi FW.out.size⟩))
                                  have B1 := hid (Rd.fr R1.out f12)
                                  have B2 := hid (Rd.fr R2.out f12)
                                  have B3 := hid (Rd.fr R3.out f12)
                                  have B5 := hid (Rd.fr R5.out f12)
                                  have B7 := hid (Nest.fr R7.out f12)
                                  have B8 := hid (Nest.fr R8.out f12)
                                  have hplc := hid (fun (i : Nat) (x : ByteArray) (hi : ns[i]? = some x) => place hp2 eqs e2 e3 e5 hi)
                                  have hlqH := hid hlq
                                  clear hlq
                                  have hlq := hlqH.out
                                  have hlq2 : Hid (qs'.length = ns.length) := hid (hp2.length_eq.trans hlq)
                                  obtain ⟨a3, c3, rfl, hRL⟩ := recs_law rec2
                                  have hRH := hid hRL
                                  have hlast : Hid ((qs'.map fun q => (q.2.name, q.2.cr)).length = ns.length) := hid (by rw [List.length_map]; exact hlq2.out)
                                  have hk28 := hid (c28 W2 _ L _ _ lv _ a3 (pss.length + 1) c3 led2)
                                  have hndq : (names (qs'.map Prod.snd)).Nodup := ((hp2.map Prod.snd).map St.name).nodup_iff.2 hndH.out
                                  have ledW := hid (And.intro led2 (And.intro hi2 (And.intro hndq hnb2)))
                                  clear led eqs hrec hown fl e2 e3 e4 e5 f12 hRL led2 hi2 hp2 rec2 hnb2 fr2 ledH R1 R2 R3 R4 R5 R6 R7 R8 FW hshH hndH hR hndq hd1 hr0 hra hlim hlq
                                  go_wp2_with fail
                                  refine hk28.out.mono ?_
                                  rintro e w' ⟨rfl, hw⟩
                                  obtain rfl : W2 = w' := hw.symm
                                  clear hk28
                                  obtain ⟨b3r, o3r, rfl, hrr, ua, uc, k1r, d1r⟩ := hRH.out
                                  rw [hlast.out] at k1r d1r
                                  have hrrH := hid hrr
                                  have k1H := hid k1r
                                  have dLH := hid (show Rd All W2 (.slice ua ns.length uc) (qs'.map fun q => (q.2.name, q.2.cr)).length (flat2 (qs'.map fun q => (q.2.name, q.2.cr))) by rw [hlast.out]; exact d1r)
                                  clear hrr k1r d1r hRH
                                  go_wp2
                                  refine lp2 W2 pss css b3r o3r c3 q7 q8 b7 b8 W2 (Qt.refl _) B7.out B8.out hplH.out hleH.out bnd.out (by omega) hrrH.out _ (by kernel_rfl) _ _ _ _ _ _ _ _ _ _ _ _ _ _ _ _ _ _ _ _ _ _ _ _ _ _ _ _ _ _ _ _ _ _ _ _ _ _ _ _ _ _ _ _ _ _ _ _ _ _ _ _ _ _ _ _ _ _ _ _ _ _ _ _ _ _ _ _ _ _ _ _ _ _ _ _ _ _ _ _ _ _ _ _ _ _ _ _ _ _ _ _ _ _ _ _ _ _ _ _ _ _ _ _ _ _ _ _ _ _ _ _ _ _ _ _ _ _ _ _ _ _ _ _ _ _ _ _ _ _ _ _ _ _ _ _ _ _ _ _ _ _ _ _ _ _ _ _ _ _ _ _ _ _ _ _ _ _ _ _ _ _ _ _ _ _ _ _ _ _ _ _ _ _ _ _ _ _ _ _ _ _ _ _ _ _ _ _ _ _ _ _ _ _ _ _ _ _ _ _ _ _ _ _ _ _ _ _ _ _ _ _ _ _ _ _ _ _ _ _ _ _ _ _ _ _ _ _ _ _ _ _ _ _ _ _ _ _ _ _ _ _ _ _ _ _ _ _ _ _ _ _ _ _ _ _ _ _ _ _ _ _ _ _ _ _ _ _ _ _ _ _ _ _ _ _ _ _ _ _ _ _ _ _ _ _ _ _ _ _ _ _ _ _ _ _ _ _ _ _ _ _ _ _ _ _ _ _ _ _ _ _ _ _ _ _ _ _ _ _ _ _ _ _ _ _ _ _ _ _ _ _ _ _ _ _ _ _ _ _ _ _ _ _ _ _ _ _ _ _ _ _ _ _ _ _ _ _ _ _ _ _ _ _ _ _ _ _ _ _ _ _ _ _ _ _ _ _ _ _ _ _ _ _ _ _ _ _ _ _ _ _ _ _ _ _ _ _ _ _ _ _ _ _ _ _ ?_
                                  intro w3 y18 y24 y25 y26 y191 y192 y193 y194 y195 y196 y197 y198 y199 y200 y201 y202 y203 y204 y205 y206 y207 y208 y209 y210 y211 y212 y213 y214 y215 y216 y217 y218 y219 y220 y221 y222 y223 y224 y225 y226 y227 y228 y229 y230 y231 y232 y233 y234 y235 y236 y237 y238 y239 y240 y241 y242 hq3
                                  have j1 := (hq3.cell _).trans k1H.out
                                  have hq3H := hid hq3
                                  clear hq3 k1H hrrH B7 B8 hplH hleH bnd
                                  go_wp2
                                  clear j1
                                  refine lp4 W2 ns qs' ua uc w3 hq3H.out dLH.out hlq2.out ledW.out.2.1 (by omega) _ (by kernel_rfl) _ _ _ _ _ _ _ _ _ _ _ _ _ _ _ _ _ _ _ _ _ _ _ _ _ _ _ _ _ _ _ _ _ _ _ _ _ _ _ _ _ _ _ _ _ _ _ _ _ _ _ _ _ _ _ _ _ _ _ _ _ _ _ _ _ _ _ _ _ _ _ _ _ _ _ _ _ _ _ _ _ _ _ _ _ _ _ _ _ _ _ _ _ _ _ _ _ _ _ _ _ _ _ _ _ _ _ _ _ _ _ _ _ _ _ _ _ _ _ _ _ _ _ _ _ _ _ _ _ _ _ _ _ _ _ _ _ _ _ _ _ _ _ _ _ _ _ _ _ _ _ _ _ _ _ _ _ _ _ _ _ _ _ _ _ _ _ _ _ _ _ _ _ _ _ _ _ _ _ _ _ _ _ _ _ _ _ _ _ _ _ _ _ _ _ _ _ _ _ _ _ _ _ _ _ _ _ _ _ _ _ _ _ _ _ _ _ _ _ _ _ _ _ _ _ _ _ _ _ _ _ _ _ _ _ _ _ _ _ _ _ _ _ _ _ _ _ _ _ _ _ _ _ _ _ _ _ _ _ _ _ _ _ _ _ _ _ _ _ _ _ _ _ _ _ _ _ _ _ _ _ _ _ _ _ _ _ _ _ _ _ _ _ _ _ _ _ _ _ _ _ _ _ _ _ _ _ _ _ _ _ _ _ _ _ _ _ _ _ _ _ _ _ _ _ _ _ _ _ _ _ _ _ _ _ _ _ _ _ _ _ _ _ _ _ _ _ _ _ _ _ _ _ _ _ _ _ _ _ _ _ _ _ _ _ _ _ _ _ _ _ _ _ _ _ _ _ _ _ _ _ _ _ _ _ _ _ _ _ _ _ _ _ _ _ _ _ _ _ _ _ _ _ _ _ _ _ ?_
                                  intro w4 y18 y28 y252 y253 y254 y255 y256 y257 y258 y259 y260 y261 y262 y263 y264 y265 y266 y267 y268 y269 hq4
                                  have hq4H := hid hq4
                                  clear hq4 hq3H
                                  go_wp2
                                  refine lp5 W2 ns cs ats bs qs' ua b1 b2 uc q1 q2 w4 hq4H.out dLH.out hlast.out ledW.out.2.1 (by omega) B1.out B2.out hplc.out _ (by kernel_rfl) _ _ _ _ _ _ _ _ _ _ _ _ _ _ _ _ _ _ _ _ _ _ _ _ _ _ _ _ _ _ _ _ _ _ _ _ _ _ _ _ _ _ _ _ _ _ _ _ _ _ _ _ _ _ _ _ _ _ _ _ _ _ _ _ _ _ _ _ _ _ _ _ _ _ _ _ _ _ _ _ _ _ _ _ _ _ _ _ _ _ _ _ _ _ _ _ _ _ _ _ _ _ _ _ _ _ _ _ _ _ _ _ _ _ _ _ _ _ _ _ _ _ _ _ _ _ _ _ _ _ _ _ _ _ _ _ _ _ _ _ _ _ _ _ _ _ _ _ _ _ _ _ _ _ _ _ _ _ _ _ _ _ _ _ _ _ _ _ _ _ _ _ _ _ _ _ _ _ _ _ _ _ _ _ _ _ _ _ _ _ _ _ _ _ _ _ _ _ _ _ _ _ _ _ _ _ _ _ _ _ _ _ _ _ _ _ _ _ _ _ _ _ _ _ _ _ _ _ _ _ _ _ _ _ _ _ _ _ _ _ _ _ _ _ _ _ _ _ _ _ _ _ _ _ _ _ _ _ _ _ _ _ _ _ _ _ _ _ _ _ _ _ _ _ _ _ _ _ _ _ _ _ _ _ _ _ _ _ _ _ _ _ _ _ _ _ _ _ _ _ _ _ _ _ _ _ _ _ _ _ _ _ _ _ _ _ _ _ _ _ _ _ _ _ _ _ _ _ _ _ _ _ _ _ _ _ _ _ _ _ _ _ _ _ _ _ _ _ _ _ _ _ _ _ _ _ _ _ _ _ _ _ _ _ _ _ _ _ _ _ _ _ _ _ _ _ _ _ _ _ _ _ _ _ _ _ _ _ _ _ _ _ _ _ _ _ _ _ _ _ _ _ _ _ _ ?_
                                  intro wr y18 y29 y30 y270 y271 y272 y273 y274 y275 y276 y277 y278 y279 y280 y281 y282 y283 y284 y285 y286 y287 y288 y289 y290 y291 y292 y293 y294 hq
                                  clear hq4H
                                  obtain ⟨la, ln, lc, rfl⟩ := own_shape ledW.out.1.own
                                  obtain rfl : ln = ns.length := by have h0 := own_len ledW.out.1.own; rw [List.length_map, hlq2.out] at h0; exact h0
                                  have ledR : Hid (∀ w' : World, Qt W2 w' → LedV w' _ L (qs'.map fun q => (q.1, reset q.2)) _ (.slice la ns.length lc) _ (.map (some nb'))) := hid (fun w' h => ledW.out.1.fr (T := All) h.fr (fun _ _ => trivial))
                                  have hsl : Hid (((qs'.map fun q => (q.1, reset q.2)).map Prod.snd).length = ns.length) := hid (by rw [List.length_map, List.length_map]; exact hlq2.out)
                                  have hnr : Hid ((names ((qs'.map fun q => (q.1, reset q.2)).map Prod.snd)).Nodup) := hid (by rw [names_reset]; exact ledW.out.2.2.1)
                                  have hir := hid (inc_reset ledW.out.2.1)
                                  have h26 := hid (c26 wr _ L _ _ _ _ _ (ledR.out wr hq))
                                  obtain ⟨ps, hpsl, hrd, -⟩ := (ledR.out wr hq).lst
                                  have h22 := hid (c22 (T := All) wr _ ps (by rw [hpsl]; exact hrd) (by rw [hpsl, hsl.out]; omega))
                                  have h23 := c23 wr _ _ (ledR.out wr hq).lst hir.out (by rw [hsl.out]; omega)
                                  rw [hsl.out] at h23
                                  have h23 := hid h23
                                  have hqH := hid hq
                                  clear hpsl hrd hq dLH
                                  go_wp2_with fail
                                  refine h26.out.mono ?_
                                  rintro e w' ⟨rfl, hw⟩
                                  obtain rfl : wr = w' := hw.symm
                                  clear h26
                                  have hdl : ((ns.length : Int) != (ns.length : Int)) = false := by simp
                                  go_wp2_with fail
                                  refine h22.out.mono ?_
                                  rintro e w' ⟨rfl, hw⟩
                                  obtain rfl : wr = w' := hw.symm
                                  clear h22
                                  go_wp2_with fail
                                  refine h23.out.mono ?_
                                  rintro e w5 ⟨rfl, hq5⟩
                                  clear h23
                                  have hq5H := hid (hqH.out.trans hq5)
                                  clear hq5
                                  have h27 := c27 w5 _ L _ _ _ _ _ (ledR.out w5 hq5H.out)
                                  rw [hlqH.out] at h27
                                  have h27 := hid h27
                                  have h19 := hid (c19 w5 _ L _ _ _ _ _ (ledR.out w5 hq5H.out))
                                  go_wp2_with fail
                                  refine h27.out.mono ?_
                                  rintro e w' ⟨rfl, hw⟩
                                  obtain rfl : w5 = w' := hw.symm
                                  clear h27
                                  go_wp2_with fail
                                  refine h19.out.mono ?_
                                  rintro e w' ⟨m, rfl, hw, hm⟩
                                  obtain rfl : w5 = w' := hw.symm
                                  clear h19
                                  obtain rfl : m = ns.length := by have h0 := hm.2 hnr.out; rw [List.length_map, hlq2.out] at h0; exact h0
                                  clear hm hqH
                                  go_wp2
                                  refine lp6 W2 L ns qs' la lc w5 hq5H.out ledR.out hlq2.out hnr.out (by omega) _ (by kernel_rfl) _ _ _ _ _ _ _ _ _ _ _ _ _ _ _ _ _ _ _ _ _ _ _ _ _ _ _ _ _ _ _ _ _ _ _ _ _ _ _ _ _ _ _ _ _ _ _ _ _ _ _ _ _ _ _ _ _ _ _ _ _ _ _ _ _ _ _ _ _ _ _ _ _ _ _ _ _ _ _ _ _ _ _ _ _ _ _ _ _ _ _ _ _ _ _ _ _ _ _ _ _ _ _ _ _ _ _ _ _ _ _ _ _ _ _ _ _ _ _ _ _ _ _ _ _ _ _ _ _ _ _ _ _ _ _ _ _ _ _ _ _ _ _ _ _ _ _ _ _ _ _ _ _ _ _ _ _ _ _ _ _ _ _ _ _ _ _ _ _ _ _ _ _ _ _ _ _ _ _ _ _ _ _ _ _ _ _ _ _ _ _ _ _ _ _ _ _ _ _ _ _ _ _ _ _ _ _ _ _ _ _ _ _ _ _ _ _ _ _ _ _ _ _ _ _ _ _ _ _ _ _ _ _ _ _ _ _ _ _ _ _ _ _ _ _ _ _ _ _ _ _ _ _ _ _ _ _ _ _ _ _ _ _ _ _ _ _ _ _ _ _ _ _ _ _ _ _ _ _ _ _ _ _ _ _ _ _ _ _ _ _ _ _ _ _ _ _ _ _ _ _ _ _ _ _ _ _ _ _ _ _ _ _ _ _ _ _ _ _ _ _ _ _ _ _ _ _ _ _ _ _ _ _ _ _ _ _ _ _ _ _ _ _ _ _ _ _ _ _ _ _ _ _ _ _ _ _ _ _ _ _ _ _ _ _ _ _ _ _ _ _ _ _ _ _ _ _ _ _ _ _ _ _ _ _ _ _ _ _ _ _ _ _ _ _ _ _ _ _ _ _ _ _ _ _ _ ?_
                                  intro w6 y18 y32 y33 y34 y324 y325 y326 y327 y328 y329 y330 y331 y332 y333 y334 y335 y336 y337 y338 y339 y340 y341 y342 y343 y344 y345 y346 y347 y348 y349 y350 hq6
                                  have hq6H := hid hq6
                                  clear hq6 hq5H
                                  go_wp2
                                  refine lp7 W2 L ns cs ats bs qs' la b1 b3 b5 lc q1 q3 q5 w6 hq6H.out ledR.out hsl.out hir.out (by omega) B1.out B3.out B5.out hplc.out _ (by kernel_rfl) _ _ _ _ _ _ _ _ _ _ _ _ _ _ _ _ _ _ _ _ _ _ _ _ _ _ _ _ _ _ _ _ _ _ _ _ _ _ _ _ _ _ _ _ _ _ _ _ _ _ _ _ _ _ _ _ _ _ _ _ _ _ _ _ _ _ _ _ _ _ _ _ _ _ _ _ _ _ _ _ _ _ _ _ _ _ _ _ _ _ _ _ _ _ _ _ _ _ _ _ _ _ _ _ _ _ _ _ _ _ _ _ _ _ _ _ _ _ _ _ _ _ _ _ _ _ _ _ _ _ _ _ _ _ _ _ _ _ _ _ _ _ _ _ _ _ _ _ _ _ _ _ _ _ _ _ _ _ _ _ _ _ _ _ _ _ _ _ _ _ _ _ _ _ _ _ _ _ _ _ _ _ _ _ _ _ _ _ _ _ _ _ _ _ _ _ _ _ _ _ _ _ _ _ _ _ _ _ _ _ _ _ _ _ _ _ _ _ _ _ _ _ _ _ _ _ _ _ _ _ _ _ _ _ _ _ _ _ _ _ _ _ _ _ _ _ _ _ _ _ _ _ _ _ _ _ _ _ _ _ _ _ _ _ _ _ _ _ _ _ _ _ _ _ _ _ _ _ _ _ _ _ _ _ _ _ _ _ _ _ _ _ _ _ _ _ _ _ _ _ _ _ _ _ _ _ _ _ _ _ _ _ _ _ _ _ _ _ _ _ _ _ _ _ _ _ _ _ _ _ _ _ _ _ _ _ _ _ _ _ _ _ _ _ _ _ _ _ _ _ _ _ _ _ _ _ _ _ _ _ _ _ _ _ _ _ _ _ _ _ _ _ _ _ _ _ _ _ _ _ _ _ _ _ _ _ _ _ _ _ _ _ _ _ _ _ _ _ _ _ _ _ _ _ ?_
                                  intro wr y18 y35 y36 y37 y351 y352 y353 y354 y355 y356 y357 y358 y359 y360 y361 y362 y363 y364 y365 y366 y367 y368 y369 y370 y371 y372 y373 y374 y375 y376 y377 y378 y379 y380 y381 y382 y383 y384 y385 y386 y387 y388 y389 y390 y391 y392 y393 y394 y395 y396 y397 y398 y399 y400 y401 y402 y403 y404 y405 hq
                                  clear hq6H
                                  have hm0 : wr.heap[nb']? = some (.map #[] 0) := by rw [hq.heap]; exact ledW.out.2.2.2
                                  have h20 := c20 wr _ L nb' 0 _ _ _ _ (.map []) (ledR.out wr hq) (own_empty hm0)
                                  have hs0 : Maps.size (.map [] : DataW Unit) = 0 := by simp [Maps.size]
                                  rw [hs0] at h20
                                  have h20 := hid h20
                                  have hend := hid (FE.out.tr hq.fr)
                                  clear hm0 hs0 hq
                                  go_wp2_with fail
                                  refine h20.out.mono ?_
                                  rintro e w' ⟨rfl, hw⟩
                                  obtain rfl : wr = w' := hw.symm
                                  clear h20
                                  go_wp2
                                  go_ret
                                  exact ⟨rfl, hend.out⟩

end Go.Proofs.Qxb6601232a
