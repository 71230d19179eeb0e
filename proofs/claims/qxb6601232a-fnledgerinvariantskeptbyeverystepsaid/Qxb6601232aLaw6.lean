/-
  SEAT b6601232a. THE WALK OF FnLedgerInvariantsKeptByEveryStep. By an AI agent.
-/
import Derived.Test.Qxb6601232aStep
import Derived.Test.Qxb6601232aBytes6
import Derived.Test.Qxb6601232aSize2
import Derived.BigQuiet
import Derived.Deep.DeepCutAuto
import Derived.Test.Qxb6601232aLoop6
namespace Go.Proofs.Qxb6601232a
open Go.RowKit
set_option linter.unusedVariables false
set_option linter.unusedSimpArgs false

/-- true comes back; whatever lay there lies there as it did. -/
def RetTrueF (w : World) (e : Ending) (w' : World) : Prop := e = .returned (.bool true) ∧ Fr All w w'
theorem strs_at {u W : World} {base n : Nat} {e : TypeId} {v : Value} {xs : List Value} (o : u.ownsRow base e 1 v n xs) (f : Fr All u W) : Rd (fun b => b < W.heap.size) W v n xs :=
  Rd.fr ((Rd.own (T := fun b => b < u.heap.size) o (fun b _ hb => own_lt o hb)).mono (fun i hi => Nat.lt_of_lt_of_le hi f.size)) f.any
theorem nest_at {α : Type} {g : α → Value} {u W : World} {v : Value} {xss : List (List α)} (h : Nest g (fun b => b < u.heap.size) u v xss) (f : Fr All u W) : Nest g (fun b => b < W.heap.size) W v xss :=
  (h.fr f.any).mono (fun i hi => Nat.lt_of_lt_of_le hi f.size)

set_option maxRecDepth 100000 in
set_option maxHeartbeats 40000000 in
theorem c6 (w : World) (nv cv av ev bv nuv kv hv abv mv : Value) (ns : List ByteArray) (cs ats : List Int) (es bs : List Bool) (srt : Int) (nus ks : List Int) (hss ass mss : List (List ByteArray)) (h1 : Strs All w nv ns) (h2 : I64s All w cv cs) (h3 : I64s All w av ats) (h4 : Bls All w ev es) (h5 : Bls All w bv bs) (h6 : U64s All w nuv nus) (h7 : U8s All w kv ks) (h8 : Nest Value.string All w hv hss) (h9 : Nest Value.string All w abv ass) (h10 : Nest Value.string All w mv mss)
    (hsz : ∀ n ∈ ns, n.size ≤ maxLen) (hnw : ∀ n ∈ nus, (Lit.int .u64 n).wf = true) (z8 : ∀ xs ∈ hss, ∀ n ∈ xs, n.size ≤ maxLen) (z9 : ∀ xs ∈ ass, ∀ n ∈ xs, n.size ≤ maxLen) (z10 : ∀ xs ∈ mss, ∀ n ∈ xs, n.size ≤ maxLen) :
    Calls Try.prog 6 #[nv, cv, av, ev, bv, .int .i64 srt, nuv, kv, hv, abv, mv] w (RetTrueF w) := by
  have g1 := hid h1
  have g2 := hid h2
  have g3 := hid h3
  have g4 := hid h4
  have g5 := hid h5
  have g6 := hid h6
  have g7 := hid h7
  have g8 := hid h8
  have g9 := hid h9
  have g10 := hid h10
  obtain ⟨a1, k1, rfl, -, -, -, -⟩ := h1
  obtain ⟨a2, k2, rfl, -, -, -, -⟩ := h2
  obtain ⟨a3, k3, rfl, -, -, -, -⟩ := h3
  obtain ⟨a4, k4, rfl, -, -, -, -⟩ := h4
  obtain ⟨a5, k5, rfl, -, -, -, -⟩ := h5
  obtain ⟨a6, k6, rfl, -, -, -, -⟩ := h6
  obtain ⟨a7, k7, rfl, -, -, -, -⟩ := h7
  obtain ⟨vs8, ⟨a8, k8, rfl, -, -, -, -⟩, -, -⟩ := h8
  obtain ⟨vs9, ⟨a9, k9, rfl, -, -, -, -⟩, -, -⟩ := h9
  obtain ⟨vs10, ⟨a10, k10, rfl, -, -, -, -⟩, -, -⟩ := h10
  have hszH := hid (And.intro hsz (And.intro hnw (And.intro z8 (And.intro z9 z10))))
  clear hsz hnw z8 z9 z10
  have ret := hid (show RetTrueF w (.returned (.bool true)) w from ⟨rfl, Fr.refl _ _⟩)
  go_enter Try.func6, Try.ntmps6
  go_wp2_with fail
  refine (c42 w _ ns g1.out a2 cs.length k2 a3 ats.length k3 a4 es.length k4 a5 bs.length k5 srt a6 nus.length k6 a7 ks.length k7 _ hss g8.out _ ass g9.out _ mss g10.out).mono ?_
  rintro e w' ⟨b, rfl, hw⟩
  obtain rfl : w = w' := hw.symm
  cases b
  · go_wp2
    go_ret
    exact ret.out
  · skip
    by_cases l0 : 65536 < ns.length
    · go_wp2
      go_ret
      exact ret.out
    · skip
      by_cases l1 : 65536 < cs.length
      · go_wp2
        go_ret
        exact ret.out
      · skip
        by_cases l2 : 65536 < ats.length
        · go_wp2
          go_ret
          exact ret.out
        · skip
          by_cases l3 : 65536 < es.length
          · go_wp2
            go_ret
            exact ret.out
          · skip
            by_cases l4 : 65536 < bs.length
            · go_wp2
              go_ret
              exact ret.out
            · skip
              by_cases l5 : 65536 < nus.length
              · go_wp2
                go_ret
                exact ret.out
              · skip
                go_upto_region 5 with fail
                by_cases l6 : 4096 < ks.length
                · go_wp2
                  go_ret
                  exact ret.out
                · skip
                  by_cases l7 : 4096 < hss.length
                  · go_wp2
                    go_ret
                    exact ret.out
                  · skip
                    by_cases l8 : 4096 < ass.length
                    · go_wp2
                      go_ret
                      exact ret.out
                    · skip
                      by_cases l9 : 4096 < mss.length
                      · go_wp2
                        go_ret
                        exact ret.out
                      · skip
                        go_wp2_with fail
                        refine (c10 w _ ns g1.out a2 a3 a4 a5 cs.length ats.length es.length bs.length k2 k3 k4 k5 (by omega) (by omega) (by omega) (by omega)).mono ?_
                        rintro e w' ⟨r, rfl, hr0, hr1, hw⟩
                        obtain rfl : w = w' := hw.symm
                        go_wp2_with fail
                        refine (c9 w _ _ hr0).mono ?_
                        rintro e w' ⟨r1, rfl, hr2, hr3, hw⟩
                        obtain rfl : w = w' := hw.symm
                        go_wp2_with fail
                        refine (c9 w _ _ hr2).mono ?_
                        rintro e w' ⟨r2, rfl, hr4, hr5, hw⟩
                        obtain rfl : w = w' := hw.symm
                        go_wp2_with fail
                        refine (c36b w _ hss g8.out).mono ?_
                        rintro e w' ⟨r3, rfl, hr6, hr7, hw, P3⟩
                        obtain rfl : w = w' := hw.symm
                        go_wp2_with fail
                        refine (c9b w _ _ hr4).mono ?_
                        rintro e w' ⟨r4, rfl, hr8, hr9, hw, P4⟩
                        obtain rfl : w = w' := hw.symm
                        go_wp2_with fail
                        refine (c36b w _ ass g9.out).mono ?_
                        rintro e w' ⟨r5, rfl, hra, hrb, hw, P5⟩
                        obtain rfl : w = w' := hw.symm
                        go_wp2_with fail
                        refine (c9b w _ _ hr8).mono ?_
                        rintro e w' ⟨r6, rfl, hrc, hrd, hw, P6⟩
                        obtain rfl : w = w' := hw.symm
                        go_wp2_with fail
                        refine (c36b w _ mss g10.out).mono ?_
                        rintro e w' ⟨r7, rfl, hre, hrf, hw, P7⟩
                        obtain rfl : w = w' := hw.symm
                        go_wp2_with fail
                        refine (c9b w _ _ hrc).mono ?_
                        rintro e w' ⟨r8, rfl, hrg, hrh, hw, P8⟩
                        obtain rfl : w = w' := hw.symm
                        have PH := hid (And.intro P3 (And.intro P4 (And.intro P5 (And.intro P6 (And.intro P7 P8)))))
                        clear P3 P4 P5 P6 P7 P8
                        by_cases hlim : 1048576 < r8
                        · go_wp2
                          go_ret
                          exact ret.out
                        · skip
                          have bnd : Hid ((∀ xs ∈ hss, xs.length ≤ 65536) ∧ (∀ xs ∈ ass, xs.length ≤ 65536) ∧ ∀ xs ∈ mss, xs.length ≤ 65536) := by obtain ⟨P3, P4, P5, P6, P7, P8⟩ := PH.out; obtain ⟨q1, q2⟩ := P8 (by omega); obtain ⟨q3, q4⟩ := P6 q1; obtain ⟨q5, q6⟩ := P4 q3; exact ⟨P3 q6, P5 q4, P7 q2⟩
                          clear PH
                          clear hr0 hr1 hr2 hr3 hr4 hr5 hr6 hr7 hr8 hr9 hra hrb hrc hrd hre hrf hrh
                          go_wp2_with fail
                          refine (c11 w a1 a2 a3 a4 a5 ns.length cs.length ats.length es.length bs.length k1 k2 k3 k4 k5).mono ?_
                          rintro e w' ⟨b, rfl, hw, hshape⟩
                          obtain rfl : w = w' := hw.symm
                          cases b
                          · go_wp2
                            go_ret
                            exact ret.out
                          · skip
                            have hshH := hid (hshape rfl)
                            clear hshape
                            have gkH := hid ret.out
                            by_cases hs0 : srt < 0
                            · go_wp2
                              go_ret
                              exact ret.out
                            by_cases hs1 : (ns.length : Int) < srt
                            · go_wp2
                              go_ret
                              exact ret.out
                            obtain ⟨s, rfl⟩ : ∃ s : Nat, srt = s := ⟨srt.toNat, by omega⟩
                            go_wp2_with fail
                            refine (c12 (T := All) w _ ns s g1.out (by omega) (by omega)).mono ?_
                            rintro e w1 ⟨b, rfl, hq1, hincn⟩
                            have fq0 : Hid (Fr All w w1) := hid hq1.fr
                            clear hq1
                            cases b
                            · go_wp2
                              go_ret
                              exact ⟨rfl, fq0.out⟩
                            have hincH := hid (hincn rfl)
                            clear hincn
                            by_cases n1 : ¬ hss.length = ks.length
                            · have hd : ((hss.length : Int) != (ks.length : Int)) = true := by simp; omega
                              go_wp2
                              go_ret
                              exact ⟨rfl, fq0.out⟩
                            have hd1 : ((hss.length : Int) != (ks.length : Int)) = false := by simp; omega
                            by_cases n2 : ¬ ass.length = ks.length
                            · have hd : ((ass.length : Int) != (ks.length : Int)) = true := by simp; omega
                              go_wp2
                              go_ret
                              exact ⟨rfl, fq0.out⟩
                            have hd2 : ((ass.length : Int) != (ks.length : Int)) = false := by simp; omega
                            by_cases n3 : ¬ mss.length = ks.length
                            · have hd : ((mss.length : Int) != (ks.length : Int)) = true := by simp; omega
                              go_wp2
                              go_ret
                              exact ⟨rfl, fq0.out⟩
                            have hd3 : ((mss.length : Int) != (ks.length : Int)) = false := by simp; omega
                            have hlnH := hid (show hss.length = ks.length ∧ ass.length = ks.length ∧ mss.length = ks.length by omega)
                            clear n1 n2 n3
                            go_wp2
                            clear hd1 hd2 hd3
                            go_loopw [24] (fun i wr => ∃ k : Nat, k ≤ ns.length ∧ i = .int .i64 k ∧ Fr All w wr ∧ ∀ j, j < k → Ok (stAt ns cs ats es bs j)) (fun i _ => ns.length - (intOf i).toNat)
                            case atStart => exact ⟨0, by omega, rfl, fq0.out, fun j h => by omega⟩
                            case round =>
                              obtain ⟨k, hk, rfl, hfw, hokk⟩ := hrel
                              by_cases hlt : k < ns.length
                              · obtain ⟨e2, e3, e4, e5⟩ := hshH.out
                                obtain ⟨x2, hx2⟩ : ∃ x, cs[k]? = some x := ⟨_, List.getElem?_eq_getElem (by omega)⟩
                                obtain ⟨x3, hx3⟩ : ∃ x, ats[k]? = some x := ⟨_, List.getElem?_eq_getElem (by omega)⟩
                                obtain ⟨x4, hx4⟩ : ∃ x, es[k]? = some x := ⟨_, List.getElem?_eq_getElem (by omega)⟩
                                obtain ⟨x5, hx5⟩ : ∃ x, bs[k]? = some x := ⟨_, List.getElem?_eq_getElem (by omega)⟩
                                obtain ⟨t2, o2, rfl, d2⟩ := rd_cell (f := Value.int .i64) (Rd.fr g2.out hfw) hx2
                                obtain ⟨t3, o3, rfl, d3⟩ := rd_cell (f := Value.int .i64) (Rd.fr g3.out hfw) hx3
                                obtain ⟨t4, o4, rfl, d4⟩ := rd_cell (f := Value.bool) (Rd.fr g4.out hfw) hx4
                                obtain ⟨t5, o5, rfl, d5⟩ := rd_cell (f := Value.bool) (Rd.fr g5.out hfw) hx5
                                have y2 : k < cs.length := by omega
                                have y3 : k < ats.length := by omega
                                have y4 : k < es.length := by omega
                                have y5 : k < bs.length := by omega
                                have hst : stAt ns cs ats es bs k = ⟨ns.getD k ByteArray.empty, x2, x3, x4, x5⟩ := by simp [stAt, List.getD, hx2, hx3, hx4, hx5]
                                have hKH := hid (And.intro hfw (And.intro hokk hst))
                                clear hfw hokk hst hx2 hx3 hx4 hx5 e2 e3 e4 e5
                                by_cases hok : StOk x2 x3 x4 x5
                                · have hc43 : ∀ w' : World, Calls Try.prog 43 #[.int .i64 x2, .int .i64 x3, .bool x4, .bool x5] w' fun e w'' => e = .returned (.bool true) ∧ Qt w' w'' := fun w' =>
                                    (c43 w' x2 x3 x4 x5).mono (by rintro e w'' ⟨b, rfl, rfl, hb⟩; exact ⟨by rw [hb.2 hok], Qt.refl _⟩)
                                  have hc43 := hid hc43
                                  have hokH := hid hok
                                  clear hok
                                  go_wp2
                                  go_quiet ((go_at_call 43; exact quiet_of_qt (hc43.out _)))
                                  go_wp2
                                  go_roundw
                                  case rel =>
                                    obtain ⟨hfw, hokk, hst⟩ := hKH.out
                                    refine ⟨k + 1, by omega, by go_num, hfw.tr (Fr.drewN _ _ _), fun j hj => ?_⟩
                                    by_cases hjk : j < k
                                    · exact hokk j hjk
                                    · obtain rfl : j = k := by omega
                                      rw [hst]; exact hokH.out
                                  case measure => simp [intOf]; omega
                                · have hc43 : ∀ w' : World, Calls Try.prog 43 #[.int .i64 x2, .int .i64 x3, .bool x4, .bool x5] w' fun e w'' => e = .returned (.bool false) ∧ Qt w' w'' := fun w' =>
                                    (c43 w' x2 x3 x4 x5).mono (by
                                      rintro e w'' ⟨b, rfl, rfl, hb⟩
                                      cases b
                                      · exact ⟨rfl, Qt.refl _⟩
                                      · exact absurd (hb.1 rfl) hok)
                                  have hc43 := hid hc43
                                  clear hok
                                  go_wp2
                                  go_quiet ((go_at_call 43; exact quiet_of_qt (hc43.out _)))
                                  go_wp2
                                  go_ret
                                  exact ⟨rfl, hKH.out.1.tr (Fr.drewN _ _ _)⟩
                              · obtain rfl : k = ns.length := by omega
                                have hokH := hid hokk
                                have fq := hfw
                                clear hokk hfw hk hlt fq0
                                go_wp2_with fail
                                refine (c13 (T := All) _ _ ns (Rd.fr g1.out fq) (by omega)).mono ?_
                                rintro e u1 ⟨v1, rfl, f1, o1⟩
                                obtain ⟨b1, m1, q1, rfl⟩ := own_shape o1
                                obtain rfl := own_len o1
                                have F1 := fq.tr f1
                                go_wp2_with fail
                                refine (c14 (T := All) _ _ cs (Rd.fr g2.out F1) (by omega)).mono ?_
                                rintro e u2 ⟨v2, rfl, f2, o2⟩
                                obtain ⟨b2, m2, q2, rfl⟩ := own_shape o2
                                obtain rfl := own_len o2
                                have F2 := F1.tr f2
                                go_wp2_with fail
                                refine (c15 (T := All) _ _ ats (Rd.fr g3.out F2) (by omega)).mono ?_
                                rintro e u3 ⟨v3, rfl, f3, o3⟩
                                obtain ⟨b3, m3, q3, rfl⟩ := own_shape o3
                                obtain rfl := own_len o3
                                have F3 := F2.tr f3
                                go_wp2_with fail
                                refine (c16 (T := All) _ _ es (Rd.fr g4.out F3) (by omega)).mono ?_
                                rintro e u4 ⟨v4, rfl, f4, o4⟩
                                obtain ⟨b4, m4, q4, rfl⟩ := own_shape o4
                                obtain rfl := own_len o4
                                have F4 := F3.tr f4
                                go_wp2_with fail
                                refine (c16 (T := All) _ _ bs (Rd.fr g5.out F4) (by omega)).mono ?_
                                rintro e u5 ⟨v5, rfl, f5, o5⟩
                                obtain ⟨b5, m5, q5, rfl⟩ := own_shape o5
                                obtain rfl := own_len o5
                                have F5 := F4.tr f5
                                go_wp2_with fail
                                refine (c17 (T := All) _ _ nus (Rd.fr g6.out F5) (by omega)).mono ?_
                                rintro e u6 ⟨v6, rfl, f6, o6⟩
                                obtain ⟨b6, m6, q6, rfl⟩ := own_shape o6
                                obtain rfl := own_len o6
                                have F6 := F5.tr f6
                                go_wp2_with fail
                                refine (c44 (T := All) _ _ ks (Rd.fr g7.out F6) (by omega)).mono ?_
                                rintro e u7 ⟨v7, rfl, f7, o7⟩
                                obtain ⟨b7, m7, q7, rfl⟩ := own_shape o7
                                obtain rfl := own_len o7
                                have F7 := F6.tr f7
                                go_wp2_with fail
                                refine (c38 _ _ hss (Nest.fr g8.out F7) (by omega) (fun xs hx => by have := bnd.out.1 xs hx; omega)).mono ?_
                                rintro e u8 ⟨b8, q8, rfl, f8, o8⟩
                                have F8 := F7.tr f8
                                go_wp2_with fail
                                refine (c38 _ _ ass (Nest.fr g9.out F8) (by omega) (fun xs hx => by have := bnd.out.2.1 xs hx; omega)).mono ?_
                                rintro e u9 ⟨b9, q9, rfl, f9, o9⟩
                                have F9 := F8.tr f9
                                go_wp2_with fail
                                refine (c38 _ _ mss (Nest.fr g10.out F9) (by omega) (fun xs hx => by have := bnd.out.2.2 xs hx; omega)).mono ?_
                                rintro e u ⟨b10, q10, rfl, f10, o10⟩
                                have F10 := F9.tr f10
                                have G10 : Fr All u u := Fr.refl _ _
                                have G9 : Fr All u9 u := f10.tr G10
                                have G8 : Fr All u8 u := f9.tr G9
                                have G7 : Fr All u7 u := f8.tr G8
                                have G6 : Fr All u6 u := f7.tr G7
                                have G5 : Fr All u5 u := f6.tr G6
                                have G4 : Fr All u4 u := f5.tr G5
                                have G3 : Fr All u3 u := f4.tr G4
                                have G2 : Fr All u2 u := f3.tr G3
                                have G1 : Fr All u1 u := f2.tr G2
                                have R1 := hid (strs_at o1 G1)
                                have R2 := hid (strs_at o2 G2)
                                have R3 := hid (strs_at o3 G3)
                                have R4 := hid (strs_at o4 G4)
                                have R5 := hid (strs_at o5 G5)
                                have R6 := hid (strs_at o6 G6)
                                have R7 := hid (strs_at o7 G7)
                                have R8 := hid (nest_at o8 G8)
                                have R9 := hid (nest_at o9 G9)
                                have R10 := hid (nest_at o10 G10)
                                have FW := hid F10
                                clear f1 o1 G1 F1 g1 f2 o2 G2 F2 g2 f3 o3 G3 F3 g3 f4 o4 G4 F4 g4 f5 o5 G5 F5 g5 f6 o6 G6 F6 g6 f7 o7 G7 F7 g7 f8 o8 G8 F8 g8 f9 o9 G9 F9 g9 f10 o10 G10 F10 g10 fq ret gkH
                                obtain ⟨e2, e3, e4, e5⟩ := hshH.out
                                have hN1 := hid (c18x u _ _ _ _ _ ns cs ats es bs s R1.out R2.out R3.out R4.out R5.out e2 e3 e4 e5 hszH.out.1 (by omega) _ _ _ [] [] nus (nest_nil _ _ _) (nest_nil _ _ _) R6.out rfl (by simp) hszH.out.2.1 (by simp) (by simp) (by omega))
                                clear e2 e3 e4 e5
                                go_wp2_with fail
                                refine hN1.out.mono ?_
                                rintro e W1 ⟨L, qs, lv, t3, nb, rfl, led, eqs, hrec, hown, hnb, fl⟩
                                have hk := hid (c19 W1 _ L qs s lv _ _ led)
                                have ledH := hid (And.intro led (And.intro eqs (And.intro hrec (And.intro hown (And.intro hnb fl)))))
                                clear led eqs hrec hown hnb fl hN1
                                go_wp2_with fail
                                refine hk.out.mono ?_
                                rintro e w' ⟨m, rfl, hw, hm⟩
                                obtain rfl : W1 = w' := hw.symm
                                have hmH := hid hm
                                clear hm hk
                                by_cases hmn0 : ¬ m = ns.length
                                · have hd : ((m : Int) != (ns.length : Int)) = true := by simp; omega
                                  go_wp2
                                  go_ret
                                  exact ⟨rfl, FW.out.tr ledH.out.2.2.2.2.2⟩
                                have hmn : m = ns.length := by omega
                                clear hmn0
                                subst hmn
                                have inv : Inv u W1 L nus 0 0 qs s lv t3 nb [] nus.length (numD nus) := by
                                  obtain ⟨led, eqs, hrec, hown, hnb, fl⟩ := ledH.out
                                  have hlq : qs.length = ns.length := by have := congrArg List.length eqs; simpa [stsTo] using this
                                  have hnd := hmH.out.1 hlq.symm
                                  have hinq : Incq (qs.take s) := by
                                    have h0 := inc_of_pre (t := []) (ss := qs.map Prod.snd) hincH.out (by omega) (by rw [eqs, stsTo_names, List.append_nil])
                                    unfold Inc at h0
                                    rw [← List.map_take, List.pairwise_map] at h0
                                    exact h0
                                  refine ⟨led, hnb, hrec, rfl, Nat.le_refl _, hnd, by omega, hinq, ?_, by rw [cap_zero]; omega, hown, fun _ => rfl, fun h => absurd rfl h, fl.any⟩
                                  intro t ht
                                  rw [eqs] at ht
                                  obtain ⟨j, hj, rfl⟩ := List.mem_map.1 ht
                                  exact hokH.out j (List.mem_range.1 hj)
                                have invH := hid inv
                                have h45 := hid (inv.k45 (by omega))
                                clear inv ledH hmH hincH hokH hshH R1 R2 R3 R4 R5
                                have hd1 : ((ns.length : Int) != (ns.length : Int)) = false := by simp
                                go_wp2_with fail
                                refine h45.out.mono ?_
                                rintro e W2 ⟨rfl, hq2⟩
                                clear h45 hd1
                                have inv2 := hid (invH.out.fr hq2.fr)
                                have h20 := hid inv2.out.k20
                                clear hq2 invH
                                go_wp2_with fail
                                refine h20.out.mono ?_
                                rintro e w' ⟨rfl, hw⟩
                                obtain rfl : W2 = w' := hw.symm
                                clear h20
                                have h29 := hid (inv2.out.k29 rfl (Rd.fr R6.out inv2.out.2.2.2.2.2.2.2.2.2.2.2.2.2) hszH.out.2.1 (by omega))
                                obtain ⟨zz, hzz⟩ : ∃ zz : Nat, zz = Maps.size (numD nus) := ⟨_, rfl⟩
                                have hzzH := hid hzz
                                rw [← hzz] at h29 ⊢
                                clear hzz
                                go_wp2_with fail
                                refine h29.out.mono ?_
                                rintro e W3 ⟨rfl, hf3⟩
                                clear h29
                                have inv3 := hid (inv2.out.fr hf3)
                                clear hf3 inv2
                                go_wp2
                                refine loop2 u W3 L zz nus ks hss ass mss b6 b7 b8 b9 b10 q6 q7 q8 q9 q10 R6.out R7.out R8.out R9.out R10.out bnd.out hszH.out.2.1 hszH.out.2.2 hlnH.out hzzH.out (by omega) (by omega) ⟨_, _, _, _, _, _, _, _, inv3.out⟩ _ (by kernel_rfl) _ _ _ _ _ _ _ _ _ _ _ _ _ _ _ _ _ _ _ _ _ _ _ _ _ _ _ _ _ _ _ _ _ _ _ _ _ _ _ _ _ _ _ _ _ _ _ _ _ _ _ _ _ _ _ _ _ _ _ _ _ _ _ _ _ _ _ _ _ _ _ _ _ _ _ _ _ _ _ _ _ _ _ _ _ _ _ _ _ _ _ _ _ _ _ _ _ _ _ _ _ _ _ _ _ _ _ _ _ _ _ _ _ _ _ _ _ _ _ _ _ _ _ _ _ _ _ _ _ _ _ _ _ _ _ _ _ _ _ _ _ _ _ _ _ _ _ _ _ _ _ _ _ _ _ _ _ _ _ _ _ _ _ _ _ _ _ _ _ _ _ _ _ _ _ _ _ _ _ _ _ _ _ _ _ _ _ _ _ _ _ _ _ _ _ _ _ _ _ _ _ _ _ _ _ _ _ _ _ _ _ _ _ _ _ _ _ _ _ _ _ _ _ _ _ _ _ _ _ _ _ _ _ _ _ _ _ _ _ _ _ _ _ _ _ _ _ _ _ _ _ _ _ _ _ _ _ _ _ _ _ _ _ _ _ _ _ _ _ _ _ _ _ _ _ _ _ _ _ _ _ _ _ _ _ _ _ _ _ _ _ _ _ _ _ _ _ _ _ _ _ _ _ _ _ _ _ _ _ _ _ _ _ _ _ _ _ _ _ _ _ _ _ _ _ _ _ _ _ _ _ _ _ _ _ _ _ _ _ _ _ _ _ _ _ _ _ _ _ _ _ _ _ _ _ _ _ _ _ _ _ _ _ _ _ _ _ _ _ _ _ _ _ _ _ _ _ _ _ _ _ _ _ _ _ _ _ _ _ _ _ _ _ _ _ _ _ _ _ _ _ _ _ _ _ _ _ _ _ _ _ _ _ _ _ _ _ _ ?_
                                intro rc wo y22 y29 y30 y31 y32 y33 y34 y35 y36 y37 y234 y235 y236 y237 y238 y239 y240 y241 y242 y243 y244 y245 y246 y247 y248 y249 y250 y251 y252 y253 y254 y255 y256 y257 y258 y259 y260 y261 y262 y263 y264 y265 y266 y267 y268 y269 y270 y271 y272 y273 y274 y275 y276 y277 y278 y279 y280 y281 y282 y283 y284 y285 y286 y287 y288 y289 y290 y291 y292 y293 y294 y295 y296 y297 y298 y299 y300 y301 y302 y303 y304 y305 y306 y307 y308 y309 y310 y311 y312 y313 y314 y315 y316 y317 y318 y319 y320 y321 y322 y323 y324 y325 y326 y327 y328 y329 y330 y331 y332 y333 y334 y335 y336 y337 y338 y339 y340 y341 y342 y343 y344 y345 y346 y347 y348 y349 y350 y351 y352 y353 y354 y355 y356 y357 y358 y359 y360 y361 y362 y363 y364 y365 y366 y367 y368 y369 y370 y371 y372 y373 y374 y375 y376 y377 y378 y379 y380 y381 y382 y383 y384 y385 y386 y387 y388 y389 y390 y391 y392 y393 y394 y395 y396 y397 hrc4 hkp
                                obtain ⟨qs1, s1, lv1, t31, nb1, recs1, m1, D1, inv⟩ := hkp
                                have hk4 : ks.length ≤ 4096 := by omega
                                have invH := hid inv
                                clear inv inv3
                                obtain ⟨la, lc, rfl⟩ := invH.out.lv_shape
                                obtain ⟨a3', c3', rfl⟩ := invH.out.t3_shape
                                have h21 := hid (invH.out.k21 hk4)
                                go_wp2_with fail
                                refine h21.out.mono ?_
                                rintro e w2 ⟨rfl, qs2, inv2, hi2, hl2⟩
                                have hlq : qs2.length ≤ 805371904 := inv2.len hk4
                                have h19 := inv2.k19
                                rw [hl2] at h19
                                have h19 := hid h19
                                obtain ⟨ps, hpsl, hrd, -⟩ := inv2.1.lst
                                have h22 := hid (c22 (T := All) w2 _ ps (by rw [hpsl]; exact hrd) (by rw [hpsl, List.length_map]; omega))
                                have h23 := c23 w2 _ _ inv2.1.lst hi2 (by rw [List.length_map]; omega)
                                rw [List.length_map, hl2] at h23
                                have h23 := hid h23
                                have inv2H := hid inv2
                                clear h21 inv2 hi2 hl2 hpsl hrd hlq invH
                                go_wp2_with fail
                                refine h19.out.mono ?_
                                rintro e w' ⟨rfl, hw⟩
                                obtain rfl : w2 = w' := hw.symm
                                clear h19
                                have hdl : ((qs1.length : Int) != (qs1.length : Int)) = false := by simp
                                go_wp2_with fail
                                refine h22.out.mono ?_
                                rintro e w' ⟨rfl, hw⟩
                                obtain rfl : w2 = w' := hw.symm
                                clear h22
                                go_wp2_with fail
                                refine h23.out.mono ?_
                                rintro e w5 ⟨rfl, hq5⟩
                                clear h23
                                have inv5 := hid (inv2H.out.fr hq5.fr)
                                have h45 := hid (inv5.out.k45 hk4)
                                clear hq5 inv2H
                                go_wp2_with fail
                                refine h45.out.mono ?_
                                rintro e w6 ⟨rfl, hq6⟩
                                clear h45
                                have inv6 := hid (inv5.out.fr hq6.fr)
                                have h28 := hid inv6.out.k28
                                clear hq6 inv5
                                go_wp2_with fail
                                refine h28.out.mono ?_
                                rintro e w' ⟨rfl, hw⟩
                                obtain rfl : w6 = w' := hw.symm
                                clear h28
                                go_wp2
                                go_ret
                                exact ⟨rfl, Fr.trans FW.out inv6.out.2.2.2.2.2.2.2.2.2.2.2.2.2 (fun i hi _ => ⟨trivial, Nat.lt_of_lt_of_le hi FW.out.size⟩)⟩

end Go.Proofs.Qxb6601232a
