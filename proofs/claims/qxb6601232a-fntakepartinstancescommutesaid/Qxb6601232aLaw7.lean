/-
  SEAT b6601232a. THE WALK OF FnTakePartInstancesCommute. By an AI agent.
-/
import Derived.Test.Qxb6601232aTwo
import Derived.Test.Qxb6601232aBytes
import Derived.BigQuiet
namespace Go.Proofs.Qxb6601232a
open Go.RowKit
set_option linter.unusedVariables false
set_option linter.unusedSimpArgs false

/-- true comes back; whatever lay there lies there as it did. -/
def RetTrueF (w : World) (e : Ending) (w' : World) : Prop := e = .returned (.bool true) ∧ Fr All w w'
theorem strs_at {u W : World} {base n : Nat} {e : TypeId} {v : Value} {xs : List Value} (o : u.ownsRow base e 1 v n xs) (f : Fr All u W) : Rd (fun b => b < W.heap.size) W v n xs :=
  Rd.fr ((Rd.own (T := fun b => b < u.heap.size) o (fun b _ hb => own_lt o hb)).mono (fun i hi => Nat.lt_of_lt_of_le hi f.size)) f.any
theorem Two.fk {W0 W : World} {K : Nat → Prop} {L1 : Nat} {ss1 : List St} {srt1 : Int} {lv1 t31 t41 : Value} {L2 : Nat} {ss2 : List St} {srt2 : Int} {lv2 t32 t42 : Value} (h : Two W0 W K L1 ss1 srt1 lv1 t31 t41 L2 ss2 srt2 lv2 t32 t42) : Fr K W0 W := by
  obtain ⟨S1, S2, q1, q2, o1, o2, d, f, k⟩ := h; exact f
theorem Two.nodup {W0 W : World} {K : Nat → Prop} {L1 : Nat} {ss1 : List St} {srt1 : Int} {lv1 t31 t41 : Value} {L2 : Nat} {ss2 : List St} {srt2 : Int} {lv2 t32 t42 : Value} (h : Two W0 W K L1 ss1 srt1 lv1 t31 t41 L2 ss2 srt2 lv2 t32 t42) : (names ss1).Nodup := by
  obtain ⟨S1, S2, q1, q2, o1, o2, d, f, k⟩ := h; exact o1.2.2.1
theorem Two.shape {W0 W : World} {K : Nat → Prop} {L1 : Nat} {ss1 : List St} {srt1 : Int} {lv1 t31 t41 : Value} {L2 : Nat} {ss2 : List St} {srt2 : Int} {lv2 t32 t42 : Value} (h : Two W0 W K L1 ss1 srt1 lv1 t31 t41 L2 ss2 srt2 lv2 t32 t42) : ∃ a c, lv1 = .slice a ss1.length c := by
  obtain ⟨S1, S2, q1, q2, ⟨a1, a2, _⟩, o2, d, f, k⟩ := h
  obtain ⟨a, n, c, rfl⟩ := own_shape a1.own
  have := own_len a1.own
  exact ⟨a, c, by rw [this, ← a2]; simp⟩
theorem length_part (ss : List St) (H A M : List ByteArray) : (part ss H A M).length ≤ ss.length + H.length + A.length + M.length := by
  have := length_fold (opsOf H A M) ss
  simp [opsOf] at this
  unfold part; simp [opsOf]; omega
theorem part_pre {ss : List St} {ns t : List ByteArray} (h : names ss = ns ++ t) (H A M : List ByteArray) : ∃ t', names (part ss H A M) = ns ++ t' := by
  obtain ⟨u, hu⟩ := fold_pre (opsOf H A M) ss
  exact ⟨t ++ u, by unfold part; rw [hu, h, List.append_assoc]⟩
theorem part_pre2 {ss : List St} {ns : List ByteArray} (h : names ss = ns) (H A M H' A' M' : List ByteArray) : ∃ t', names (part (part ss H A M) H' A' M') = ns ++ t' := by
  obtain ⟨t, ht⟩ := part_pre (t := []) (by rw [h, List.append_nil]) H A M
  exact part_pre ht H' A' M'
theorem pre2_len {ss : List St} {ns : List ByteArray} (h : names ss = ns) (H A M H' A' M' : List ByteArray) : ns.length ≤ (part (part ss H A M) H' A' M').length := by
  obtain ⟨t, ht⟩ := part_pre2 h H A M H' A' M'
  have := congrArg List.length ht
  simp [names] at this; omega
theorem pre2 {ss : List St} {ns : List ByteArray} {s : Nat} (h : names ss = ns) (hi : IncN ns s) (hs : s ≤ ns.length) (H A M H' A' M' : List ByteArray) : Inc ((part (part ss H A M) H' A' M').take s) := by
  obtain ⟨t, ht⟩ := part_pre2 h H A M H' A' M'
  exact inc_of_pre hi hs ht
theorem Try.size58 : (Try.prog.info? 58).map (·.size) = some 4 := by kernel_rfl

set_option maxRecDepth 100000 in
set_option maxHeartbeats 40000000 in
theorem c7 (w : World) (nv cv av ev bv : Value) (ns : List ByteArray) (cs ats : List Int) (es bs : List Bool) (srt : Int) (h1 : Strs All w nv ns) (h2 : I64s All w cv cs) (h3 : I64s All w av ats) (h4 : Bls All w ev es) (h5 : Bls All w bv bs) (ahv : Value) (ah : List ByteArray) (hah : Strs All w ahv ah) (aav : Value) (aa : List ByteArray) (haa : Strs All w aav aa) (amv : Value) (am : List ByteArray) (ham : Strs All w amv am) (bhv : Value) (bh : List ByteArray) (hbh : Strs All w bhv bh) (bav : Value) (ba : List ByteArray) (hba : Strs All w bav ba) (bmv : Value) (bm : List ByteArray) (hbm : Strs All w bmv bm) (hsz : ∀ n ∈ ns ++ ah ++ aa ++ am ++ bh ++ ba ++ bm, n.size ≤ maxLen) :
    Calls Try.prog 7 #[nv, cv, av, ev, bv, .int .i64 srt, ahv, aav, amv, bhv, bav, bmv] w (RetTrueF w) := by
  have g1 := hid h1
  have g2 := hid h2
  have g3 := hid h3
  have g4 := hid h4
  have g5 := hid h5
  have gah := hid hah
  have gaa := hid haa
  have gam := hid ham
  have gbh := hid hbh
  have gba := hid hba
  have gbm := hid hbm
  obtain ⟨a1, k1, rfl, -, -, -, -⟩ := h1
  obtain ⟨a2, k2, rfl, -, -, -, -⟩ := h2
  obtain ⟨a3, k3, rfl, -, -, -, -⟩ := h3
  obtain ⟨a4, k4, rfl, -, -, -, -⟩ := h4
  obtain ⟨a5, k5, rfl, -, -, -, -⟩ := h5
  obtain ⟨aah, kah, rfl, -, -, -, -⟩ := hah
  obtain ⟨aaa, kaa, rfl, -, -, -, -⟩ := haa
  obtain ⟨aam, kam, rfl, -, -, -, -⟩ := ham
  obtain ⟨abh, kbh, rfl, -, -, -, -⟩ := hbh
  obtain ⟨aba, kba, rfl, -, -, -, -⟩ := hba
  obtain ⟨abm, kbm, rfl, -, -, -, -⟩ := hbm
  have hszH := hid hsz
  clear hsz
  have ret := hid (show RetTrueF w (.returned (.bool true)) w from ⟨rfl, Fr.refl _ _⟩)
  go_enter Try.func7, Try.ntmps7
  go_wp2_with fail
  refine (c46 w _ ns g1.out a2 cs.length k2 a3 ats.length k3 a4 es.length k4 a5 bs.length k5 srt _ ah gah.out _ aa gaa.out _ am gam.out _ bh gbh.out _ ba gba.out _ bm gbm.out).mono ?_
  rintro e w' ⟨b, rfl, hw⟩
  obtain rfl : w = w' := hw.symm
  cases b
  · go_wp2
    go_ret
    exact ret.out
  · skip
    by_cases l0 : 65536 < ns.length
    · go_wp2
      go_ret
      exact ret.out
    · skip
      by_cases l1 : 65536 < cs.length
      · go_wp2
        go_ret
        exact ret.out
      · skip
        by_cases l2 : 65536 < ats.length
        · go_wp2
          go_ret
          exact ret.out
        · skip
          by_cases l3 : 65536 < es.length
          · go_wp2
            go_ret
            exact ret.out
          · skip
            by_cases l4 : 65536 < bs.length
            · go_wp2
              go_ret
              exact ret.out
            · skip
              go_upto_region 5 with fail
              by_cases l5 : 65536 < ah.length
              · go_wp2
                go_ret
                exact ret.out
              · skip
                by_cases l6 : 65536 < aa.length
                · go_wp2
                  go_ret
                  exact ret.out
                · skip
                  by_cases l7 : 65536 < am.length
                  · go_wp2
                    go_ret
                    exact ret.out
                  · skip
                    by_cases l8 : 65536 < bh.length
                    · go_wp2
                      go_ret
                      exact ret.out
                    · skip
                      by_cases l9 : 65536 < ba.length
                      · go_wp2
                        go_ret
                        exact ret.out
                      · skip
                        by_cases l10 : 65536 < bm.length
                        · go_wp2
                          go_ret
                          exact ret.out
                        · skip
                          go_wp2_with fail
                          refine (c10 w _ ns g1.out a2 a3 a4 a5 cs.length ats.length es.length bs.length k2 k3 k4 k5 (by omega) (by omega) (by omega) (by omega)).mono ?_
                          rintro e w' ⟨r, rfl, hr0, hr1, hw⟩
                          obtain rfl : w = w' := hw.symm
                          go_wp2_with fail
                          refine (c31 w _ ah gah.out).mono ?_
                          rintro e w' ⟨r0a, rfl, hr0a, hr0b, hw⟩
                          obtain rfl : w = w' := hw.symm
                          go_wp2_with fail
                          refine (c9 w _ _ hr0).mono ?_
                          rintro e w' ⟨r0, rfl, hr0c, hr0d, hw⟩
                          obtain rfl : w = w' := hw.symm
                          go_wp2_with fail
                          refine (c31 w _ aa gaa.out).mono ?_
                          rintro e w' ⟨r1a, rfl, hr1a, hr1b, hw⟩
                          obtain rfl : w = w' := hw.symm
                          go_wp2_with fail
                          refine (c9 w _ _ hr0c).mono ?_
                          rintro e w' ⟨r1, rfl, hr1c, hr1d, hw⟩
                          obtain rfl : w = w' := hw.symm
                          go_wp2_with fail
                          refine (c31 w _ am gam.out).mono ?_
                          rintro e w' ⟨r2a, rfl, hr2a, hr2b, hw⟩
                          obtain rfl : w = w' := hw.symm
                          go_wp2_with fail
                          refine (c9 w _ _ hr1c).mono ?_
                          rintro e w' ⟨r2, rfl, hr2c, hr2d, hw⟩
                          obtain rfl : w = w' := hw.symm
                          go_wp2_with fail
                          refine (c31 w _ bh gbh.out).mono ?_
                          rintro e w' ⟨r3a, rfl, hr3a, hr3b, hw⟩
                          obtain rfl : w = w' := hw.symm
                          go_wp2_with fail
                          refine (c9 w _ _ hr2c).mono ?_
                          rintro e w' ⟨r3, rfl, hr3c, hr3d, hw⟩
                          obtain rfl : w = w' := hw.symm
                          go_wp2_with fail
                          refine (c31 w _ ba gba.out).mono ?_
                          rintro e w' ⟨r4a, rfl, hr4a, hr4b, hw⟩
                          obtain rfl : w = w' := hw.symm
                          go_wp2_with fail
                          refine (c9 w _ _ hr3c).mono ?_
                          rintro e w' ⟨r4, rfl, hr4c, hr4d, hw⟩
                          obtain rfl : w = w' := hw.symm
                          go_wp2_with fail
                          refine (c31 w _ bm gbm.out).mono ?_
                          rintro e w' ⟨r5a, rfl, hr5a, hr5b, hw⟩
                          obtain rfl : w = w' := hw.symm
                          go_wp2_with fail
                          refine (c9 w _ _ hr4c).mono ?_
                          rintro e w' ⟨r5, rfl, hr5c, hr5d, hw⟩
                          obtain rfl : w = w' := hw.symm
                          by_cases hlim : 1048576 < r5
                          · go_wp2
                            go_ret
                            exact ret.out
                          · skip
                            clear hr0a hr0b hr0d hr1a hr1b hr1d hr2a hr2b hr2d hr3a hr3b hr3d hr4a hr4b hr4d hr5a hr5b hr5d hr1
                            go_wp2_with fail
                            refine (c11 w a1 a2 a3 a4 a5 ns.length cs.length ats.length es.length bs.length k1 k2 k3 k4 k5).mono ?_
                            rintro e w' ⟨b, rfl, hw, hshape⟩
                            obtain rfl : w = w' := hw.symm
                            cases b
                            · go_wp2
                              go_ret
                              exact ret.out
                            · skip
                              have hshH := hid (hshape rfl)
                              clear hshape
                              by_cases hs0 : srt < 0
                              · go_wp2
                                go_ret
                                exact ret.out
                              · skip
                                by_cases hs1 : (ns.length : Int) < srt
                                · go_wp2
                                  go_ret
                                  exact ret.out
                                · skip
                                  obtain ⟨s, rfl⟩ : ∃ s : Nat, srt = s := ⟨srt.toNat, by omega⟩
                                  go_wp2_with fail
                                  refine (c12 w _ ns s g1.out (by omega) (by omega)).mono ?_
                                  rintro e w1 ⟨b, rfl, hq, hincn⟩
                                  have fq : Fr All w w1 := hq.fr
                                  cases b
                                  · go_wp2
                                    go_ret
                                    exact ⟨rfl, fq⟩
                                  · skip
                                    have hincH := hid (hincn rfl)
                                    clear hincn hq
                                    go_wp2_with fail
                                    refine (c13 (T := All) _ _ ns (Rd.fr g1.out fq) (by omega)).mono ?_
                                    rintro e u1 ⟨v1, rfl, f1, o1⟩
                                    obtain ⟨b1, m1, q1, rfl⟩ := own_shape o1
                                    obtain rfl := own_len o1
                                    have F1 := fq.tr f1
                                    go_wp2_with fail
                                    refine (c14 (T := All) _ _ cs (Rd.fr g2.out F1) (by omega)).mono ?_
                                    rintro e u2 ⟨v2, rfl, f2, o2⟩
                                    obtain ⟨b2, m2, q2, rfl⟩ := own_shape o2
                                    obtain rfl := own_len o2
                                    have F2 := F1.tr f2
                                    go_wp2_with fail
                                    refine (c15 (T := All) _ _ ats (Rd.fr g3.out F2) (by omega)).mono ?_
                                    rintro e u3 ⟨v3, rfl, f3, o3⟩
                                    obtain ⟨b3, m3, q3, rfl⟩ := own_shape o3
                                    obtain rfl := own_len o3
                                    have F3 := F2.tr f3
                                    go_wp2_with fail
                                    refine (c16 (T := All) _ _ es (Rd.fr g4.out F3) (by omega)).mono ?_
                                    rintro e u4 ⟨v4, rfl, f4, o4⟩
                                    obtain ⟨b4, m4, q4, rfl⟩ := own_shape o4
                                    obtain rfl := own_len o4
                                    have F4 := F3.tr f4
                                    go_wp2_with fail
                                    refine (c16 (T := All) _ _ bs (Rd.fr g5.out F4) (by omega)).mono ?_
                                    rintro e u5 ⟨v5, rfl, f5, o5⟩
                                    obtain ⟨b5, m5, q5, rfl⟩ := own_shape o5
                                    obtain rfl := own_len o5
                                    have F5 := F4.tr f5
                                    go_wp2_with fail
                                    refine (c13 (T := All) _ _ ah (Rd.fr gah.out F5) (by omega)).mono ?_
                                    rintro e uah ⟨vah, rfl, fah, oah⟩
                                    obtain ⟨bah, mah, qah, rfl⟩ := own_shape oah
                                    obtain rfl := own_len oah
                                    have Fah := F5.tr fah
                                    go_wp2_with fail
                                    refine (c13 (T := All) _ _ aa (Rd.fr gaa.out Fah) (by omega)).mono ?_
                                    rintro e uaa ⟨vaa, rfl, faa, oaa⟩
                                    obtain ⟨baa, maa, qaa, rfl⟩ := own_shape oaa
                                    obtain rfl := own_len oaa
                                    have Faa := Fah.tr faa
                                    go_wp2_with fail
                                    refine (c13 (T := All) _ _ am (Rd.fr gam.out Faa) (by omega)).mono ?_
                                    rintro e uam ⟨vam, rfl, fam, oam⟩
                                    obtain ⟨bam, mam, qam, rfl⟩ := own_shape oam
                                    obtain rfl := own_len oam
                                    have Fam := Faa.tr fam
                                    go_wp2_with fail
                                    refine (c13 (T := All) _ _ bh (Rd.fr gbh.out Fam) (by omega)).mono ?_
                                    rintro e ubh ⟨vbh, rfl, fbh, obh⟩
                                    obtain ⟨bbh, mbh, qbh, rfl⟩ := own_shape obh
                                    obtain rfl := own_len obh
                                    have Fbh := Fam.tr fbh
                                    go_wp2_with fail
                                    refine (c13 (T := All) _ _ ba (Rd.fr gba.out Fbh) (by omega)).mono ?_
                                    rintro e uba ⟨vba, rfl, fba, oba⟩
                                    obtain ⟨bba, mba, qba, rfl⟩ := own_shape oba
                                    obtain rfl := own_len oba
                                    have Fba := Fbh.tr fba
                                    go_wp2_with fail
                                    refine (c13 (T := All) _ _ bm (Rd.fr gbm.out Fba) (by omega)).mono ?_
                                    rintro e ubm ⟨vbm, rfl, fbm, obm⟩
                                    obtain ⟨bbm, mbm, qbm, rfl⟩ := own_shape obm
                                    obtain rfl := own_len obm
                                    have Fbm := Fba.tr fbm
                                    have Gbm : Fr All ubm ubm := Fr.refl _ _
                                    have Gba : Fr All uba ubm := fbm.tr Gbm
                                    have Gbh : Fr All ubh ubm := fba.tr Gba
                                    have Gam : Fr All uam ubm := fbh.tr Gbh
                                    have Gaa : Fr All uaa ubm := fam.tr Gam
                                    have Gah : Fr All uah ubm := faa.tr Gaa
                                    have G5 : Fr All u5 ubm := fah.tr Gah
                                    have G4 : Fr All u4 ubm := f5.tr G5
                                    have G3 : Fr All u3 ubm := f4.tr G4
                                    have G2 : Fr All u2 ubm := f3.tr G3
                                    have G1 : Fr All u1 ubm := f2.tr G2
                                    have R1 := hid (strs_at o1 G1)
                                    have R2 := hid (strs_at o2 G2)
                                    have R3 := hid (strs_at o3 G3)
                                    have R4 := hid (strs_at o4 G4)
                                    have R5 := hid (strs_at o5 G5)
                                    have Rah := hid (strs_at oah Gah)
                                    have Raa := hid (strs_at oaa Gaa)
                                    have Ram := hid (strs_at oam Gam)
                                    have Rbh := hid (strs_at obh Gbh)
                                    have Rba := hid (strs_at oba Gba)
                                    have Rbm := hid (strs_at obm Gbm)
                                    have FW := hid Fbm
                                    have hwu := hid Fbm.size
                                    clear f1 o1 G1 F1 g1 f2 o2 G2 F2 g2 f3 o3 G3 F3 g3 f4 o4 G4 F4 g4 f5 o5 G5 F5 g5 fah oah Gah Fah gah faa oaa Gaa Faa gaa fam oam Gam Fam gam fbh obh Gbh Fbh gbh fba oba Gba Fba gba fbm obm Gbm Fbm gbm fq
                                    obtain ⟨e2, e3, e4, e5⟩ := hshH.out
                                    have hsn : ∀ n ∈ ns, n.size ≤ maxLen := fun n hn => hszH.out n (by simp [hn])
                                    have hN1 := hid (c18 ubm _ _ _ _ _ ns cs ats es bs s R1.out R2.out R3.out R4.out R5.out e2 e3 e4 e5 hsn (by omega))
                                    have hN2 : Hid (∀ W1, Fr All ubm W1 → Calls Try.prog 18 _ W1 _) := fun W1 (f : Fr All ubm W1) => c18 W1 _ _ _ _ _ ns cs ats es bs s (Rd.fr R1.out f.any) (Rd.fr R2.out f.any) (Rd.fr R3.out f.any) (Rd.fr R4.out f.any) (Rd.fr R5.out f.any) e2 e3 e4 e5 hsn (by omega)
                                    clear e2 e3 e4 e5 hsn
                                    go_wp2_with fail
                                    refine hN1.out.mono ?_
                                    rintro e W1 ⟨L1, qs1, lv1, nb1, rfl, led1, eq1, fl1, -⟩
                                    have fl1H := hid fl1
                                    have led1H := hid (And.intro led1 eq1)
                                    clear led1 eq1 hN1
                                    go_wp2_with fail
                                    refine (hN2.out W1 fl1).mono ?_
                                    rintro e W2 ⟨L2, qs2, lv2, nb2, rfl, led2, eq2, fl2, -⟩
                                    have led2H := hid (And.intro led2 (And.intro eq2 fl2))
                                    have hk := hid (c19 W2 _ L1 qs1 s lv1 _ _ (led1H.out.1.fr fl2 (fun _ _ => trivial)))
                                    clear led2 eq2 hN2 fl1 fl2
                                    go_wp2_with fail
                                    refine hk.out.mono ?_
                                    rintro e w' ⟨m, rfl, hw, hm⟩
                                    obtain rfl : W2 = w' := hw.symm
                                    clear hk
                                    have hmH := hid hm
                                    clear hm
                                    by_cases hmn0 : ¬ m = ns.length
                                    · have hd : ((m : Int) != (ns.length : Int)) = true := by simp; omega
                                      go_wp2
                                      go_ret
                                      exact ⟨rfl, (FW.out.tr fl1H.out).tr led2H.out.2.2⟩
                                    have hmn : m = ns.length := by omega
                                    clear hmn0
                                    subst hmn
                                    have hlq : qs1.length = ns.length := by have := congrArg List.length led1H.out.2; simpa [stsTo] using this
                                    have hnd := hmH.out.1 hlq.symm
                                    rw [led1H.out.2] at hnd
                                    have hT := two_of hnd led1H.out.1 led1H.out.2 fl1H.out led2H.out.1 led2H.out.2.1 led2H.out.2.2
                                    have FW2 := hid ((FW.out.tr fl1H.out).tr led2H.out.2.2)
                                    have f02 := hid (fl1H.out.tr led2H.out.2.2)
                                    have hTH := hid hT
                                    clear hT hnd hlq led1H led2H fl1H FW hmH
                                    go_wp2_with fail
                                    obtain ⟨W3, hW3⟩ : ∃ W3, W3 = (W2.alloc (.cells #[.int .u64 1, .slice bah ah.length qah, .slice baa aa.length qaa, .slice bam am.length qam] 58)).alloc (.cells #[.int .u64 2, .slice bbh bh.length qbh, .slice bba ba.length qba, .slice bbm bm.length qbm] 58) := ⟨_, rfl⟩
                                    rw [← hW3]
                                    have f23 : Fr All W2 W3 := by rw [hW3]; exact (Fr.alloc _ _ _).tr (Fr.alloc _ _ _)
                                    have hA3 : W3.heap[W2.heap.size]? = some (.cells #[.int .u64 1, .slice bah ah.length qah, .slice baa aa.length qaa, .slice bam am.length qam] 58 (0, 0)) := by rw [hW3]; exact (Fr.alloc All _ _).heap (heap_alloc_new _ _) trivial
                                    have hB3 : W3.heap[W2.heap.size + 1]? = some (.cells #[.int .u64 2, .slice bbh bh.length qbh, .slice bba ba.length qba, .slice bbm bm.length qbm] 58 (0, 0)) := by rw [hW3]; have := heap_alloc_new (W2.alloc (.cells #[.int .u64 1, .slice bah ah.length qah, .slice baa aa.length qaa, .slice bam am.length qam] 58)) (.cells #[.int .u64 2, .slice bbh bh.length qbh, .slice bba ba.length qba, .slice bbm bm.length qbm] 58); simpa using this
                                    have hT3 := hTH.out.keep f23.any
                                    obtain ⟨K, hK⟩ : ∃ K : Nat → Prop, K = fun b => b < ubm.heap.size ∨ (W2.heap.size ≤ b ∧ b < W3.heap.size) := ⟨_, rfl⟩
                                    rw [← hK] at hT3
                                    have kA : K W2.heap.size := by rw [hK]; exact Or.inr ⟨Nat.le_refl _, heap_lt hA3⟩
                                    have kB : K (W2.heap.size + 1) := by rw [hK]; exact Or.inr ⟨Nat.le_succ _, heap_lt hB3⟩
                                    have hKl : ∀ b, b < ubm.heap.size → K b := fun b hb => by rw [hK]; exact Or.inl hb
                                    have f03 := f02.out.tr f23
                                    have Sah := hid (Rd.mono (Rd.fr Rah.out f03.any) hKl)
                                    have Saa := hid (Rd.mono (Rd.fr Raa.out f03.any) hKl)
                                    have Sam := hid (Rd.mono (Rd.fr Ram.out f03.any) hKl)
                                    have Sbh := hid (Rd.mono (Rd.fr Rbh.out f03.any) hKl)
                                    have Sba := hid (Rd.mono (Rd.fr Rba.out f03.any) hKl)
                                    have Sbm := hid (Rd.mono (Rd.fr Rbm.out f03.any) hKl)
                                    have hzA : Hid (∀ n ∈ ah ++ aa ++ am, n.size ≤ maxLen) := fun n hn => hszH.out n (by simp only [List.mem_append] at hn ⊢; rcases hn with (h | h) | h <;> simp [h])
                                    have hzB : Hid (∀ n ∈ bh ++ ba ++ bm, n.size ≤ maxLen) := fun n hn => hszH.out n (by simp only [List.mem_append] at hn ⊢; rcases hn with (h | h) | h <;> simp [h])
                                    have hFA := hid (show ∀ W, Fr K W3 W → Fr All w W from fun W fk => (FW2.out.tr f23).trans fk fun i hi _ => ⟨trivial, hKl i (by have := hwu.out; omega)⟩)
                                    have hss : (stsTo ns cs ats es bs ns.length).length = ns.length := by simp [stsTo]
                                    obtain ⟨ss0, hss0⟩ : ∃ ss0, ss0 = stsTo ns cs ats es bs ns.length := ⟨_, rfl⟩
                                    have hnm0 : Hid (names ss0 = ns) := by rw [hss0]; exact stsTo_names ns cs ats es bs
                                    have hnd0 : Hid ((names ss0).Nodup) := by rw [hss0]; exact hTH.out.nodup
                                    rw [← hss0] at hss hT3
                                    clear hss0 hW3 hK hTH f02 f03 f23 hKl Rah Raa Ram Rbh Rba Rbm R1 R2 R3 R4 R5 FW2 hszH
                                    have hA3H := hid hA3
                                    have hB3H := hid hB3
                                    have q1 := length_part ss0 ah aa am
                                    have q2 := length_part ss0 bh ba bm
                                    have q3 := length_part (part ss0 ah aa am) bh ba bm
                                    have q4 := length_part (part ss0 bh ba bm) ah aa am
                                    have hlen1 := hid (show ss0.length + ah.length + aa.length + am.length ≤ 1099511627776 by omega)
                                    have hlen2 := hid (show (part ss0 ah aa am).length + bh.length + ba.length + bm.length ≤ 1099511627776 by omega)
                                    have hlen3 := hid (show ss0.length + bh.length + ba.length + bm.length ≤ 1099511627776 by omega)
                                    have hlen4 := hid (show (part ss0 bh ba bm).length + ah.length + aa.length + am.length ≤ 1099511627776 by omega)
                                    have hlen5 := hid (show (part (part ss0 ah aa am) bh ba bm).length ≤ 1099511627776 by omega)
                                    have hlen6 := hid (show (part (part ss0 bh ba bm) ah aa am).length ≤ 1099511627776 by omega)
                                    clear q1 q2 q3 q4 hA3 hB3 hss
                                    refine (hT3.part 1 _ _ _ ah aa am Sah.out Saa.out Sam.out hzA.out hlen1.out).mono ?_
                                    rintro e W4 ⟨rfl, lva, hT4⟩
                                    have hB4 := hT4.fk.heap hB3H.out kB
                                    have hTH4 := hid hT4
                                    clear hT3 hT4
                                    go_wp2_with (refine wpList_load_row rfl 58 (.tmp 29) rfl (W2.heap.size + 1) rfl 58 _ (0, 0) _ hB4 Try.underlying58 rfl Try.size58 ?_)
                                    refine (hTH4.out.part 2 _ _ _ bh ba bm Sbh.out Sba.out Sbm.out hzB.out hlen2.out).mono ?_
                                    rintro e W5 ⟨rfl, lvb, hT5⟩
                                    have hB5 := hT5.fk.heap hB3H.out kB
                                    have hTH5 := hid hT5.swap
                                    clear hT5 hTH4 hB4
                                    go_wp2_with (refine wpList_load_row rfl 58 (.tmp 29) rfl (W2.heap.size + 1) rfl 58 _ (0, 0) _ hB5 Try.underlying58 rfl Try.size58 ?_)
                                    refine (hTH5.out.part 2 _ _ _ bh ba bm Sbh.out Sba.out Sbm.out hzB.out hlen3.out).mono ?_
                                    rintro e W6 ⟨rfl, lvc, hT6⟩
                                    have hA6 := hT6.fk.heap hA3H.out kA
                                    have hTH6 := hid hT6
                                    clear hT6 hTH5 hB5
                                    go_wp2_with (refine wpList_load_row rfl 58 (.tmp 28) rfl W2.heap.size rfl 58 _ (0, 0) _ hA6 Try.underlying58 rfl Try.size58 ?_)
                                    refine (hTH6.out.part 1 _ _ _ ah aa am Sah.out Saa.out Sam.out hzA.out hlen4.out).mono ?_
                                    rintro e W7 ⟨rfl, lvd, hT7⟩
                                    have hTH7 := hid hT7.swap
                                    clear hT7 hTH6 hA6
                                    go_wp2_with fail
                                    refine (hTH7.out.name (by have := pre2_len hnm0.out ah aa am bh ba bm; omega) (pre2 hnm0.out hincH.out (by omega) ah aa am bh ba bm) hlen5.out).mono ?_
                                    rintro e W8 ⟨rfl, sa, hT8, pa, ia⟩
                                    have hTH8 := hid hT8.swap
                                    clear hT8 hTH7
                                    go_wp2_with fail
                                    refine (hTH8.out.name (by have := pre2_len hnm0.out bh ba bm ah aa am; omega) (pre2 hnm0.out hincH.out (by omega) bh ba bm ah aa am) hlen6.out).mono ?_
                                    rintro e W9 ⟨rfl, sb, hT9, pb, ib⟩
                                    obtain rfl : sa = sb := part_sorted hnd0.out ia ib pa pb
                                    obtain ⟨x1, y1, rfl⟩ := hT9.swap.shape
                                    obtain ⟨x2, y2, rfl⟩ := hT9.shape
                                    obtain ⟨ps1, l1, r1, c1⟩ := hT9.swap.read
                                    obtain ⟨ps2, l2, r2, c2⟩ := hT9.read
                                    have fEnd := hid (hFA.out W9 hT9.fk)
                                    have hsl : sa.length ≤ 1099511627776 := by rw [pa.length_eq]; exact hlen5.out
                                    clear hTH8 hT9 pa pb ia ib hlen1 hlen2 hlen3 hlen4 hlen5 hlen6 hnm0 hnd0 hincH hzA hzB Sah Saa Sam Sbh Sba Sbm hA3H hB3H kA kB
                                    have r1H := hid r1
                                    have r2H := hid r2
                                    have cH := hid (And.intro c1 c2)
                                    have lH := hid (And.intro l1 l2)
                                    clear c1 c2
                                    go_wp2_with fail
                                    refine (c22 W9 _ ps1 r1H.out (by rw [lH.out.1]; exact hsl)).mono ?_
                                    rintro e w' ⟨rfl, hw⟩
                                    obtain rfl : W9 = w' := hw.symm
                                    go_wp2_with fail
                                    refine (c22 W9 _ ps2 r2H.out (by rw [lH.out.2]; exact hsl)).mono ?_
                                    rintro e w' ⟨rfl, hw⟩
                                    obtain rfl : W9 = w' := hw.symm
                                    obtain ⟨t1, z1, e1, -, -, -, p1⟩ := r1
                                    obtain ⟨t2, z2, e2, -, -, -, p2⟩ := r2
                                    simp only [Value.slice.injEq] at e1 e2
                                    obtain ⟨rfl, -, rfl⟩ := e1
                                    obtain ⟨rfl, -, rfl⟩ := e2
                                    have pH := hid (And.intro p1 p2)
                                    clear p1 p2 r1H r2H l1 l2
                                    go_wp2
                                    go_loopw [32] (fun i wr => ∃ k : Nat, k ≤ sa.length ∧ i = .int .i64 k ∧ Qt W9 wr) (fun i _ => sa.length - (intOf i).toNat)
                                    case atStart => exact ⟨0, by omega, rfl, Qt.refl _⟩
                                    case round =>
                                      obtain ⟨k, hk, rfl, hq⟩ := hrel
                                      by_cases hlt : k < sa.length
                                      · obtain ⟨bq1, oq1, rfl, _, d1⟩ := pH.out.1 (by rw [lH.out.1]; omega)
                                        obtain ⟨bq2, oq2, rfl, _, d2⟩ := pH.out.2 (by rw [lH.out.2]; omega)
                                        obtain ⟨sx, hsx⟩ : ∃ s, sa[k]? = some s := ⟨_, List.getElem?_eq_getElem hlt⟩
                                        obtain ⟨j1, hj1⟩ : ∃ s, ps1[k]? = some s := ⟨_, List.getElem?_eq_getElem (by rw [lH.out.1]; exact hlt)⟩
                                        obtain ⟨j2, hj2⟩ : ∃ s, ps2[k]? = some s := ⟨_, List.getElem?_eq_getElem (by rw [lH.out.2]; exact hlt)⟩
                                        have q1 : wr.cell? ⟨bq1, oq1 + k, none⟩ = some (.pointer (some ⟨j1, 0, none⟩)) := (hq.cell _).trans (cell_at d1 hj1)
                                        have q2 : wr.cell? ⟨bq2, oq2 + k, none⟩ = some (.pointer (some ⟨j2, 0, none⟩)) := (hq.cell _).trans (cell_at d2 hj2)
                                        have hh1 := cH.out.1 k j1 sx hj1 hsx
                                        have hh2 := cH.out.2 k j2 sx hj2 hsx
                                        have s10 : wr.cell? ⟨j1, 0, none⟩ = some (.string sx.name) := (hq.cell _).trans (by rw [cell_of_row W9 _ _ _ _ _ hh1]; rfl)
                                        have s11 : wr.cell? ⟨j1, 1, none⟩ = some (.int .i64 sx.cr) := (hq.cell _).trans (by rw [cell_of_row W9 _ _ _ _ _ hh1]; rfl)
                                        have s12 : wr.cell? ⟨j1, 2, none⟩ = some (.int .i64 sx.acts) := (hq.cell _).trans (by rw [cell_of_row W9 _ _ _ _ _ hh1]; rfl)
                                        have s13 : wr.cell? ⟨j1, 3, none⟩ = some (.bool sx.ex) := (hq.cell _).trans (by rw [cell_of_row W9 _ _ _ _ _ hh1]; rfl)
                                        have s14 : wr.cell? ⟨j1, 4, none⟩ = some (.bool sx.bn) := (hq.cell _).trans (by rw [cell_of_row W9 _ _ _ _ _ hh1]; rfl)
                                        have s20 : wr.cell? ⟨j2, 0, none⟩ = some (.string sx.name) := (hq.cell _).trans (by rw [cell_of_row W9 _ _ _ _ _ hh2]; rfl)
                                        have s21 : wr.cell? ⟨j2, 1, none⟩ = some (.int .i64 sx.cr) := (hq.cell _).trans (by rw [cell_of_row W9 _ _ _ _ _ hh2]; rfl)
                                        have s22 : wr.cell? ⟨j2, 2, none⟩ = some (.int .i64 sx.acts) := (hq.cell _).trans (by rw [cell_of_row W9 _ _ _ _ _ hh2]; rfl)
                                        have s23 : wr.cell? ⟨j2, 3, none⟩ = some (.bool sx.ex) := (hq.cell _).trans (by rw [cell_of_row W9 _ _ _ _ _ hh2]; rfl)
                                        have s24 : wr.cell? ⟨j2, 4, none⟩ = some (.bool sx.bn) := (hq.cell _).trans (by rw [cell_of_row W9 _ _ _ _ _ hh2]; rfl)
                                        have hqH := hid hq
                                        clear d1 d2 hsx hj1 hj2 hh1 hh2 hq pH
                                        go_wp2
                                        go_quiet (fail)
                                        go_wp2
                                        go_roundw
                                        case rel => exact ⟨k + 1, by omega, by go_num, hqH.out.trans (Qt.drewN _ _)⟩
                                        case measure => simp [intOf]; omega
                                      · go_wp2
                                        go_ret
                                        exact ⟨rfl, fEnd.out.tr hq.fr⟩

end Go.Proofs.Qxb6601232a
