/-
  SEAT b6601265a. THE WALK OF FnQueueDownRestoresHeapOrder. By an AI agent.
-/
import Derived.Test.Qxb6601265aDown
import Derived.Test.Qxb6601265aCopy
namespace Go.Proofs.Qxb6601265a
open Go.RowKit
set_option linter.unusedVariables false
set_option linter.unusedSimpArgs false

/-- true comes back; whatever lay there lies there as it did. -/
def RetTrueF (w : World) (e : Ending) (w' : World) : Prop := e = .returned (.bool true) ∧ Fr All w w'
theorem dom_of {H : List Int} {m pn : Nat} (h : DomZ H m pn) : Dom H m pn := fun x hx => ⟨x.toNat, by have := h x hx; omega, by have := h x hx; omega, by have := h x hx; omega⟩
theorem c7A (w : World) (ab ao m c : Nat) (A : List Nat) (va vb : Nat) (hm : m = A.length) (ha : va < A.length) (hb : vb < A.length) (hl : A.length ≤ 1048576) (h : ∀ j x, A[j]? = some x → w.cell? ⟨ab, ao + j, none⟩ = some (.float .f64 x)) :
    Calls Try.prog 7 #[.slice (some ⟨ab, ao, none⟩) m c, .int .i32 va, .int .i32 vb] w (RetBf w (bfA A va vb)) := by
  subst hm
  exact c7 w ab ao A.length c va vb _ _ ha hb hl (h va _ (by simp [List.getD, ha])) (h vb _ (by simp [List.getD, hb]))

set_option maxRecDepth 100000 in
set_option maxHeartbeats 8000000 in
theorem c3 (w : World) (hv pv av : Value) (H ps : List Int) (A : List Nat) (i : Int) (h1 : Rd All w hv H.length (H.map (Value.int .i32))) (h2 : Rd All w pv ps.length (ps.map (Value.int .i64))) (h3 : Rd All w av A.length (A.map (Value.float .f64))) (hr : ∀ x ∈ H, -2147483648 ≤ x ∧ x ≤ 2147483647) :
    Calls Try.prog 3 #[hv, pv, av, .int .i64 i] w (RetTrueF w) := by
  have g1 := hid h1
  have g2 := hid h2
  have g3 := hid h3
  obtain ⟨a1, k1, rfl, -, -, -, -⟩ := h1
  obtain ⟨a2, k2, rfl, -, -, -, -⟩ := h2
  obtain ⟨a3, k3, rfl, -, -, -, -⟩ := h3
  have hrH := hid hr
  clear hr
  have ret := hid (show RetTrueF w (.returned (.bool true)) w from ⟨rfl, Fr.refl _ _⟩)
  go_enter Try.func3, Try.ntmps3
  go_wp2_with fail
  refine (c5 w a1 a2 a3 H.length ps.length A.length k1 k2 k3 i).mono ?_
  rintro e w' ⟨b, rfl, hw⟩
  obtain rfl : w = w' := hw.symm
  cases b
  · go_wp2
    go_ret
    exact ret.out
  · skip
    by_cases l0 : 65536 < H.length
    · go_wp2
      go_ret
      exact ret.out
    · skip
      by_cases l1 : 32768 < ps.length
      · go_wp2
        go_ret
        exact ret.out
      · skip
        by_cases l2 : 32768 < A.length
        · go_wp2
          go_ret
          exact ret.out
        · skip
          by_cases l3 : i < 0
          · go_wp2
            go_ret
            exact ret.out
          · skip
            by_cases l4 : (H.length : Int) ≤ i
            · go_wp2
              go_ret
              exact ret.out
            · skip
              obtain ⟨i, rfl⟩ : ∃ j : Nat, i = j := ⟨i.toNat, by omega⟩
              go_wp2_with fail
              refine (c6 (T := All) w _ H a2 a3 ps.length A.length k2 k3 g1.out (by omega) hrH.out).mono ?_
              rintro e w' ⟨b, rfl, hw, hdom⟩
              obtain rfl : w = w' := hw.symm
              cases b
              · go_wp2
                go_ret
                exact ret.out
              · skip
                have hDom := hid (dom_of (hdom rfl))
                clear hdom
                have hH0 : 0 < H.length := by omega
                obtain ⟨hb1, ho1, rfl, -, dH⟩ : ∃ b off, a1 = some ⟨b, off, none⟩ ∧ True ∧ ∀ j x, H[j]? = some x → w.cell? ⟨b, off + j, none⟩ = some (.int .i32 x) := by
                  obtain ⟨ao, c, e, _, _, _, hp⟩ := g1.out
                  simp only [Value.slice.injEq] at e
                  obtain ⟨rfl, -, -⟩ := e
                  obtain ⟨b, off, rfl, _, hc⟩ := hp hH0
                  exact ⟨b, off, rfl, trivial, fun j x hj => cell_at hc hj⟩
                obtain ⟨v0, hv0, hv0A, hv0p⟩ : ∃ v : Nat, True ∧ v < A.length ∧ v < ps.length := by
                  obtain ⟨v, _, h1, h2⟩ := hDom.out H[0] (List.getElem_mem _)
                  exact ⟨v, trivial, h1, h2⟩
                obtain ⟨ab, ao, rfl, -, dA⟩ : ∃ b off, a3 = some ⟨b, off, none⟩ ∧ True ∧ ∀ j x, A[j]? = some x → w.cell? ⟨b, off + j, none⟩ = some (.float .f64 x) := by
                  obtain ⟨ao, c, e, _, _, _, hp⟩ := g3.out
                  simp only [Value.slice.injEq] at e
                  obtain ⟨rfl, -, -⟩ := e
                  obtain ⟨b, off, rfl, _, hc⟩ := hp (by omega)
                  exact ⟨b, off, rfl, trivial, fun j x hj => cell_at hc hj⟩
                have dHH := hid dH
                have dAH := hid dA
                clear dH dA
                go_wp2
                go_loopw [9, 10] (fun kv _ wr => ∃ k : Nat, k ≤ H.length ∧ kv = .int .i64 k ∧ w = wr) (fun kv _ _ => H.length - (intOf kv).toNat)
                case atStart => exact ⟨0, by omega, rfl, rfl⟩
                case round =>
                  obtain ⟨k, hk, rfl, rfl⟩ := hrel
                  by_cases hlt : k < H.length
                  · obtain ⟨x, hx⟩ : ∃ x, H[k]? = some x := ⟨_, List.getElem?_eq_getElem hlt⟩
                    obtain ⟨v, rfl, hvA, hvp⟩ := hDom.out x (List.mem_of_getElem? hx)
                    have q1 := dHH.out k _ hx
                    have q2 := dAH.out v _ (List.getElem?_eq_getElem hvA)
                    generalize A[v] = fx at q2
                    clear hx
                    cases hnan : (FloatKind.f64.format.order fx fx != some .eq)
                    · go_wp2
                      go_roundw
                      case rel => exact ⟨k + 1, by omega, by go_num, trivial⟩
                      case measure => simp [intOf]; omega
                    · go_wp2
                      go_ret
                      exact ret.out
                  · go_wp2
                    clear hlt hk
                    go_loopw [11, 12] (fun kv _ wr => ∃ k : Nat, 1 ≤ k ∧ (k ≤ H.length ∨ k = 1) ∧ kv = .int .i64 k ∧ Qt w wr ∧ ∀ j x y, 1 ≤ j → j < k → (j - 1) / 2 ≠ i → H[j]? = some x → H[(j - 1) / 2]? = some y → bfA A x y = false) (fun kv _ _ => H.length - (intOf kv).toNat)
                    case atStart => exact ⟨1, by omega, Or.inr rfl, rfl, Qt.refl _, fun j x y h1 h2 => by omega⟩
                    case round =>
                      obtain ⟨k, hk1, hk, rfl, hq, hpr⟩ := hrel
                      by_cases hlt : k < H.length
                      · obtain ⟨k', rfl⟩ : ∃ k', k = k' + 1 := ⟨k - 1, by omega⟩
                        obtain ⟨p, hp⟩ : ∃ p : Nat, p = k' / 2 := ⟨_, rfl⟩
                        have ep : (k' : Int) / 2 = (p : Int) := by omega
                        have hpH := hid hp
                        have hpl : p < H.length := by omega
                        clear hp
                        by_cases hpi : p = i
                        · have hd : ((p : Int) != (i : Int)) = false := by simp [hpi]
                          have hKH := hid (And.intro hq hpr)
                          have hpiH := hid hpi
                          clear hq hpr hpi
                          go_wp2
                          go_quiet (fail)
                          go_wp2
                          go_roundw
                          case rel =>
                            obtain ⟨hq, hpr⟩ := hKH.out
                            refine ⟨k' + 1 + 1, by omega, by omega, by go_num, hq.trans (Qt.drewN _ _), fun j x y h1 h2 h3 hx hy => ?_⟩
                            by_cases hj : j < k' + 1
                            · exact hpr j x y h1 hj h3 hx hy
                            · have e1 : p = k' / 2 := hpH.out
                              have e2 : p = i := hpiH.out
                              obtain rfl : j = k' + 1 := by omega
                              omega
                          case measure => simp [intOf]; omega
                        · have hd : ((p : Int) != (i : Int)) = true := by simp; omega
                          obtain ⟨x, hx⟩ : ∃ x, H[k' + 1]? = some x := ⟨_, List.getElem?_eq_getElem hlt⟩
                          obtain ⟨y, hy⟩ : ∃ x, H[p]? = some x := ⟨_, List.getElem?_eq_getElem hpl⟩
                          obtain ⟨vx, rfl, hvx, _⟩ := hDom.out x (List.mem_of_getElem? hx)
                          obtain ⟨vy, rfl, hvy, _⟩ := hDom.out y (List.mem_of_getElem? hy)
                          have q1 := (hq.cell _).trans (dHH.out _ _ hx)
                          have q2 := (hq.cell _).trans (dHH.out _ _ hy)
                          have hc7 := fun n => c7A (wr.drewN n) ab ao A.length k3 A vx vy rfl hvx hvy (by omega) (fun j x hj => (hq.cell _).trans (dAH.out j x hj))
                          have hKH := hid (And.intro hq (And.intro hpr (And.intro hx hy)))
                          clear hq hpr hx hy
                          cases hb' : bfA A vx vy
                          · rw [hb'] at hc7
                            have hbH := hid hb'
                            clear hb'
                            go_wp2
                            go_quiet ((go_at_call 7; exact quiet_of_qt (hc7 _)))
                            go_wp2
                            go_roundw
                            case rel =>
                              obtain ⟨hq, hpr, hx, hy⟩ := hKH.out
                              refine ⟨k' + 1 + 1, by omega, by omega, by go_num, hq.trans (Qt.drewN _ _), fun j x y h1 h2 h3 hx' hy' => ?_⟩
                              by_cases hj : j < k' + 1
                              · exact hpr j x y h1 hj h3 hx' hy'
                              · have e1 : p = k' / 2 := hpH.out
                                obtain rfl : j = k' + 1 := by omega
                                rw [hx] at hx'
                                rw [show (k' + 1 - 1) / 2 = p from by omega, hy] at hy'
                                cases hx'; cases hy'; exact hbH.out
                            case measure => simp [intOf]; omega
                          · rw [hb'] at hc7
                            clear hb'
                            go_wp2
                            go_quiet ((go_at_call 7; exact quiet_of_qt (hc7 _)))
                            go_wp2
                            go_ret
                            exact ⟨rfl, hKH.out.1.fr.tr (Fr.drewN _ _ _)⟩
                      · have hPa : Pairs (bfA A) H i := fun j x y h1 h2 hx hy => hpr j x y h1 (by have := (List.getElem?_eq_some_iff.1 hx).1; omega) h2 hx hy
                        have hPH := hid hPa
                        obtain ⟨w2, hw2⟩ : ∃ w2 : World, w2 = wr := ⟨_, rfl⟩
                        subst hw2
                        have hqH := hid hq
                        go_upto_if 87 with fail
                        clear hPa hpr hq hk hk1 hlt
                        go_cut [] (fun wx => Qt w wx ∧ Upp (bfA A) H i)
                        case first =>
                          by_cases hi0 : 0 < i
                          · obtain ⟨u, hu⟩ : ∃ u : Nat, u = (i - 1) / 2 := ⟨_, rfl⟩
                            obtain ⟨c1, hc1⟩ : ∃ c : Nat, c = 2 * i + 1 := ⟨_, rfl⟩
                            obtain ⟨c2, hc2⟩ : ∃ c : Nat, c = 2 * i + 2 := ⟨_, rfl⟩
                            have eu : ((i : Int) - 1) / 2 = (u : Int) := by omega
                            have e1 : 2 * (i : Int) + 1 = (c1 : Int) := by omega
                            have e2 : 2 * (i : Int) + 2 = (c2 : Int) := by omega
                            have hul : u < H.length := by omega
                            have hcc : c2 = c1 + 1 := by omega
                            have hb1 : c2 ≤ 200000 := by omega
                            have huH := hid (And.intro hu (And.intro hc1 hc2))
                            have hccH := hid hcc
                            clear hu hc1 hc2 hcc
                            go_wp2
                            rw [eu]
                            go_loopw [14] (fun cv wr => ∃ c : Nat, c1 ≤ c ∧ c ≤ c2 + 1 ∧ cv = .int .i64 c ∧ Qt w wr ∧ ∀ d x y, c1 ≤ d → d < c → H[d]? = some x → H[u]? = some y → bfA A x y = false) (fun cv _ => c2 + 1 - (intOf cv).toNat)
                            case atStart => exact ⟨c1, Nat.le_refl _, by have : c2 = c1 + 1 := hccH.out; omega, rfl, hqH.out, fun d x y h1 h2 => by omega⟩
                            case round =>
                              obtain ⟨c, hcl, hcu, rfl, hq, hpr⟩ := hrel
                              by_cases hcc : c ≤ c2
                              · by_cases hcn : c < H.length
                                · obtain ⟨x, hx⟩ : ∃ x, H[c]? = some x := ⟨_, List.getElem?_eq_getElem hcn⟩
                                  obtain ⟨y, hy⟩ : ∃ x, H[u]? = some x := ⟨_, List.getElem?_eq_getElem hul⟩
                                  obtain ⟨vx, rfl, hvx, _⟩ := hDom.out x (List.mem_of_getElem? hx)
                                  obtain ⟨vy, rfl, hvy, _⟩ := hDom.out y (List.mem_of_getElem? hy)
                                  have q1 := (hq.cell _).trans (dHH.out _ _ hx)
                                  have q2 := (hq.cell _).trans (dHH.out _ _ hy)
                                  have hc7 := fun n => c7A (wr.drewN n) ab ao A.length k3 A vx vy rfl hvx hvy (by omega) (fun j x hj => (hq.cell _).trans (dAH.out j x hj))
                                  have hKH := hid (And.intro hq (And.intro hpr (And.intro hx hy)))
                                  clear hq hpr hx hy
                                  cases hb' : bfA A vx vy
                                  · rw [hb'] at hc7
                                    have hbH := hid hb'
                                    clear hb'
                                    go_wp2
                                    go_quiet ((go_at_call 7; exact quiet_of_qt (hc7 _)))
                                    go_wp2
                                    go_roundw
                                    case rel =>
                                      obtain ⟨hq, hpr, hx, hy⟩ := hKH.out
                                      refine ⟨c + 1, by omega, by omega, by go_num, hq.trans (Qt.drewN _ _), fun d x y h1 h2 hx' hy' => ?_⟩
                                      by_cases hdc : d < c
                                      · exact hpr d x y h1 hdc hx' hy'
                                      · obtain rfl : d = c := by omega
                                        rw [hx] at hx'
                                        rw [hy] at hy'
                                        cases hx'; cases hy'; exact hbH.out
                                    case measure => simp [intOf]; omega
                                  · rw [hb'] at hc7
                                    clear hb'
                                    go_wp2
                                    go_quiet ((go_at_call 7; exact quiet_of_qt (hc7 _)))
                                    go_wp2
                                    go_ret
                                    exact ⟨rfl, hKH.out.1.fr.tr (Fr.drewN _ _ _)⟩
                                · have hKH := hid (And.intro hq hpr)
                                  clear hq hpr
                                  go_wp2
                                  go_meet
                                  obtain ⟨hq, hpr⟩ := hKH.out
                                  obtain ⟨s1, s2, s3⟩ := huH.out
                                  refine ⟨hq, fun _ d x y hd hx hy => hpr d x y (by omega) ?_ hx (by rw [s1]; exact hy)⟩
                                  have := (List.getElem?_eq_some_iff.1 hx).1
                                  omega
                              · have hKH := hid (And.intro hq hpr)
                                clear hq hpr
                                go_wp2
                                go_meet
                                obtain ⟨hq, hpr⟩ := hKH.out
                                obtain ⟨s1, s2, s3⟩ := huH.out
                                exact ⟨hq, fun _ d x y hd hx hy => hpr d x y (by omega) (by omega) hx (by rw [s1]; exact hy)⟩
                          · go_wp2
                            go_meet
                            exact ⟨hqH.out, fun h => absurd h hi0⟩
                        case rest =>
                          obtain ⟨hq, hUp⟩ := hcut
                          have fq : Fr All w wc := hq.fr
                          have hUH := hid hUp
                          clear hq hUp hqH
                          go_wp2_with fail
                          refine (c8 (T := All) wc _ H (Rd.fr g1.out fq) (by omega)).mono ?_
                          rintro e u1 ⟨v1, rfl, f1, o1⟩
                          obtain ⟨ba1, m1, q1, rfl⟩ := own_shape o1
                          obtain rfl := own_len o1
                          have F1 := fq.tr f1
                          go_wp2_with fail
                          refine (c9 (T := All) u1 _ ps (Rd.fr g2.out F1) (by omega)).mono ?_
                          rintro e u2 ⟨v2, rfl, f2, o2⟩
                          obtain ⟨ba2, m2, q2, rfl⟩ := own_shape o2
                          obtain rfl := own_len o2
                          have F2 := F1.tr f2
                          go_wp2_with fail
                          refine (c10 (T := All) u2 _ A (Rd.fr g3.out F2) (by omega)).mono ?_
                          rintro e u3 ⟨v3, rfl, f3, o3⟩
                          obtain ⟨ba3, m3, q3, rfl⟩ := own_shape o3
                          obtain rfl := own_len o3
                          have F3 := F2.tr f3
                          go_wp2_with fail
                          refine (c11 (T := All) u3 _ H (Rd.fr (Rd.own (T := All) o1 (fun _ _ _ => trivial)) (f2.tr f3)) (by omega)).mono ?_
                          rintro e u4 ⟨v4, rfl, f4, o4⟩
                          obtain ⟨ba4, m4, q4, rfl⟩ := own_shape o4
                          obtain rfl := own_len o4
                          have F4 := F3.tr f4
                          go_wp2_with fail
                          refine (c9 (T := All) u4 _ ps (Rd.fr (Rd.own (T := All) o2 (fun _ _ _ => trivial)) (f3.tr f4)) (by omega)).mono ?_
                          rintro e u5 ⟨v5, rfl, f5, o5⟩
                          obtain ⟨ba5, m5, q5, rfl⟩ := own_shape o5
                          obtain rfl := own_len o5
                          have F5 := F4.tr f5
                          rcases o3.2 with ⟨e3, e3'⟩ | ⟨gA, cpA, crA, e3, lA, hgA, hnA, hmA, hsA, htA⟩
                          · exfalso; omega
                          simp only [Value.slice.injEq, true_and] at e3
                          obtain ⟨rfl, rfl⟩ := e3
                          rcases o4.2 with ⟨e4, e4'⟩ | ⟨gH, cpH, crH, e4, lH, hgH, hnH, hmH, hsH, htH⟩
                          · exfalso; omega
                          simp only [Value.slice.injEq, true_and] at e4
                          obtain ⟨rfl, rfl⟩ := e4
                          rcases o5.2 with ⟨e5, e5'⟩ | ⟨gP, cpP, crP, e5, lP, hgP, hnP, hmP, hsP, htP⟩
                          · exfalso; omega
                          simp only [Value.slice.injEq, true_and] at e5
                          obtain ⟨rfl, rfl⟩ := e5
                          have hcurH : ∀ (j : Nat) (x : Int), H[j]? = some x → crH[j]? = some (Value.int .i32 x) := by
                            intro j x hj
                            have hjl := (List.getElem?_eq_some_iff.1 hj).1
                            rw [← Array.getElem?_toList, ← List.getElem?_take_of_lt (show j < H.length * 1 by omega), htH]
                            simp [hj]
                          have lt1 := heap_lt hgA
                          have lt2 := heap_lt hgH
                          have hAct : Act u5 gH gP gA 0 A := by
                            refine ⟨by omega, by have := f4.size; omega, fun j x hj => ?_⟩
                            have hjl := (List.getElem?_eq_some_iff.1 hj).1
                            rw [Nat.zero_add]
                            refine (f4.tr f5).cellSome ?_ trivial
                            rw [cell_of_row u3 gA _ _ _ _ hgA, ← Array.getElem?_toList, ← List.getElem?_take_of_lt (show j < A.length * 1 by omega), htA]
                            simp [hj]
                          have hc12 := c12 u5 gH H.length q4 gP ps.length q5 gA 0 q3 i A H (by omega) (by omega) (by omega) (by omega) rfl ⟨crH, f5.heap hgH trivial, by omega, hcurH⟩ ⟨crP, hgP, by omega⟩ hAct hDom.out hPH.out hUH.out
                          have hActH := hid hAct
                          have F5H := hid (And.intro F5 (show w.heap.size ≤ gH ∧ w.heap.size ≤ gP from ⟨by have := F3.size; omega, by have := F4.size; omega⟩))
                          clear o1 o2 o3 o4 o5 f1 f2 f3 f4 f5 F1 F2 F3 F4 F5 fq hgA hgH hgP hcurH hAct hsA hsH hsP htA htH htP hnA hnH hnP hmA hmH hmP lA lH lP g1 g2 g3 dHH dAH lt1 lt2 hrH ret hDom hPH hUH
                          go_wp2_with (go_at_call 12; refine hc12.mono ?_; rintro e u6 ⟨rfl, H', hl', hWh, hDom', ⟨cr, hcr, hcc⟩, hF6⟩; have hZH := hid (And.intro hWh (And.intro hDom' (And.intro hcr (And.intro hcc (And.intro hF6 hl'))))); clear hWh hDom' hcr hcc hF6 hl' hc12)
                          go_loopw [17] (fun kv wr => ∃ k : Nat, 1 ≤ k ∧ (k ≤ H.length ∨ k = 1) ∧ kv = .int .i64 k ∧ Qt u6 wr) (fun kv _ => H.length - (intOf kv).toNat)
                          case atStart => exact ⟨1, by omega, Or.inr rfl, rfl, Qt.refl _⟩
                          case round =>
                            obtain ⟨k, hk1, hk, rfl, hq⟩ := hrel
                            obtain ⟨hWh, hDom', hcr, hcc, hF6, hl'⟩ := hZH.out
                            by_cases hlt : k < H.length
                            · obtain ⟨k', rfl⟩ : ∃ k', k = k' + 1 := ⟨k - 1, by omega⟩
                              obtain ⟨p, hp⟩ : ∃ p : Nat, p = k' / 2 := ⟨_, rfl⟩
                              have ep : (k' : Int) / 2 = (p : Int) := by omega
                              have hpl : p < H.length := by omega
                              obtain ⟨x, hx⟩ : ∃ x, H'[k' + 1]? = some x := ⟨_, List.getElem?_eq_getElem (by omega)⟩
                              obtain ⟨y, hy⟩ : ∃ x, H'[p]? = some x := ⟨_, List.getElem?_eq_getElem (by omega)⟩
                              have hbf : bfA A x y = false := hWh (k' + 1) x y (by omega) hx (by rw [show (k' + 1 - 1) / 2 = p from by omega]; exact hy)
                              obtain ⟨vx, rfl, hvx, _⟩ := hDom' x (List.mem_of_getElem? hx)
                              obtain ⟨vy, rfl, hvy, _⟩ := hDom' y (List.mem_of_getElem? hy)
                              have q1 : wr.cell? ⟨gH, k' + 1, none⟩ = some (.int .i32 vx) := (hq.cell _).trans (by rw [cell_of_row u6 gH _ _ _ _ hcr]; exact hcc _ _ hx)
                              have q2 : wr.cell? ⟨gH, p, none⟩ = some (.int .i32 vy) := (hq.cell _).trans (by rw [cell_of_row u6 gH _ _ _ _ hcr]; exact hcc _ _ hy)
                              have hc7 := fun n => c7A (wr.drewN n) gA 0 A.length q3 A vx vy rfl hvx hvy (by omega) (fun j x hj => (hq.cell _).trans ((hActH.out.fr hF6).2.2 j x hj))
                              rw [hbf] at hc7
                              have hqH := hid hq
                              clear hq hx hy hp hbf hWh hDom' hcr hcc hF6 hl'
                              go_wp2
                              go_quiet ((go_at_call 7; exact quiet_of_qt (hc7 _)))
                              go_wp2
                              go_roundw
                              case rel => exact ⟨k' + 1 + 1, by omega, by omega, by go_num, hqH.out.trans (Qt.drewN _ _)⟩
                              case measure => simp [intOf]; omega
                            · go_wp2
                              go_ret
                              obtain ⟨F5, hgs⟩ := F5H.out
                              exact ⟨rfl, (F5.trans hF6 fun b hb _ => ⟨trivial, by omega, by omega⟩).tr hq.fr⟩

end Go.Proofs.Qxb6601265a
