/-
  SEAT b6601232a. THE WALK OF zzBytes_FnLedgerInvariantsKeptByEveryStep. By an AI agent.
-/
import Derived.Test.Qxb6601232aNest
namespace Go.Proofs.Qxb6601232a
open Go.RowKit
set_option linter.unusedVariables false
set_option linter.unusedSimpArgs false

def RetBool (w : World) (e : Ending) (w' : World) : Prop := ∃ b : Bool, e = .returned (.bool b) ∧ w' = w

set_option maxRecDepth 100000 in
set_option maxHeartbeats 8000000 in
/-- zzBytes, number 42. -/
theorem c42 {T : Nat → Prop} (w : World) (nsv : Value) (ns : List ByteArray) (hns : Strs T w nsv ns) (a1 : Option Addr) (n1 c1 : Nat) (a2 : Option Addr) (n2 c2 : Nat) (a3 : Option Addr) (n3 c3 : Nat) (a4 : Option Addr) (n4 c4 : Nat) (srt : Int) (a5 : Option Addr) (n5 c5 : Nat) (a6 : Option Addr) (n6 c6 : Nat) (hov : Value) (ho : List (List ByteArray)) (hho : Nest Value.string T w hov ho) (abv : Value) (ab : List (List ByteArray)) (hab : Nest Value.string T w abv ab) (mav : Value) (ma : List (List ByteArray)) (hma : Nest Value.string T w mav ma) :
    Calls Try.prog 42 #[nsv, .slice a1 n1 c1, .slice a2 n2 c2, .slice a3 n3 c3, .slice a4 n4 c4, .int .i64 srt, .slice a5 n5 c5, .slice a6 n6 c6, hov, abv, mav] w (RetBool w) := by
  obtain ⟨ans, cns, rfl, -, -, -, hpns⟩ := hns
  have hpns := hid hpns
  obtain ⟨vsho, ⟨aho, cho, rfl, -, -, -, hpho⟩, hlho, hiho⟩ := hho
  have hpho := hid (And.intro hpho (And.intro hlho hiho))
  clear hlho hiho
  obtain ⟨vsab, ⟨aab, cab, rfl, -, -, -, hpab⟩, hlab, hiab⟩ := hab
  have hpab := hid (And.intro hpab (And.intro hlab hiab))
  clear hlab hiab
  obtain ⟨vsma, ⟨ama, cma, rfl, -, -, -, hpma⟩, hlma, hima⟩ := hma
  have hpma := hid (And.intro hpma (And.intro hlma hima))
  clear hlma hima
  go_enter Try.func42, Try.ntmps42
  by_cases h0a : 1048576 < ns.length
  · go_wp2
    go_ret
    exact ⟨_, rfl, rfl⟩
  · skip
    by_cases h0b : (1048576 : Int) < 0 + ns.length
    · exfalso; omega
    · skip
      go_wp2
      go_loopw [23, 24] (fun t i wr => ∃ (k : Nat) (r : Int), k ≤ ns.length ∧ i = .int .i64 k ∧ t = .int .i64 r ∧ 0 ≤ r ∧ r ≤ 1048576 ∧ w = wr) (fun _ i _ => ns.length - (intOf i).toNat)
      case atStart => exact ⟨0, 0 + ns.length, by omega, rfl, by go_num, by omega, by omega, rfl⟩
      case round =>
        obtain ⟨k0, r0, hk, rfl, rfl, hr0, hr1, rfl⟩ := hrel
        by_cases hlt : k0 < ns.length
        · skip
          obtain ⟨b, off, rfl, hT, hcell⟩ := hpns.out (by omega)
          obtain ⟨x, hx⟩ : ∃ x, ns[k0]? = some x := ⟨ns[k0], by simp [hlt]⟩
          have q0 := cell_at hcell hx
          clear hcell hx hpns
          by_cases hxs : 1048576 < x.size
          · go_wp2
            go_ret
            exact ⟨_, rfl, rfl⟩
          · skip
            by_cases hss : (1048576 : Int) < r0 + x.size
            · go_wp2
              go_ret
              exact ⟨_, rfl, rfl⟩
            · skip
              go_wp2
              go_roundw
              case rel => exact ⟨k0 + 1, r0 + x.size, by omega, by go_num, by go_num, by omega, by omega, trivial⟩
              case measure => simp [intOf]; omega
        · skip
          by_cases h1a : 1048576 < n1
          · go_wp2
            go_ret
            exact ⟨_, rfl, rfl⟩
          · skip
            by_cases h1b : (1048576 : Int) < r0 + n1
            · go_wp2
              go_ret
              exact ⟨_, rfl, rfl⟩
            · skip
              by_cases h2a : 1048576 < n2
              · go_wp2
                go_ret
                exact ⟨_, rfl, rfl⟩
              · skip
                by_cases h2b : (1048576 : Int) < (r0 + n1) + n2
                · go_wp2
                  go_ret
                  exact ⟨_, rfl, rfl⟩
                · skip
                  by_cases h3a : 1048576 < n3
                  · go_wp2
                    go_ret
                    exact ⟨_, rfl, rfl⟩
                  · skip
                    by_cases h3b : (1048576 : Int) < ((r0 + n1) + n2) + n3
                    · go_wp2
                      go_ret
                      exact ⟨_, rfl, rfl⟩
                    · skip
                      by_cases h4a : 1048576 < n4
                      · go_wp2
                        go_ret
                        exact ⟨_, rfl, rfl⟩
                      · skip
                        by_cases h4b : (1048576 : Int) < (((r0 + n1) + n2) + n3) + n4
                        · go_wp2
                          go_ret
                          exact ⟨_, rfl, rfl⟩
                        · skip
                          by_cases h6a : 1048576 < n5
                          · go_wp2
                            go_ret
                            exact ⟨_, rfl, rfl⟩
                          · skip
                            by_cases h6b : (1048576 : Int) < ((((r0 + n1) + n2) + n3) + n4) + n5
                            · go_wp2
                              go_ret
                              exact ⟨_, rfl, rfl⟩
                            · skip
                              by_cases h7a : 1048576 < n6
                              · go_wp2
                                go_ret
                                exact ⟨_, rfl, rfl⟩
                              · skip
                                by_cases h7b : (1048576 : Int) < (((((r0 + n1) + n2) + n3) + n4) + n5) + n6
                                · go_wp2
                                  go_ret
                                  exact ⟨_, rfl, rfl⟩
                                · skip
                                  by_cases h8a : 1048576 < ho.length
                                  · go_wp2
                                    go_ret
                                    exact ⟨_, rfl, rfl⟩
                                  · skip
                                    by_cases h8b : (1048576 : Int) < ((((((r0 + n1) + n2) + n3) + n4) + n5) + n6) + ho.length
                                    · go_wp2
                                      go_ret
                                      exact ⟨_, rfl, rfl⟩
                                    · skip
                                      go_wp2
                                      go_loopw [23, 25] (fun t i wr => ∃ (k : Nat) (r : Int), k ≤ ho.length ∧ i = .int .i64 k ∧ t = .int .i64 r ∧ 0 ≤ r ∧ r ≤ 1048576 ∧ w = wr) (fun _ i _ => ho.length - (intOf i).toNat)
                                      case atStart => exact ⟨0, ((((((r0 + n1) + n2) + n3) + n4) + n5) + n6) + ho.length, by omega, rfl, by go_num, by omega, by omega, rfl⟩
                                      case round =>
                                        obtain ⟨k8, r8, hk, rfl, rfl, hr0, hr1, rfl⟩ := hrel
                                        by_cases hlt : k8 < ho.length
                                        · skip
                                          obtain ⟨hp, hl, hi⟩ := hpho.out
                                          obtain ⟨b, off, rfl, hT, hcell⟩ := hp (by omega)
                                          obtain ⟨xs, hx⟩ : ∃ x, ho[k8]? = some x := ⟨ho[k8], by simp [hlt]⟩
                                          obtain ⟨u, hu⟩ : ∃ x, vsho[k8]? = some x := ⟨vsho[k8]'(by omega), by simp⟩
                                          have q0 := hcell k8 u hu
                                          obtain ⟨ua, uc, rfl, -, -, -, hup⟩ := hi k8 u xs hu hx
                                          have hupH := hid hup
                                          clear hp hl hi hcell hx hu hup
                                          by_cases hxs : 1048576 < xs.length
                                          · go_wp2
                                            go_ret
                                            exact ⟨_, rfl, rfl⟩
                                          · skip
                                            by_cases hss : (1048576 : Int) < r8 + xs.length
                                            · go_wp2
                                              go_ret
                                              exact ⟨_, rfl, rfl⟩
                                            · skip
                                              go_wp2
                                              go_loopw [23, 26] (fun t i wr => ∃ (k : Nat) (r : Int), k ≤ xs.length ∧ i = .int .i64 k ∧ t = .int .i64 r ∧ 0 ≤ r ∧ r ≤ 1048576 ∧ w = wr) (fun _ i _ => xs.length - (intOf i).toNat)
                                              case atStart => exact ⟨0, r8 + xs.length, by omega, rfl, by go_num, by omega, by omega, rfl⟩
                                              case round =>
                                                obtain ⟨kk, rr, hkk, rfl, rfl, hrr0, hrr1, rfl⟩ := hrel
                                                by_cases hlt2 : kk < xs.length
                                                · skip
                                                  obtain ⟨b2, off2, rfl, hT2, hcell2⟩ := hupH.out (by omega)
                                                  obtain ⟨x, hx⟩ : ∃ x, xs[kk]? = some x := ⟨xs[kk], by simp [hlt2]⟩
                                                  have q1 := cell_at hcell2 hx
                                                  clear hcell2 hx hupH
                                                  by_cases hxs2 : 1048576 < x.size
                                                  · go_wp2
                                                    go_ret
                                                    exact ⟨_, rfl, rfl⟩
                                                  · skip
                                                    by_cases hss2 : (1048576 : Int) < rr + x.size
                                                    · go_wp2
                                                      go_ret
                                                      exact ⟨_, rfl, rfl⟩
                                                    · skip
                                                      go_wp2
                                                      go_roundw
                                                      case rel => exact ⟨kk + 1, rr + x.size, by omega, by go_num, by go_num, by omega, by omega, trivial⟩
                                                      case measure => simp [intOf]; omega
                                                · skip
                                                  go_wp2
                                                  go_roundw
                                                  case rel => exact ⟨k8 + 1, rr, by omega, by go_num, rfl, hrr0, hrr1, trivial⟩
                                                  case measure => simp [intOf]; omega
                                        · skip
                                          by_cases h9a : 1048576 < ab.length
                                          · go_wp2
                                            go_ret
                                            exact ⟨_, rfl, rfl⟩
                                          · skip
                                            by_cases h9b : (1048576 : Int) < r8 + ab.length
                                            · go_wp2
                                              go_ret
                                              exact ⟨_, rfl, rfl⟩
                                            · skip
                                              go_wp2
                                              go_loopw [23, 27] (fun t i wr => ∃ (k : Nat) (r : Int), k ≤ ab.length ∧ i = .int .i64 k ∧ t = .int .i64 r ∧ 0 ≤ r ∧ r ≤ 1048576 ∧ w = wr) (fun _ i _ => ab.length - (intOf i).toNat)
                                              case atStart => exact ⟨0, r8 + ab.length, by omega, rfl, by go_num, by omega, by omega, rfl⟩
                                              case round =>
                                                obtain ⟨k9, r9, hk, rfl, rfl, hr0, hr1, rfl⟩ := hrel
                                                by_cases hlt : k9 < ab.length
                                                · skip
                                                  obtain ⟨hp, hl, hi⟩ := hpab.out
                                                  obtain ⟨b, off, rfl, hT, hcell⟩ := hp (by omega)
                                                  obtain ⟨xs, hx⟩ : ∃ x, ab[k9]? = some x := ⟨ab[k9], by simp [hlt]⟩
                                                  obtain ⟨u, hu⟩ : ∃ x, vsab[k9]? = some x := ⟨vsab[k9]'(by omega), by simp⟩
                                                  have q0 := hcell k9 u hu
                                                  obtain ⟨ua, uc, rfl, -, -, -, hup⟩ := hi k9 u xs hu hx
                                                  have hupH := hid hup
                                                  clear hp hl hi hcell hx hu hup
                                                  by_cases hxs : 1048576 < xs.length
                                                  · go_wp2
                                                    go_ret
                                                    exact ⟨_, rfl, rfl⟩
                                                  · skip
                                                    by_cases hss : (1048576 : Int) < r9 + xs.length
                                                    · go_wp2
                                                      go_ret
                                                      exact ⟨_, rfl, rfl⟩
                                                    · skip
                                                      go_wp2
                                                      go_loopw [23, 28] (fun t i wr => ∃ (k : Nat) (r : Int), k ≤ xs.length ∧ i = .int .i64 k ∧ t = .int .i64 r ∧ 0 ≤ r ∧ r ≤ 1048576 ∧ w = wr) (fun _ i _ => xs.length - (intOf i).toNat)
                                                      case atStart => exact ⟨0, r9 + xs.length, by omega, rfl, by go_num, by omega, by omega, rfl⟩
                                                      case round =>
                                                        obtain ⟨kk, rr, hkk, rfl, rfl, hrr0, hrr1, rfl⟩ := hrel
                                                        by_cases hlt2 : kk < xs.length
                                                        · skip
                                                          obtain ⟨b2, off2, rfl, hT2, hcell2⟩ := hupH.out (by omega)
                                                          obtain ⟨x, hx⟩ : ∃ x, xs[kk]? = some x := ⟨xs[kk], by simp [hlt2]⟩
                                                          have q1 := cell_at hcell2 hx
                                                          clear hcell2 hx hupH
                                                          by_cases hxs2 : 1048576 < x.size
                                                          · go_wp2
                                                            go_ret
                                                            exact ⟨_, rfl, rfl⟩
                                                          · skip
                                                            by_cases hss2 : (1048576 : Int) < rr + x.size
                                                            · go_wp2
                                                              go_ret
                                                              exact ⟨_, rfl, rfl⟩
                                                            · skip
                                                              go_wp2
                                                              go_roundw
                                                              case rel => exact ⟨kk + 1, rr + x.size, by omega, by go_num, by go_num, by omega, by omega, trivial⟩
                                                              case measure => simp [intOf]; omega
                                                        · skip
                                                          go_wp2
                                                          go_roundw
                                                          case rel => exact ⟨k9 + 1, rr, by omega, by go_num, rfl, hrr0, hrr1, trivial⟩
                                                          case measure => simp [intOf]; omega
                                                · skip
                                                  by_cases h10a : 1048576 < ma.length
                                                  · go_wp2
                                                    go_ret
                                                    exact ⟨_, rfl, rfl⟩
                                                  · skip
                                                    by_cases h10b : (1048576 : Int) < r9 + ma.length
                                                    · go_wp2
                                                      go_ret
                                                      exact ⟨_, rfl, rfl⟩
                                                    · skip
                                                      go_wp2
                                                      go_loopw [23, 29] (fun t i wr => ∃ (k : Nat) (r : Int), k ≤ ma.length ∧ i = .int .i64 k ∧ t = .int .i64 r ∧ 0 ≤ r ∧ r ≤ 1048576 ∧ w = wr) (fun _ i _ => ma.length - (intOf i).toNat)
                                                      case atStart => exact ⟨0, r9 + ma.length, by omega, rfl, by go_num, by omega, by omega, rfl⟩
                                                      case round =>
                                                        obtain ⟨k10, r10, hk, rfl, rfl, hr0, hr1, rfl⟩ := hrel
                                                        by_cases hlt : k10 < ma.length
                                                        · skip
                                                          obtain ⟨hp, hl, hi⟩ := hpma.out
                                                          obtain ⟨b, off, rfl, hT, hcell⟩ := hp (by omega)
                                                          obtain ⟨xs, hx⟩ : ∃ x, ma[k10]? = some x := ⟨ma[k10], by simp [hlt]⟩
                                                          obtain ⟨u, hu⟩ : ∃ x, vsma[k10]? = some x := ⟨vsma[k10]'(by omega), by simp⟩
                                                          have q0 := hcell k10 u hu
                                                          obtain ⟨ua, uc, rfl, -, -, -, hup⟩ := hi k10 u xs hu hx
                                                          have hupH := hid hup
                                                          clear hp hl hi hcell hx hu hup
                                                          by_cases hxs : 1048576 < xs.length
                                                          · go_wp2
                                                            go_ret
                                                            exact ⟨_, rfl, rfl⟩
                                                          · skip
                                                            by_cases hss : (1048576 : Int) < r10 + xs.length
                                                            · go_wp2
                                                              go_ret
                                                              exact ⟨_, rfl, rfl⟩
                                                            · skip
                                                              go_wp2
                                                              go_loopw [23, 30] (fun t i wr => ∃ (k : Nat) (r : Int), k ≤ xs.length ∧ i = .int .i64 k ∧ t = .int .i64 r ∧ 0 ≤ r ∧ r ≤ 1048576 ∧ w = wr) (fun _ i _ => xs.length - (intOf i).toNat)
                                                              case atStart => exact ⟨0, r10 + xs.length, by omega, rfl, by go_num, by omega, by omega, rfl⟩
                                                              case round =>
                                                                obtain ⟨kk, rr, hkk, rfl, rfl, hrr0, hrr1, rfl⟩ := hrel
                                                                by_cases hlt2 : kk < xs.length
                                                                · skip
                                                                  obtain ⟨b2, off2, rfl, hT2, hcell2⟩ := hupH.out (by omega)
                                                                  obtain ⟨x, hx⟩ : ∃ x, xs[kk]? = some x := ⟨xs[kk], by simp [hlt2]⟩
                                                                  have q1 := cell_at hcell2 hx
                                                                  clear hcell2 hx hupH
                                                                  by_cases hxs2 : 1048576 < x.size
                                                                  · go_wp2
                                                                    go_ret
                                                                    exact ⟨_, rfl, rfl⟩
                                                                  · skip
                                                                    by_cases hss2 : (1048576 : Int) < rr + x.size
                                                                    · go_wp2
                                                                      go_ret
                                                                      exact ⟨_, rfl, rfl⟩
                                                                    · skip
                                                                      go_wp2
                                                                      go_roundw
                                                                      case rel => exact ⟨kk + 1, rr + x.size, by omega, by go_num, by go_num, by omega, by omega, trivial⟩
                                                                      case measure => simp [intOf]; omega
                                                                · skip
                                                                  go_wp2
                                                                  go_roundw
                                                                  case rel => exact ⟨k10 + 1, rr, by omega, by go_num, rfl, hrr0, hrr1, trivial⟩
                                                                  case measure => simp [intOf]; omega
                                                        · skip
                                                          go_wp2
                                                          go_ret
                                                          exact ⟨_, rfl, rfl⟩

end Go.Proofs.Qxb6601232a
