/-
  SEAT b6601232a. THE WALK OF zzBytes_FnTakePartInstancesCommute. By an AI agent.
-/
import Derived.Test.Qxb6601232aNode
namespace Go.Proofs.Qxb6601232a
open Go.RowKit
set_option linter.unusedVariables false
set_option linter.unusedSimpArgs false

def RetBool (w : World) (e : Ending) (w' : World) : Prop := ∃ b : Bool, e = .returned (.bool b) ∧ w' = w

set_option maxRecDepth 100000 in
set_option maxHeartbeats 8000000 in
/-- zzBytes, number 46. -/
theorem c46 {T : Nat → Prop} (w : World) (nsv : Value) (ns : List ByteArray) (hns : Strs T w nsv ns) (a1 : Option Addr) (n1 c1 : Nat) (a2 : Option Addr) (n2 c2 : Nat) (a3 : Option Addr) (n3 c3 : Nat) (a4 : Option Addr) (n4 c4 : Nat) (srt : Int) (ahv : Value) (ah : List ByteArray) (hah : Strs T w ahv ah) (aav : Value) (aa : List ByteArray) (haa : Strs T w aav aa) (amv : Value) (am : List ByteArray) (ham : Strs T w amv am) (bhv : Value) (bh : List ByteArray) (hbh : Strs T w bhv bh) (bav : Value) (ba : List ByteArray) (hba : Strs T w bav ba) (bmv : Value) (bm : List ByteArray) (hbm : Strs T w bmv bm) :
    Calls Try.prog 46 #[nsv, .slice a1 n1 c1, .slice a2 n2 c2, .slice a3 n3 c3, .slice a4 n4 c4, .int .i64 srt, ahv, aav, amv, bhv, bav, bmv] w (RetBool w) := by
  obtain ⟨ans, cns, rfl, _, _, _, hpns⟩ := hns
  have hpns := hid hpns
  obtain ⟨aah, cah, rfl, _, _, _, hpah⟩ := hah
  have hpah := hid hpah
  obtain ⟨aaa, caa, rfl, _, _, _, hpaa⟩ := haa
  have hpaa := hid hpaa
  obtain ⟨aam, cam, rfl, _, _, _, hpam⟩ := ham
  have hpam := hid hpam
  obtain ⟨abh, cbh, rfl, _, _, _, hpbh⟩ := hbh
  have hpbh := hid hpbh
  obtain ⟨aba, cba, rfl, _, _, _, hpba⟩ := hba
  have hpba := hid hpba
  obtain ⟨abm, cbm, rfl, _, _, _, hpbm⟩ := hbm
  have hpbm := hid hpbm
  go_enter Try.func46, Try.ntmps46
  by_cases h0a : 1048576 < ns.length
  · go_wp2
    go_ret
    exact ⟨_, rfl, rfl⟩
  · by_cases h0b : (1048576 : Int) < 0 + ns.length
    · exfalso; omega
    · go_wp2
      go_loopw [25, 26] (fun t i wr => ∃ (k : Nat) (r : Int), k ≤ ns.length ∧ i = .int .i64 k ∧ t = .int .i64 r ∧ 0 ≤ r ∧ r ≤ 1048576 ∧ w = wr) (fun _ i _ => ns.length - (intOf i).toNat)
      case atStart => exact ⟨0, 0 + ns.length, by omega, rfl, by go_num, by omega, by omega, rfl⟩
      case round =>
        obtain ⟨k0, r0, hk, rfl, rfl, hr0, hr1, rfl⟩ := hrel
        by_cases hlt : k0 < ns.length
        · obtain ⟨b, off, rfl, hT, hcell⟩ := hpns.out (by omega)
          obtain ⟨x, hx⟩ : ∃ x, ns[k0]? = some x := ⟨ns[k0], by simp [hlt]⟩
          have q0 := cell_at hcell hx
          clear hcell hx hpns
          by_cases hxs : 1048576 < x.size
          · go_wp2
            go_ret
            exact ⟨_, rfl, rfl⟩
          · by_cases hss : (1048576 : Int) < r0 + x.size
            · go_wp2
              go_ret
              exact ⟨_, rfl, rfl⟩
            · go_wp2
              go_roundw
              case rel => exact ⟨k0 + 1, r0 + x.size, by omega, by go_num, by go_num, by omega, by omega, trivial⟩
              case measure => simp [intOf]; omega
        · skip
          by_cases h1a : 1048576 < n1
          · go_wp2
            go_ret
            exact ⟨_, rfl, rfl⟩
          · by_cases h1b : (1048576 : Int) < r0 + n1
            · go_wp2
              go_ret
              exact ⟨_, rfl, rfl⟩
            · skip
              by_cases h2a : 1048576 < n2
              · go_wp2
                go_ret
                exact ⟨_, rfl, rfl⟩
              · by_cases h2b : (1048576 : Int) < (r0 + n1) + n2
                · go_wp2
                  go_ret
                  exact ⟨_, rfl, rfl⟩
                · skip
                  by_cases h3a : 1048576 < n3
                  · go_wp2
                    go_ret
                    exact ⟨_, rfl, rfl⟩
                  · by_cases h3b : (1048576 : Int) < ((r0 + n1) + n2) + n3
                    · go_wp2
                      go_ret
                      exact ⟨_, rfl, rfl⟩
                    · skip
                      by_cases h4a : 1048576 < n4
                      · go_wp2
                        go_ret
                        exact ⟨_, rfl, rfl⟩
                      · by_cases h4b : (1048576 : Int) < (((r0 + n1) + n2) + n3) + n4
                        · go_wp2
                          go_ret
                          exact ⟨_, rfl, rfl⟩
                        · skip
                          by_cases h6a : 1048576 < ah.length
                          · go_wp2
                            go_ret
                            exact ⟨_, rfl, rfl⟩
                          · by_cases h6b : (1048576 : Int) < ((((r0 + n1) + n2) + n3) + n4) + ah.length
                            · go_wp2
                              go_ret
                              exact ⟨_, rfl, rfl⟩
                            · go_wp2
                              go_loopw [25, 27] (fun t i wr => ∃ (k : Nat) (r : Int), k ≤ ah.length ∧ i = .int .i64 k ∧ t = .int .i64 r ∧ 0 ≤ r ∧ r ≤ 1048576 ∧ w = wr) (fun _ i _ => ah.length - (intOf i).toNat)
                              case atStart => exact ⟨0, ((((r0 + n1) + n2) + n3) + n4) + ah.length, by omega, rfl, by go_num, by omega, by omega, rfl⟩
                              case round =>
                                obtain ⟨k6, r6, hk, rfl, rfl, hr0, hr1, rfl⟩ := hrel
                                by_cases hlt : k6 < ah.length
                                · obtain ⟨b, off, rfl, hT, hcell⟩ := hpah.out (by omega)
                                  obtain ⟨x, hx⟩ : ∃ x, ah[k6]? = some x := ⟨ah[k6], by simp [hlt]⟩
                                  have q0 := cell_at hcell hx
                                  clear hcell hx hpah
                                  by_cases hxs : 1048576 < x.size
                                  · go_wp2
                                    go_ret
                                    exact ⟨_, rfl, rfl⟩
                                  · by_cases hss : (1048576 : Int) < r6 + x.size
                                    · go_wp2
                                      go_ret
                                      exact ⟨_, rfl, rfl⟩
                                    · go_wp2
                                      go_roundw
                                      case rel => exact ⟨k6 + 1, r6 + x.size, by omega, by go_num, by go_num, by omega, by omega, trivial⟩
                                      case measure => simp [intOf]; omega
                                · skip
                                  by_cases h7a : 1048576 < aa.length
                                  · go_wp2
                                    go_ret
                                    exact ⟨_, rfl, rfl⟩
                                  · by_cases h7b : (1048576 : Int) < r6 + aa.length
                                    · go_wp2
                                      go_ret
                                      exact ⟨_, rfl, rfl⟩
                                    · go_wp2
                                      go_loopw [25, 28] (fun t i wr => ∃ (k : Nat) (r : Int), k ≤ aa.length ∧ i = .int .i64 k ∧ t = .int .i64 r ∧ 0 ≤ r ∧ r ≤ 1048576 ∧ w = wr) (fun _ i _ => aa.length - (intOf i).toNat)
                                      case atStart => exact ⟨0, r6 + aa.length, by omega, rfl, by go_num, by omega, by omega, rfl⟩
                                      case round =>
                                        obtain ⟨k7, r7, hk, rfl, rfl, hr0, hr1, rfl⟩ := hrel
                                        by_cases hlt : k7 < aa.length
                                        · obtain ⟨b, off, rfl, hT, hcell⟩ := hpaa.out (by omega)
                                          obtain ⟨x, hx⟩ : ∃ x, aa[k7]? = some x := ⟨aa[k7], by simp [hlt]⟩
                                          have q0 := cell_at hcell hx
                                          clear hcell hx hpaa
                                          by_cases hxs : 1048576 < x.size
                                          · go_wp2
                                            go_ret
                                            exact ⟨_, rfl, rfl⟩
                                          · by_cases hss : (1048576 : Int) < r7 + x.size
                                            · go_wp2
                                              go_ret
                                              exact ⟨_, rfl, rfl⟩
                                            · go_wp2
                                              go_roundw
                                              case rel => exact ⟨k7 + 1, r7 + x.size, by omega, by go_num, by go_num, by omega, by omega, trivial⟩
                                              case measure => simp [intOf]; omega
                                        · skip
                                          by_cases h8a : 1048576 < am.length
                                          · go_wp2
                                            go_ret
                                            exact ⟨_, rfl, rfl⟩
                                          · by_cases h8b : (1048576 : Int) < r7 + am.length
                                            · go_wp2
                                              go_ret
                                              exact ⟨_, rfl, rfl⟩
                                            · go_wp2
                                              go_loopw [25, 29] (fun t i wr => ∃ (k : Nat) (r : Int), k ≤ am.length ∧ i = .int .i64 k ∧ t = .int .i64 r ∧ 0 ≤ r ∧ r ≤ 1048576 ∧ w = wr) (fun _ i _ => am.length - (intOf i).toNat)
                                              case atStart => exact ⟨0, r7 + am.length, by omega, rfl, by go_num, by omega, by omega, rfl⟩
                                              case round =>
                                                obtain ⟨k8, r8, hk, rfl, rfl, hr0, hr1, rfl⟩ := hrel
                                                by_cases hlt : k8 < am.length
                                                · obtain ⟨b, off, rfl, hT, hcell⟩ := hpam.out (by omega)
                                                  obtain ⟨x, hx⟩ : ∃ x, am[k8]? = some x := ⟨am[k8], by simp [hlt]⟩
                                                  have q0 := cell_at hcell hx
                                                  clear hcell hx hpam
                                                  by_cases hxs : 1048576 < x.size
                                                  · go_wp2
                                                    go_ret
                                                    exact ⟨_, rfl, rfl⟩
                                                  · by_cases hss : (1048576 : Int) < r8 + x.size
                                                    · go_wp2
                                                      go_ret
                                                      exact ⟨_, rfl, rfl⟩
                                                    · go_wp2
                                                      go_roundw
                                                      case rel => exact ⟨k8 + 1, r8 + x.size, by omega, by go_num, by go_num, by omega, by omega, trivial⟩
                                                      case measure => simp [intOf]; omega
                                                · skip
                                                  by_cases h9a : 1048576 < bh.length
                                                  · go_wp2
                                                    go_ret
                                                    exact ⟨_, rfl, rfl⟩
                                                  · by_cases h9b : (1048576 : Int) < r8 + bh.length
                                                    · go_wp2
                                                      go_ret
                                                      exact ⟨_, rfl, rfl⟩
                                                    · go_wp2
                                                      go_loopw [25, 30] (fun t i wr => ∃ (k : Nat) (r : Int), k ≤ bh.length ∧ i = .int .i64 k ∧ t = .int .i64 r ∧ 0 ≤ r ∧ r ≤ 1048576 ∧ w = wr) (fun _ i _ => bh.length - (intOf i).toNat)
                                                      case atStart => exact ⟨0, r8 + bh.length, by omega, rfl, by go_num, by omega, by omega, rfl⟩
                                                      case round =>
                                                        obtain ⟨k9, r9, hk, rfl, rfl, hr0, hr1, rfl⟩ := hrel
                                                        by_cases hlt : k9 < bh.length
                                                        · obtain ⟨b, off, rfl, hT, hcell⟩ := hpbh.out (by omega)
                                                          obtain ⟨x, hx⟩ : ∃ x, bh[k9]? = some x := ⟨bh[k9], by simp [hlt]⟩
                                                          have q0 := cell_at hcell hx
                                                          clear hcell hx hpbh
                                                          by_cases hxs : 1048576 < x.size
                                                          · go_wp2
                                                            go_ret
                                                            exact ⟨_, rfl, rfl⟩
                                                          · by_cases hss : (1048576 : Int) < r9 + x.size
                                                            · go_wp2
                                                              go_ret
                                                              exact ⟨_, rfl, rfl⟩
                                                            · go_wp2
                                                              go_roundw
                                                              case rel => exact ⟨k9 + 1, r9 + x.size, by omega, by go_num, by go_num, by omega, by omega, trivial⟩
                                                              case measure => simp [intOf]; omega
                                                        · skip
                                                          by_cases h10a : 1048576 < ba.length
                                                          · go_wp2
                                                            go_ret
                                                            exact ⟨_, rfl, rfl⟩
                                                          · by_cases h10b : (1048576 : Int) < r9 + ba.length
                                                            · go_wp2
                                                              go_ret
                                                              exact ⟨_, rfl, rfl⟩
                                                            · go_wp2
                                                              go_loopw [25, 31] (fun t i wr => ∃ (k : Nat) (r : Int), k ≤ ba.length ∧ i = .int .i64 k ∧ t = .int .i64 r ∧ 0 ≤ r ∧ r ≤ 1048576 ∧ w = wr) (fun _ i _ => ba.length - (intOf i).toNat)
                                                              case atStart => exact ⟨0, r9 + ba.length, by omega, rfl, by go_num, by omega, by omega, rfl⟩
                                                              case round =>
                                                                obtain ⟨k10, r10, hk, rfl, rfl, hr0, hr1, rfl⟩ := hrel
                                                                by_cases hlt : k10 < ba.length
                                                                · obtain ⟨b, off, rfl, hT, hcell⟩ := hpba.out (by omega)
                                                                  obtain ⟨x, hx⟩ : ∃ x, ba[k10]? = some x := ⟨ba[k10], by simp [hlt]⟩
                                                                  have q0 := cell_at hcell hx
                                                                  clear hcell hx hpba
                                                                  by_cases hxs : 1048576 < x.size
                                                                  · go_wp2
                                                                    go_ret
                                                                    exact ⟨_, rfl, rfl⟩
                                                                  · by_cases hss : (1048576 : Int) < r10 + x.size
                                                                    · go_wp2
                                                                      go_ret
                                                                      exact ⟨_, rfl, rfl⟩
                                                                    · go_wp2
                                                                      go_roundw
                                                                      case rel => exact ⟨k10 + 1, r10 + x.size, by omega, by go_num, by go_num, by omega, by omega, trivial⟩
                                                                      case measure => simp [intOf]; omega
                                                                · skip
                                                                  by_cases h11a : 1048576 < bm.length
                                                                  · go_wp2
                                                                    go_ret
                                                                    exact ⟨_, rfl, rfl⟩
                                                                  · by_cases h11b : (1048576 : Int) < r10 + bm.length
                                                                    · go_wp2
                                                                      go_ret
                                                                      exact ⟨_, rfl, rfl⟩
                                                                    · go_wp2
                                                                      go_loopw [25, 32] (fun t i wr => ∃ (k : Nat) (r : Int), k ≤ bm.length ∧ i = .int .i64 k ∧ t = .int .i64 r ∧ 0 ≤ r ∧ r ≤ 1048576 ∧ w = wr) (fun _ i _ => bm.length - (intOf i).toNat)
                                                                      case atStart => exact ⟨0, r10 + bm.length, by omega, rfl, by go_num, by omega, by omega, rfl⟩
                                                                      case round =>
                                                                        obtain ⟨k11, r11, hk, rfl, rfl, hr0, hr1, rfl⟩ := hrel
                                                                        by_cases hlt : k11 < bm.length
                                                                        · obtain ⟨b, off, rfl, hT, hcell⟩ := hpbm.out (by omega)
                                                                          obtain ⟨x, hx⟩ : ∃ x, bm[k11]? = some x := ⟨bm[k11], by simp [hlt]⟩
                                                                          have q0 := cell_at hcell hx
                                                                          clear hcell hx hpbm
                                                                          by_cases hxs : 1048576 < x.size
                                                                          · go_wp2
                                                                            go_ret
                                                                            exact ⟨_, rfl, rfl⟩
                                                                          · by_cases hss : (1048576 : Int) < r11 + x.size
                                                                            · go_wp2
                                                                              go_ret
                                                                              exact ⟨_, rfl, rfl⟩
                                                                            · go_wp2
                                                                              go_roundw
                                                                              case rel => exact ⟨k11 + 1, r11 + x.size, by omega, by go_num, by go_num, by omega, by omega, trivial⟩
                                                                              case measure => simp [intOf]; omega
                                                                        · skip
                                                                          go_wp2
                                                                          go_ret
                                                                          exact ⟨_, rfl, rfl⟩

end Go.Proofs.Qxb6601232a
