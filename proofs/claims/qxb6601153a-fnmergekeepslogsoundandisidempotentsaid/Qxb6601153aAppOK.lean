/-
  SEAT b6601153a. THE WALK OF appendOK. By an AI agent.
-/
import Derived.Test.Qxb6601153aBase
namespace Go.Proofs.Qxb6601153a
open Go.RowKit
set_option linter.unusedVariables false

set_option maxRecDepth 100000 in
set_option maxHeartbeats 2000000 in
/-- appendOK. -/
theorem c12 {T : Nat → Prop} (w : World) (si off : Int) (n : Nat) (v3 : Value) (ap : List Raw) (h1 : Ents T w v3 ap) (hix : IdxOk ap)
    (hn : n ≤ 1048576) (hm : ap.length ≤ 1048576) (b0 : 0 ≤ si) (b1 : si ≤ 18446744073709551615) (b2 : 0 ≤ off) (b3 : off + n < 18446744073709551615) :
    Calls Try.prog 12 #[.int .u64 si, .int .u64 off, .int .i64 n, v3] w (RetB w fun b => b = true → AppOk si off n ap) := by
  obtain ⟨⟨ao, c, rfl, hnc, hcm, _, hp⟩, hc⟩ := h1
  by_cases h0 : ap.length = 0
  · have h0' : ap = [] := List.eq_nil_of_length_eq_zero h0
    subst h0'
    clear hp hc hix hcm hnc h0
    go_enter Try.func12, Try.ntmps12
    go_wp2
    go_ret
    exact ⟨_, rfl, Qt.refl _, fun _ => .inl rfl⟩
  obtain ⟨b, o, rfl, _, hcell⟩ := hp (by omega)
  have hl0 : ((ap.length : Int) == 0) = false := beq_eq_false_iff_ne.2 (by omega)
  have hl1 : (0 : Int) < ap.length := by omega
  obtain ⟨r0, hr0⟩ : ∃ r, ap[0]? = some r := ⟨ap[0]'(by omega), by simp⟩
  obtain ⟨e0, _, _, _⟩ := ents_cells hcell hr0
  obtain ⟨⟨i0, i1⟩, _⟩ := hix r0 (List.mem_of_getElem? hr0)
  obtain ⟨F, hF⟩ : ∃ F, F = r0.idx := ⟨_, rfl⟩
  rw [← hF] at i0 i1 e0
  simp only [Nat.zero_mul, Nat.add_zero] at e0
  have hr0H : Hid (ap[0]? = some r0 ∧ F = r0.idx) := ⟨hr0, hF⟩
  have hcellH : Hid (∀ j u, (flat ap)[j]? = some u → w.cell? ⟨b, o + j, none⟩ = some u) := hcell
  clear hp hc hix hcm hcell hr0 hF
  by_cases t1 : F = 0
  · subst t1
    go_enter Try.func12, Try.ntmps12
    go_wp2
    go_ret
    exact ⟨_, rfl, Qt.refl _, by simp⟩
  have t1' : (F == 0) = false := by simp [t1]
  have i0' : 1 ≤ F := by omega
  clear t1 i0
  obtain ⟨tb, htb⟩ : ∃ tb : Bool, tb = decide (F - 1 = si ∨ (off < F - 1 ∧ F - 1 ≤ off + n)) := ⟨_, rfl⟩
  cases tb
  · have hno : ¬ (F - 1 = si ∨ (off < F - 1 ∧ F - 1 ≤ off + n)) := by simpa using htb.symm
    clear htb
    have n1 : (F - 1 != si) = true := by simp; omega
    by_cases t2 : F - 1 ≤ off
    · clear hno
      go_enter Try.func12, Try.ntmps12
      go_wp2
      go_ret
      exact ⟨_, rfl, Qt.refl _, by simp⟩
    · have t3 : off + n < F - 1 := by omega
      clear hno
      go_enter Try.func12, Try.ntmps12
      go_wp2
      go_ret
      exact ⟨_, rfl, Qt.refl _, by simp⟩
  · have hyes : (F - 1 = si ∨ (off < F - 1 ∧ F - 1 ≤ off + n)) := by simpa using htb.symm
    have hyH : Hid (F - 1 = si ∨ (off < F - 1 ∧ F - 1 ≤ off + n)) := hyes
    clear htb
    by_cases t5 : F - 1 = si
    · have n1 : (F - 1 != si) = false := by simp [t5]
      clear t5 hyes
      by_cases t4 : 18446744073709551615 - F < (ap.length : Int) - 1
      · go_enter Try.func12, Try.ntmps12
        go_wp2
        go_ret
        exact ⟨_, rfl, Qt.refl _, by simp⟩
      go_enter Try.func12, Try.ntmps12
      go_wp2
      go_loop [12] (fun i => ∃ k : Nat, k ≤ ap.length ∧ i = .int .i64 k ∧ (∀ (j : Nat) (r : Raw), j < k → ap[j]? = some r → r.idx = F + j)) (fun i => ap.length - (intOf i).toNat)
      case atStart => exact ⟨0, by omega, rfl, fun j r h => by omega⟩
      case round =>
        obtain ⟨k, hk, rfl, hall⟩ := hrel
        have hallH : Hid (∀ (j : Nat) (r : Raw), j < k → ap[j]? = some r → r.idx = F + j) := hall
        clear hall
        by_cases hlt : k < ap.length
        · obtain ⟨r, hr⟩ : ∃ r, ap[k]? = some r := ⟨ap[k], by simp [hlt]⟩
          obtain ⟨q0, _, _, _⟩ := ents_cells hcellH.out hr
          have hrH : Hid (ap[k]? = some r) := hr
          clear hr
          by_cases he : r.idx = F + k
          · have he' : (r.idx != F + k) = false := by simp [he]
            have heH : Hid (r.idx = F + k) := he
            clear he
            go_wp2
            go_round
            case rel =>
              refine ⟨k + 1, by omega, by go_num, fun j r' hj hr' => ?_⟩
              by_cases hjk : j = k
              · subst hjk
                rw [hrH.out] at hr'; cases hr'; exact heH.out
              · exact hallH.out j r' (by omega) hr'
            case measure => simp [intOf]; omega
          · have he' : (r.idx != F + k) = true := by simp [he]
            clear he
            go_wp2
            go_ret
            exact ⟨_, rfl, Qt.refl _, by simp⟩
        · go_wp2
          go_ret
          exact ⟨_, rfl, Qt.refl _, fun _ => .inr ⟨F, i0', hyH.out, by omega, fun j r hr => hallH.out j r (by have := (List.getElem?_eq_some_iff.1 hr).1; omega) hr⟩⟩
    · have n1 : (F - 1 != si) = true := by simp [t5]
      have n2 : off < F - 1 := by omega
      have n3 : F - 1 ≤ off + n := by omega
      clear t5 hyes
      by_cases t4 : 18446744073709551615 - F < (ap.length : Int) - 1
      · go_enter Try.func12, Try.ntmps12
        go_wp2
        go_ret
        exact ⟨_, rfl, Qt.refl _, by simp⟩
      go_enter Try.func12, Try.ntmps12
      go_wp2
      go_loop [12] (fun i => ∃ k : Nat, k ≤ ap.length ∧ i = .int .i64 k ∧ (∀ (j : Nat) (r : Raw), j < k → ap[j]? = some r → r.idx = F + j)) (fun i => ap.length - (intOf i).toNat)
      case atStart => exact ⟨0, by omega, rfl, fun j r h => by omega⟩
      case round =>
        obtain ⟨k, hk, rfl, hall⟩ := hrel
        have hallH : Hid (∀ (j : Nat) (r : Raw), j < k → ap[j]? = some r → r.idx = F + j) := hall
        clear hall
        by_cases hlt : k < ap.length
        · obtain ⟨r, hr⟩ : ∃ r, ap[k]? = some r := ⟨ap[k], by simp [hlt]⟩
          obtain ⟨q0, _, _, _⟩ := ents_cells hcellH.out hr
          have hrH : Hid (ap[k]? = some r) := hr
          clear hr
          by_cases he : r.idx = F + k
          · have he' : (r.idx != F + k) = false := by simp [he]
            have heH : Hid (r.idx = F + k) := he
            clear he
            go_wp2
            go_round
            case rel =>
              refine ⟨k + 1, by omega, by go_num, fun j r' hj hr' => ?_⟩
              by_cases hjk : j = k
              · subst hjk
                rw [hrH.out] at hr'; cases hr'; exact heH.out
              · exact hallH.out j r' (by omega) hr'
            case measure => simp [intOf]; omega
          · have he' : (r.idx != F + k) = true := by simp [he]
            clear he
            go_wp2
            go_ret
            exact ⟨_, rfl, Qt.refl _, by simp⟩
        · go_wp2
          go_ret
          exact ⟨_, rfl, Qt.refl _, fun _ => .inr ⟨F, i0', hyH.out, by omega, fun j r hr => hallH.out j r (by have := (List.getElem?_eq_some_iff.1 hr).1; omega) hr⟩⟩

end Go.Proofs.Qxb6601153a
