import Derived.Test.Qxb6601153aLogIs
import Derived.Deep.DeepCutAuto
namespace Go.Proofs.Qxb6601153a
open Go.RowKit
set_option linter.unusedVariables false
/-- An end: a term and true. -/
def RetTT (w : World) (t : Int) (e : Ending) (w' : World) : Prop := e = .returned (.tuple #[.int .u64 t, .bool true]) ∧ Fr All w w'

set_option maxRecDepth 100000 in
/-- termAtZ, at an index that the log knows. -/
theorem c22 {T : Nat → Prop} (w : World) (si st off un sb i tt : Int) (a1 a2 : Option Addr) (n1 n2 k1 k2 : Nat) (ev cv : Value) (hcvs : ∃ a n c, cv = .slice a n c) (rs : List Raw) (h : Rd T w ev rs.length (flat rs)) (hn : rs.length ≤ 1048576) (b0 : 0 ≤ off) (b1 : off ≤ 18446744073709551615) (b2 : 0 ≤ i) (b3 : i ≤ 18446744073709551615)
    (hk : termF si st off rs i = some tt) :
    Calls Try.prog 22 #[.agg #[.int .u64 si, .int .u64 st, .slice a1 n1 k1, .slice a2 n2 k2, .int .u64 off, ev, cv, .int .u64 un, .int .u64 sb], .int .u64 i] w (RetTT w tt) := by
  obtain ⟨ac, nc, cc, rfl⟩ := hcvs
  obtain ⟨ao, c, rfl, hnc, hcm, _, hp⟩ := h
  clear hcm
  by_cases t1 : i = si
  · subst t1
    rw [termF_snap] at hk
    cases hk
    clear hp
    go_enter Try.func22, Try.ntmps22
    go_wp2
    go_ret2
    exact ⟨rfl, Fr.alloc _ _ _⟩
  have t1' : (i == si) = false := by simp [t1]
  by_cases t2 : off < i ∧ i - off ≤ rs.length
  · obtain ⟨t3, t4⟩ := t2
    obtain ⟨b, o, rfl, _, hcell⟩ := hp (by omega)
    obtain ⟨r, hr⟩ : ∃ r, rs[(i - off).toNat - 1]? = some r := ⟨rs[(i - off).toNat - 1]'(by omega), by simp⟩
    rw [termF_in t1 t3 t4 hr] at hk
    cases hk
    obtain ⟨_, e1, _, _⟩ := ents_cells hcell hr
    have lb : b < w.heap.size := World.block_lt_of_cell? w _ e1
    clear hp hcell hr t1
    go_enter Try.func22, Try.ntmps22
    go_wp2
    go_ret2
    exact ⟨rfl, Fr.alloc _ _ _⟩
  · rw [termF_out t1 t2] at hk
    cases hk

set_option maxRecDepth 100000 in
set_option maxHeartbeats 1000000 in
/-- agreesUpToSnap. -/
theorem c20 {T : Nat → Prop} (w : World) (si st off : Int) (v v2 : Value) (rs ap : List Raw) (h : Ents T w v rs) (h2 : Ents T w v2 ap) (hix : IdxOk ap) (hn : rs.length ≤ 1048576) (hm : ap.length ≤ 1048576) (b0 : 0 ≤ off) (b1 : off ≤ 18446744073709551615) :
    Calls Try.prog 20 #[.int .u64 si, .int .u64 st, .int .u64 off, v, v2] w (RetB w fun b => b = true → ∀ r ∈ ap, r.idx ≤ si → termF si st off rs r.idx = some r.term) := by
  obtain ⟨a1, k1, e1⟩ : ∃ a c, v = .slice a rs.length c := by obtain ⟨⟨a, c, rfl, _⟩, _⟩ := h; exact ⟨_, _, rfl⟩
  subst e1
  have hH : Hid (Ents T w (.slice a1 rs.length k1) rs ∧ IdxOk ap) := ⟨h, hix⟩
  obtain ⟨⟨ao, c, rfl, hnc, hcm, _, hp⟩, hc⟩ := h2
  have hpH : Hid (0 < ap.length → ∃ b off, ao = some ⟨b, off, none⟩ ∧ T b ∧ ∀ j u, (flat ap)[j]? = some u → w.cell? ⟨b, off + j, none⟩ = some u) := hp
  clear hcm hp hc h hix
  go_enter Try.func20, Try.ntmps20
  go_wp2
  go_loopw [11] (fun I wr => ∃ k : Nat, k ≤ ap.length ∧ I = .int .i64 k ∧ Qt w wr ∧ ∀ (j : Nat) (r : Raw), j < k → ap[j]? = some r → r.idx ≤ si → termF si st off rs r.idx = some r.term) (fun I _ => ap.length - (intOf I).toNat)
  case atStart => exact ⟨0, by omega, rfl, Qt.refl _, fun j r h => by omega⟩
  case round =>
    obtain ⟨k, hk, rfl, ⟨nq, rfl⟩, hall⟩ := hrel
    have hallH : Hid (∀ (j : Nat) (r : Raw), j < k → ap[j]? = some r → r.idx ≤ si → termF si st off rs r.idx = some r.term) := hall
    clear hall
    by_cases hlt : k < ap.length
    · obtain ⟨b, o, rfl, _, hcell⟩ := hpH.out (by omega)
      obtain ⟨r, hr⟩ : ∃ r, ap[k]? = some r := ⟨ap[k], by simp [hlt]⟩
      obtain ⟨e0, e1, _, _⟩ := ents_cells hcell hr
      have hrH : Hid (ap[k]? = some r ∧ 0 ≤ r.idx ∧ r.idx ≤ 18446744073709551615) := ⟨hr, (hH.out.2 r (List.mem_of_getElem? hr)).1⟩
      clear hcell hr hpH
      by_cases hle : r.idx ≤ si
      · have hd : decide (r.idx ≤ si) = true := by simpa using hle
        go_wp2_with fail
        refine (c16 (T := T) _ si st off r.idx _ rs (hH.out.1.fr (Fr.drewN _ _ _)) hn b0 b1 hrH.out.2.1 hrH.out.2.2).mono ?_
        rintro e w' ⟨rfl, nq2, rfl⟩
        cases hq : termF si st off rs r.idx with
        | none =>
          go_wp2
          go_ret
          exact ⟨_, rfl, (by first | exact Qt.drewN _ _ | exact (Qt.drewN _ _).trans (Qt.drewN _ _)), by simp⟩
        | some tt =>
          by_cases htt : tt = r.term
          · have hd2 : (tt != r.term) = false := by simp [htt]
            have hqH : Hid (termF si st off rs r.idx = some r.term) := by rw [← htt]; exact hq
            clear hq htt
            go_wp2
            go_roundw
            case rel =>
              refine ⟨k + 1, by omega, by go_num, (by first | exact Qt.drewN _ _ | exact (Qt.drewN _ _).trans (Qt.drewN _ _)), fun j r' hj hr' hl => ?_⟩
              by_cases hjk : j = k
              · subst hjk
                rw [hrH.out.1] at hr'; cases hr'; exact hqH.out
              · exact hallH.out j r' (by omega) hr' hl
            case measure => simp [intOf]; omega
          · have hd2 : (tt != r.term) = true := by simpa using htt
            clear hq htt
            go_wp2
            go_ret
            exact ⟨_, rfl, (by first | exact Qt.drewN _ _ | exact (Qt.drewN _ _).trans (Qt.drewN _ _)), by simp⟩
      · have hd : decide (r.idx ≤ si) = false := by simpa using hle
        have hleH : Hid (¬ r.idx ≤ si) := hle
        clear hle
        go_wp2
        go_roundw
        case rel =>
          refine ⟨k + 1, by omega, by go_num, (by first | exact Qt.drewN _ _ | exact (Qt.drewN _ _).trans (Qt.drewN _ _)), fun j r' hj hr' hl => ?_⟩
          by_cases hjk : j = k
          · subst hjk
            rw [hrH.out.1] at hr'; cases hr'; exact absurd hl hleH.out
          · exact hallH.out j r' (by omega) hr' hl
        case measure => simp [intOf]; omega
    · go_wp2
      go_ret
      refine ⟨_, rfl, Qt.drewN _ _, fun _ r hr hl => ?_⟩
      obtain ⟨j, hj⟩ := List.getElem?_of_mem hr
      exact hallH.out j r (by have := (List.getElem?_eq_some_iff.1 hj).1; omega) hj hl
end Go.Proofs.Qxb6601153a
