import Derived.Test.Qxb6601153aZZ
namespace Go.Proofs.Qxb6601153a
open Go.RowKit
theorem Try.size35 : (Try.prog.info? 35).map (·.size) = some 4 := by kernel_rfl

set_option maxRecDepth 100000 in
set_option maxHeartbeats 1000000 in
/-- slices.Clone at []Entry. -/
theorem c48 {T : Nat → Prop} (w : World) (ao : Option Addr) (c : Nat) (rs : List Raw) (h : Rd T w (.slice ao rs.length c) rs.length (flat rs)) (hone : ∀ u ∈ flat rs, u.oneCell' = true) (hn : rs.length ≤ 1048576) :
    Calls Try.prog 48 #[.slice ao rs.length c] w fun e w' => ∃ v', e = .returned v' ∧ Fr All w w' ∧ w'.ownsRow w.heap.size 61 4 v' rs.length (flat rs) := by
  obtain ⟨ao', c', eq, _, _, hnil, hp⟩ := h
  simp only [Value.slice.injEq, true_and] at eq
  obtain ⟨rfl, rfl⟩ := eq
  have h1 := Lib.run_eql_slice_nil (P := Try.prog)
  cases ao with
  | none =>
    have hc0 := hnil rfl
    have hb0 : rs = [] := by
      apply List.eq_nil_of_length_eq_zero; omega
    subst hb0 hc0
    clear hnil hp
    go_enter Try.func48, Try.ntmps48
    go_wp2
    go_ret
    exact ⟨_, rfl, Fr.refl _ _, World.ownsRow_nil _ _ _ _⟩
  | some a =>
    have hnw : Hid (∀ j u, (flat rs)[j]? = some u → w.cell? (a.add j) = some u) := by
      intro j u hj
      have hl : j < rs.length * 4 := by have := (List.getElem?_eq_some_iff.1 hj).1; rw [length_flat] at this; exact this
      obtain ⟨b, off, ea, _, hc⟩ := hp (by omega)
      simp at ea; subst ea
      rw [add_plain']; exact hc j u hj
    have honeH : Hid (∀ u ∈ flat rs, u.oneCell' = true) := hone
    clear hnil hp hone
    obtain ⟨i61, hi61, hz0, hz1, hz2⟩ := info_parts Try.info61
    go_enter Try.func48, Try.ntmps48
    go_wp2_with (first | (at_builtin; refine wpList_append_own _ rfl (.tmp 5) (.tmp 6) 36 rfl w.heap.size 61 i61 (.agg #[.int .u64 0, .int .u64 0, .slice none 0 0, .pointer none]) 4 48 Try.underlying36 hi61 hz0 hz1 hz2 rfl (by decide) _ 0 [] rfl ?d0 a rs.length c (flat rs) rfl ?d6 ?d1 ?d2 ?d3 ?d4 ?d5 ?_))
    case d0 => exact own_new w 61 4 0 [] rfl (by unfold maxLen; omega)
    case d6 => exact length_flat rs
    case d1 => exact fun j u hj => (Fr.alloc All _ _).cellSome (hnw.out j u hj) trivial
    case d2 => exact honeH.out
    case d3 => unfold maxLen; omega
    case d4 => omega
    case d5 => simp
    intro v' w' hown' hgrow _
    go_wp2
    go_ret
    refine ⟨_, rfl, ?_, by simpa using hown'⟩
    exact (Fr.alloc All w _).trans (Fr.grown (T := fun b => b ≠ w.heap.size) hgrow (fun k hk h => by simp [Value.ownBlock] at hk; exact h hk.symm)) (fun i hi _ => ⟨trivial, by omega⟩)
theorem c48n {T : Nat → Prop} (w : World) (ao : Option Addr) (n c : Nat) (rs : List Raw) (hnl : n = rs.length) (h : Rd T w (.slice ao n c) n (flat rs)) (hone : ∀ u ∈ flat rs, u.oneCell' = true) (hn : n ≤ 1048576) :
    Calls Try.prog 48 #[.slice ao n c] w fun e w' => ∃ v', e = .returned v' ∧ Fr All w w' ∧ w'.ownsRow w.heap.size 61 4 v' n (flat rs) := by
  subst hnl; exact c48 w ao c rs h hone hn

set_option maxRecDepth 100000 in
set_option maxHeartbeats 1000000 in
/-- toSnap. -/
theorem c28 {T : Nat → Prop} (w : World) (i t : Int) (v2 v3 : Value) (vs ls : List Int) (h2 : U64s T w v2 vs) (h3 : U64s T w v3 ls) (hn : vs.length ≤ 1048576) (hm : ls.length ≤ 1048576) :
    Calls Try.prog 28 #[.int .u64 i, .int .u64 t, v2, v3] w fun e w' => ∃ vo le, e = .returned (.agg #[.int .u64 i, .int .u64 t, vo, le]) ∧ Fr All w w' ∧ U64s All w' vo vs ∧ U64s All w' le ls := by
  go_enter Try.func28, Try.ntmps28
  go_wp2_with fail
  refine (c43 (T := T) _ v2 vs (Rd.fr h2 (Fr.alloc _ _ _)) hn).mono ?_
  rintro e w1 ⟨vo, rfl, f1, o1⟩
  obtain ⟨ae, ne, ce, rfl⟩ := own_shape o1
  go_wp2_with fail
  have fa : Fr All w w1 := (Fr.alloc _ _ _).tr f1
  refine (c43 (T := T) _ v3 ls (Rd.fr h3 fa.any) hm).mono ?_
  rintro e w2 ⟨le, rfl, f2, o2⟩
  obtain ⟨ac, nc, cc, rfl⟩ := own_shape o2
  have fb : Fr All w w2 := fa.tr f2
  have hB := (f1.tr f2).heap (heap_alloc_new w (.cells #[.int .u64 0, .int .u64 0, .slice none 0 0, .slice none 0 0] 35)) trivial
  have h1c : (#[Value.int .u64 i, .int .u64 t, .slice ae ne ce, .slice ac nc cc] : Array Value).all (·.oneCell') = true := by simp [Value.oneCell']
  go_wp2_with (refine wpList_store_row rfl 35 (.tmp 8) (.tmp 16) rfl w.heap.size #[.int .u64 i, .int .u64 t, .slice ae ne ce, .slice ac nc cc] rfl rfl 35 _ hB Try.size35 rfl h1c ?_)
  have hR := setRow_heap w2 w.heap.size _ #[.int .u64 i, .int .u64 t, .slice ae ne ce, .slice ac nc cc] 35 _ hB
  have fR : Fr (fun b => b ≠ w.heap.size) w2 (w2.setRow w.heap.size #[.int .u64 i, .int .u64 t, .slice ae ne ce, .slice ac nc cc]) := Fr.setRow _ _ _ (by simp)
  have o1' := own_fr o1 f2 (fun _ _ => trivial)
  have ne1 := own_ne o1' hB (by decide)
  have ne2 := own_ne o2 hB (by decide)
  refine bodyPost_ret (v := .agg #[.int .u64 i, .int .u64 t, .slice ae ne ce, .slice ac nc cc]) (results_cell_row Try.results28 _ _ w.heap.size 35 _ (0, 0) _ rfl hR Try.underlying35 rfl Try.size35) rfl ⟨_, _, rfl, ?_, ?_, ?_⟩
  · exact fb.trans fR (fun i hi _ => ⟨trivial, by omega⟩)
  · exact Rd.own (own_fr o1' fR (fun b hb e => ne1 (e ▸ hb))) (fun _ _ _ => trivial)
  · exact Rd.own (own_fr o2 fR (fun b hb e => ne2 (e ▸ hb))) (fun _ _ _ => trivial)

theorem wrap_off (off i : Int) (m : Nat) (hi : i = off + m) (h : m < 18446744073709551616) : IntKind.u64.wrap (i - off) = (m : Int) := by
  have e : i - off = m := by omega
  rw [e]; unfold IntKind.wrap; simp [IntKind.bits, IntKind.signed]; omega
/-- One more, as an unsigned word reckons. -/
def succU (i : Int) : Int := IntKind.u64.wrap (i + 1)
theorem succU_lt {i : Int} (h0 : 0 ≤ i) (h : i < 18446744073709551615) : succU i = i + 1 := by
  unfold succU IntKind.wrap; simp [IntKind.bits, IntKind.signed]; omega
theorem succU_max : succU 18446744073709551615 = 0 := by decide
/-- What restore leaves of the entries. -/
def rsR (si st off : Int) (rs : List Raw) (i t : Int) : List Raw := if termF si st off rs i = some t then rs.drop (i - off).toNat else []
def rsU (si st off : Int) (rs : List Raw) (un i t : Int) : Int := if termF si st off rs i = some t then max un (succU i) else succU i
def rsS (si st off : Int) (rs : List Raw) (sb i t cm : Int) : Int := if termF si st off rs i = some t then sb else min sb cm

theorem cut_eq {ns : List Int} {t : Int} {p q : Nat} (h1 : Cut ns t p) (h2 : Cut ns t q) : p = q := by
  obtain ⟨a1, a2, a3⟩ := h1
  obtain ⟨b1, b2, b3⟩ := h2
  have key : ∀ (p q : Nat), p < q → q ≤ ns.length → (∀ (j : Nat) (x : Int), p ≤ j → ns[j]? = some x → t ≤ x) → (∀ (j : Nat) (x : Int), j < q → ns[j]? = some x → x < t) → False := by
    intro p q hpq hq g1 g2
    have hx : ns[p]? = some (ns[p]'(by omega)) := by simp
    have := g1 p _ (Nat.le_refl _) hx
    have := g2 p _ hpq hx
    omega
  rcases Nat.lt_trichotomy p q with h | h | h
  · exact (key p q h b1 a3 b2).elim
  · exact h
  · exact (key q p h a1 b3 a2).elim

/-- What a cut between two numbers holds. -/
theorem rs_between {si st off : Int} {rs : List Raw} {i t : Int} (hr : Runs off rs) (lo hi : Nat) (hsi : off ≤ si) (hsi2 : si ≤ off + rs.length) (hroom : off + rs.length < 18446744073709551615 ∨ rs = []) (hi0 : 0 ≤ i) (hi1 : i ≤ 18446744073709551615)
    (h1 : Cut (chgs rs) (succU i) lo) (h2 : Cut (chgs rs) (succU (i + (rsR si st off rs i t).length)) hi) :
    ((chgs rs).drop lo).take (hi - lo) = chgs (rsR si st off rs i t) ∧ hi - lo = (chgs (rsR si st off rs i t)).length := by
  have hempty : rsR si st off rs i t = [] → ((chgs rs).drop lo).take (hi - lo) = chgs (rsR si st off rs i t) ∧ hi - lo = (chgs (rsR si st off rs i t)).length := by
    intro he
    rw [he] at h2 ⊢
    simp only [List.length_nil, Int.ofNat_zero, Int.add_zero] at h2
    have := cut_eq h1 h2
    subst this
    simp [chgs]
  by_cases hk : termF si st off rs i = some t
  · have hrng : off ≤ i ∧ i ≤ off + rs.length := by
      unfold termF at hk
      split at hk
      · omega
      · split at hk
        · omega
        · cases hk
    have hR : rsR si st off rs i t = rs.drop (i - off).toNat := by unfold rsR; rw [if_pos hk]
    rcases hroom with hroom | hnil
    · obtain ⟨m, hm⟩ : ∃ m : Nat, i = off + m := ⟨(i - off).toNat, by omega⟩
      have hmm : (i - off).toNat = m := by omega
      rw [hR, hmm] at h2 ⊢
      rw [succU_lt hi0 (by omega), hm] at h1
      have hlen : (rs.drop m).length = rs.length - m := by simp
      rw [succU_lt (by omega) (by omega), hlen] at h2
      have e2 : i + ((rs.length - m : Nat) : Int) + 1 = off + (rs.length : Nat) + 1 := by omega
      rw [e2] at h2
      have g1 := hr.cut (by omega) h1
      have g2 := hr.cut (Nat.le_refl _) h2
      rw [List.take_of_length_le (Nat.le_refl _)] at g2
      have hsp : chgs rs = chgs (rs.take m) ++ chgs (rs.drop m) := by rw [← chgs_append, List.take_append_drop]
      have hl : (chgs rs).length = (chgs (rs.take m)).length + (chgs (rs.drop m)).length := by rw [hsp, List.length_append]
      have hd : (chgs rs).drop lo = chgs (rs.drop m) := by rw [hsp, g1, List.drop_left]
      rw [hd]
      exact ⟨List.take_of_length_le (by omega), by omega⟩
    · subst hnil
      exact hempty (by rw [hR]; simp)
  · exact hempty (by unfold rsR; rw [if_neg hk])
theorem Fr.of_ne {T : Nat → Prop} {L : Nat} {a b : World} (hT : ¬ T L) (f : Fr (fun i => i ≠ L) a b) : Fr T a b := f.mono fun _ _ h e => hT (e ▸ h)
/-- What restore leaves. -/
def Restored (T : Nat → Prop) (w : World) (L : Nat) (i t : Int) (vo le : Value) (un sb : Int) (rs' : List Raw) (e : Ending) (w' : World) : Prop :=
  e = .returned (.tuple #[]) ∧ ∃ ev' cv', Lg w' L i t vo le i ev' cv' un sb ∧ Rd T w' ev' rs'.length (flat rs') ∧ U64s T w' cv' (chgs rs') ∧ Fr (fun b => b ≠ L) w w'
end Go.Proofs.Qxb6601153a
