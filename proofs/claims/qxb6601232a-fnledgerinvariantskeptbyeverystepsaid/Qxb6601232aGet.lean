/-
  SEAT b6601232a. THE WALKS OF ZZNode, ZZListed, ZZSorted, ZZReshards, ZZNumberCount, zzStandingsIncreasing, zzSearch, zzSearchCredits. By an AI agent.
-/
import Derived.Test.Qxb6601232aRec
import Derived.Test.Qxb6601232aSize
namespace Go.Proofs.Qxb6601232a
open Go.RowKit
set_option linter.unusedVariables false
set_option linter.unusedSimpArgs false

set_option maxRecDepth 100000 in
/-- ZZListed. -/
theorem c26 (w : World) (S : Nat → Prop) (L : Nat) (qs : List (Nat × St)) (srt : Int) (lv t3 t4 : Value) (h : LedV w S L qs srt lv t3 t4) : Calls Try.prog 26 #[.pointer (some ⟨L, 0, none⟩)] w fun e w' => e = .returned lv ∧ w' = w := by
  obtain ⟨mb, D, hr, _⟩ := h.row
  have c1 : w.cell? ⟨L, 1, none⟩ = some lv := by rw [cell_of_row w L _ _ _ _ hr]; rfl
  obtain ⟨a, n, c, rfl⟩ := own_shape h.own
  clear hr h
  go_enter Try.func26, Try.ntmps26
  go_wp2
  go_ret
  exact ⟨rfl, rfl⟩
set_option maxRecDepth 100000 in
/-- ZZSorted. -/
theorem c27 (w : World) (S : Nat → Prop) (L : Nat) (qs : List (Nat × St)) (srt : Int) (lv t3 t4 : Value) (h : LedV w S L qs srt lv t3 t4) : Calls Try.prog 27 #[.pointer (some ⟨L, 0, none⟩)] w fun e w' => e = .returned (.int .i64 srt) ∧ w' = w := by
  obtain ⟨mb, D, hr, _⟩ := h.row
  have c1 : w.cell? ⟨L, 2, none⟩ = some (.int .i64 srt) := by rw [cell_of_row w L _ _ _ _ hr]; rfl
  clear hr h
  go_enter Try.func27, Try.ntmps27
  go_wp2
  go_ret
  exact ⟨rfl, rfl⟩
set_option maxRecDepth 100000 in
/-- ZZReshards. -/
theorem c28 (w : World) (S : Nat → Prop) (L : Nat) (qs : List (Nat × St)) (srt : Int) (lv t4 : Value) (a : Option Addr) (n c : Nat) (h : LedV w S L qs srt lv (.slice a n c) t4) : Calls Try.prog 28 #[.pointer (some ⟨L, 0, none⟩)] w fun e w' => e = .returned (.slice a n c) ∧ w' = w := by
  obtain ⟨mb, D, hr, _⟩ := h.row
  have c1 : w.cell? ⟨L, 3, none⟩ = some (.slice a n c) := by rw [cell_of_row w L _ _ _ _ hr]; rfl
  clear hr h
  go_enter Try.func28, Try.ntmps28
  go_wp2
  go_ret
  exact ⟨rfl, rfl⟩
theorem law53 : Maps.Keyed Try.prog 53 := Maps.int_keyed Try.underlying53
/-- A map that holds nothing. -/
theorem own_empty {w : World} {nb : Nat} (h : w.heap[nb]? = some (.map #[] 0)) : w.ownsMap Try.prog 53 (unitElem (H := Unit)) nb 0 (.map []) :=
  ⟨#[], 0, h, ⟨by simp, MapKept.stamped_empty 0, by simp⟩, Nat.le_refl _, rfl⟩
set_option maxRecDepth 100000 in
/-- ZZNumberCount. -/
theorem c20 (w : World) (S : Nat → Prop) (L nb n : Nat) (qs : List (Nat × St)) (srt : Int) (lv t3 : Value) (D : DataW Unit) (h : LedV w S L qs srt lv t3 (.map (some nb))) (hm : w.ownsMap Try.prog 53 (unitElem (H := Unit)) nb n D) :
    Calls Try.prog 20 #[.pointer (some ⟨L, 0, none⟩)] w fun e w' => e = .returned (.int .i64 (Maps.size D)) ∧ w' = w := by
  obtain ⟨mb, D', hr, _⟩ := h.row
  have c0 : w.cell? ⟨L, 4, none⟩ = some (.map (some nb)) := by rw [cell_of_row w L _ _ _ _ hr]; rfl
  have hl := fun ty => hm.len Try.underlying80 ty
  generalize Maps.size D = m at hl ⊢
  clear hm h hr
  go_enter Try.func20, Try.ntmps20
  go_wp2
  go_ret
  exact ⟨rfl, rfl⟩
set_option maxRecDepth 100000 in
/-- ZZNode, at a name that is known. -/
theorem c24 (w : World) (S : Nat → Prop) (L : Nat) (qs : List (Nat × St)) (srt : Int) (lv t3 t4 : Value) (q : Nat × St) (h : LedV w S L qs srt lv t3 t4) (hn : (names (qs.map Prod.snd)).Nodup) (hq : q ∈ qs) :
    Calls Try.prog 24 #[.pointer (some ⟨L, 0, none⟩), .string q.2.name] w fun e w' => e = .returned (.tuple #[.pointer (some ⟨q.1, 0, none⟩), .bool true]) ∧ w' = w := by
  obtain ⟨mb, D, hr, sM, hm⟩ := h.row
  have c0 : w.cell? ⟨L, 0, none⟩ = some (.map (some mb)) := by rw [cell_of_row w L _ _ _ _ hr]; rfl
  have hlk := look_known hm hn hq (h.st q hq).2.2
  unfold ptr at hlk
  clear hm h hr hq hn
  go_enter Try.func24, Try.ntmps24
  go_wp2
  go_ret2
  exact ⟨rfl, rfl⟩

/-- A list of standings, as a reader finds it. -/
def Lst (w : World) (v : Value) (ss : List St) : Prop :=
  ∃ ps : List Nat, ps.length = ss.length ∧ Rd All w v ss.length (ps.map ptr) ∧ ∀ (j : Nat) (p : Nat) (s : St), ps[j]? = some p → ss[j]? = some s → w.heap[p]? = some (.cells s.cells 48 (0, 0))
theorem LedV.lst {w : World} {S : Nat → Prop} {L : Nat} {qs : List (Nat × St)} {srt : Int} {lv t3 t4 : Value} (h : LedV w S L qs srt lv t3 t4) : Lst w lv (qs.map Prod.snd) := by
  refine ⟨qs.map Prod.fst, by simp, ?_, fun j p s hp hs => ?_⟩
  · have := Rd.own (T := All) h.own (fun _ _ _ => trivial)
    rw [List.length_map, List.map_map]; exact this
  · rw [List.getElem?_map] at hp hs
    cases hq : qs[j]? with
    | none => rw [hq] at hp; cases hp
    | some q =>
      rw [hq] at hp hs
      simp at hp hs; subst hp; subst hs
      exact (h.st q (List.mem_of_getElem? hq)).2.1

set_option maxRecDepth 100000 in
set_option maxHeartbeats 1000000 in
/-- zzSearch: a name that is there. -/
theorem c25 (w : World) (v : Value) (ss : List St) (p : Nat) (s : St) (h : Lst w v ss) (hi : Inc ss) (hp : ss[p]? = some s) (hl : ss.length ≤ 1099511627776) : Calls Try.prog 25 #[v, .string s.name] w fun e w' => e = .returned (.int .i64 p) ∧ w' = w := by
  obtain ⟨ps, hpl, ⟨ao, c, rfl, _, _, _, hpp⟩, hst⟩ := h
  have hpn := (List.getElem?_eq_some_iff.1 hp).1
  have hH := hid (And.intro hpp (And.intro hst (And.intro hi (And.intro hp hpl))))
  clear hpp hst hi hp hpl
  go_enter Try.func25, Try.ntmps25
  go_wp2
  go_loopw [5, 6, 7] (fun lo hv _ wr => ∃ (l u : Nat), l ≤ p ∧ p ≤ u ∧ u ≤ ss.length ∧ lo = .int .i64 l ∧ hv = .int .i64 u ∧ w = wr) (fun lo hv _ _ => (intOf hv).toNat - (intOf lo).toNat)
  case atStart => exact ⟨0, ss.length, by omega, by omega, by omega, rfl, rfl, rfl⟩
  case round =>
    obtain ⟨l, u, h1, h2, h3, rfl, rfl, rfl⟩ := hrel
    by_cases hlu : l < u
    · obtain ⟨hpp, hst, hi, hp, hpl⟩ := hH.out
      obtain ⟨b, off, rfl, _, hcell⟩ := hpp (by omega)
      obtain ⟨m, hm⟩ : ∃ m : Nat, m = l + (u - l) / 2 := ⟨_, rfl⟩
      have em : (l : Int) + ((u : Int) - (l : Int)) / 2 = (m : Int) := by omega
      have hml : l ≤ m := by omega
      have hmu : m < u := by omega
      have hmn : m < ss.length := by omega
      clear hm
      obtain ⟨j, hj⟩ : ∃ j, ps[m]? = some j := ⟨_, List.getElem?_eq_getElem (by omega)⟩
      obtain ⟨t, ht⟩ : ∃ t, ss[m]? = some t := ⟨_, List.getElem?_eq_getElem hmn⟩
      have q0 : w.cell? ⟨b, off + m, none⟩ = some (.pointer (some ⟨j, 0, none⟩)) := cell_at hcell hj
      have q1 : w.cell? ⟨j, 0, none⟩ = some (.string t.name) := by rw [cell_of_row w j _ _ _ _ (hst m j t hj ht)]; rfl
      have hKH := hid (And.intro ht (And.intro hi hp))
      clear hpp hst hi hp hpl hcell hj ht
      cases hd : Op.bytesLess t.name.toList s.name.toList
      · have hdH := hid hd
        go_wp2
        go_roundw
        case rel =>
          obtain ⟨ht, hi, hp⟩ := hKH.out
          refine ⟨l, m, h1, ?_, by omega, rfl, by go_num, trivial⟩
          refine Nat.le_of_not_lt fun hmp => ?_
          have := (List.pairwise_iff_getElem.1 hi) m p (by omega) hpn hmp
          rw [List.getElem?_eq_getElem hmn] at ht
          rw [List.getElem?_eq_getElem hpn] at hp
          cases ht; cases hp
          have h' : bless ss[m].name ss[p].name = false := hdH.out
          rw [this] at h'; cases h'
        case measure => simp [intOf]; omega
      · have hdH := hid hd
        go_wp2
        go_roundw
        case rel =>
          obtain ⟨ht, hi, hp⟩ := hKH.out
          refine ⟨m + 1, u, ?_, h2, h3, by go_num, rfl, trivial⟩
          refine Nat.le_of_not_lt fun hmp => ?_
          rw [List.getElem?_eq_getElem hmn] at ht
          rw [List.getElem?_eq_getElem hpn] at hp
          cases ht; cases hp
          have h' : bless ss[m].name ss[p].name = true := hdH.out
          by_cases e : m = p
          · subst e; rw [bless_irrefl] at h'; cases h'
          · have := (List.pairwise_iff_getElem.1 hi) p m hpn hmn (by omega)
            exact bless_asymm h' this
        case measure => simp [intOf]; omega
    · obtain rfl : l = p := by omega
      obtain ⟨hpp, hst, hi, hp, hpl⟩ := hH.out
      obtain ⟨b, off, rfl, _, hcell⟩ := hpp (by omega)
      obtain ⟨j, hj⟩ : ∃ j, ps[l]? = some j := ⟨_, List.getElem?_eq_getElem (by omega)⟩
      have q0 : w.cell? ⟨b, off + l, none⟩ = some (.pointer (some ⟨j, 0, none⟩)) := cell_at hcell hj
      have q1 : w.cell? ⟨j, 0, none⟩ = some (.string s.name) := by rw [cell_of_row w j _ _ _ _ (hst l j s hj hp)]; rfl
      clear hpp hst hi hp hpl hcell hj
      go_wp2
      go_ret
      exact ⟨rfl, rfl⟩

/-- Names of a record increase. -/
def IncC (cs : List (ByteArray × Int)) : Prop := cs.Pairwise fun a b => bless a.1 b.1 = true

set_option maxRecDepth 100000 in
set_option maxHeartbeats 1000000 in
/-- zzStandingsIncreasing, over a list that increases. -/
theorem c23 (w : World) (v : Value) (ss : List St) (h : Lst w v ss) (hi : Inc ss) (hl : ss.length ≤ 1099511627776) : Calls Try.prog 23 #[v, .int .i64 ss.length] w fun e w' => e = .returned (.bool true) ∧ Qt w w' := by
  obtain ⟨ps, hpl, ⟨ao, c, rfl, _, _, _, hpp⟩, hst⟩ := h
  have hH := hid (And.intro hpp (And.intro hst (And.intro hi hpl)))
  clear hpp hst hi hpl
  go_enter Try.func23, Try.ntmps23
  go_wp2
  go_loopw [5] (fun i wr => ∃ k : Nat, 1 ≤ k ∧ (k ≤ ss.length ∨ k = 1) ∧ i = .int .i64 k ∧ Qt w wr) (fun i _ => ss.length - (intOf i).toNat)
  case atStart => exact ⟨1, by omega, Or.inr rfl, rfl, Qt.refl _⟩
  case round =>
    obtain ⟨k, hk1, hk, rfl, hq⟩ := hrel
    by_cases hlt : k < ss.length
    · obtain ⟨k', rfl⟩ : ∃ k', k = k' + 1 := ⟨k - 1, by omega⟩
      obtain ⟨hpp, hst, hi, hpl⟩ := hH.out
      obtain ⟨b, off, rfl, _, hcell⟩ := hpp (by omega)
      obtain ⟨j, hj⟩ : ∃ j, ps[k']? = some j := ⟨_, List.getElem?_eq_getElem (by omega)⟩
      obtain ⟨j2, hj2⟩ : ∃ j, ps[k' + 1]? = some j := ⟨_, List.getElem?_eq_getElem (by omega)⟩
      obtain ⟨t, ht⟩ : ∃ t, ss[k']? = some t := ⟨_, List.getElem?_eq_getElem (by omega)⟩
      obtain ⟨t2, ht2⟩ : ∃ t, ss[k' + 1]? = some t := ⟨_, List.getElem?_eq_getElem hlt⟩
      have q0 : wr.cell? ⟨b, off + k', none⟩ = some (.pointer (some ⟨j, 0, none⟩)) := (hq.cell _).trans (cell_at hcell hj)
      have q1 : wr.cell? ⟨b, off + (k' + 1), none⟩ = some (.pointer (some ⟨j2, 0, none⟩)) := (hq.cell _).trans (cell_at hcell hj2)
      have q2 : wr.cell? ⟨j, 0, none⟩ = some (.string t.name) := (hq.cell _).trans (by rw [cell_of_row w j _ _ _ _ (hst k' j t hj ht)]; rfl)
      have q3 : wr.cell? ⟨j2, 0, none⟩ = some (.string t2.name) := (hq.cell _).trans (by rw [cell_of_row w j2 _ _ _ _ (hst (k' + 1) j2 t2 hj2 ht2)]; rfl)
      have hd : Op.bytesLess t.name.toList t2.name.toList = true := by
        have := (List.pairwise_iff_getElem.1 hi) k' (k' + 1) (by omega) hlt (by omega)
        rw [List.getElem?_eq_getElem (by omega)] at ht
        rw [List.getElem?_eq_getElem hlt] at ht2
        cases ht; cases ht2; exact this
      have hqH := hid hq
      clear hpp hst hi hpl hcell hj hj2 ht ht2 hq
      go_wp2
      go_quiet (fail)
      go_wp2
      go_roundw
      case rel => exact ⟨k' + 1 + 1, by omega, by omega, by go_num, hqH.out.trans (Qt.drewN _ _)⟩
      case measure => simp [intOf]; omega
    · go_wp2
      go_ret
      exact ⟨rfl, hq⟩

set_option maxRecDepth 100000 in
set_option maxHeartbeats 1000000 in
/-- zzSearchCredits: a name that is there. -/
theorem c41 {T : Nat → Prop} (w : World) (v : Value) (ss : List (ByteArray × Int)) (p : Nat) (s : ByteArray × Int) (h : Rd T w v ss.length (flat2 ss)) (hi : IncC ss) (hp : ss[p]? = some s) (hl : ss.length ≤ 1099511627776) : Calls Try.prog 41 #[v, .string s.1] w fun e w' => e = .returned (.int .i64 p) ∧ w' = w := by
  obtain ⟨ao, c, rfl, _, _, _, hpp⟩ := h
  have hpn := (List.getElem?_eq_some_iff.1 hp).1
  have hH := hid (And.intro hpp (And.intro hi hp))
  clear hpp hi hp
  go_enter Try.func41, Try.ntmps41
  go_wp2
  go_loopw [5, 6, 7] (fun lo hv _ wr => ∃ (l u : Nat), l ≤ p ∧ p ≤ u ∧ u ≤ ss.length ∧ lo = .int .i64 l ∧ hv = .int .i64 u ∧ w = wr) (fun lo hv _ _ => (intOf hv).toNat - (intOf lo).toNat)
  case atStart => exact ⟨0, ss.length, by omega, by omega, by omega, rfl, rfl, rfl⟩
  case round =>
    obtain ⟨l, u, h1, h2, h3, rfl, rfl, rfl⟩ := hrel
    by_cases hlu : l < u
    · obtain ⟨hpp, hi, hp⟩ := hH.out
      obtain ⟨b, off, rfl, _, hcell⟩ := hpp (by omega)
      obtain ⟨m, hm⟩ : ∃ m : Nat, m = l + (u - l) / 2 := ⟨_, rfl⟩
      have em : (l : Int) + ((u : Int) - (l : Int)) / 2 = (m : Int) := by omega
      have hml : l ≤ m := by omega
      have hmu : m < u := by omega
      have hmn : m < ss.length := by omega
      clear hm
      obtain ⟨t, ht⟩ : ∃ t, ss[m]? = some t := ⟨_, List.getElem?_eq_getElem hmn⟩
      have q0 : w.cell? ⟨b, off + m * 2, none⟩ = some (.string t.1) := hcell (m * 2) _ (by have := flat2_get ss m 0 t ht (by omega); simpa [crc] using this)
      have hKH := hid (And.intro ht (And.intro hi hp))
      clear hpp hi hp hcell ht
      cases hd : Op.bytesLess t.1.toList s.1.toList
      · have hdH := hid hd
        go_wp2
        go_roundw
        case rel =>
          obtain ⟨ht, hi, hp⟩ := hKH.out
          refine ⟨l, m, h1, ?_, by omega, rfl, by go_num, trivial⟩
          refine Nat.le_of_not_lt fun hmp => ?_
          have := (List.pairwise_iff_getElem.1 hi) m p (by omega) hpn hmp
          rw [List.getElem?_eq_getElem hmn] at ht
          rw [List.getElem?_eq_getElem hpn] at hp
          cases ht; cases hp
          have h' : bless ss[m].1 ss[p].1 = false := hdH.out
          rw [this] at h'; cases h'
        case measure => simp [intOf]; omega
      · have hdH := hid hd
        go_wp2
        go_roundw
        case rel =>
          obtain ⟨ht, hi, hp⟩ := hKH.out
          refine ⟨m + 1, u, ?_, h2, h3, by go_num, rfl, trivial⟩
          refine Nat.le_of_not_lt fun hmp => ?_
          rw [List.getElem?_eq_getElem hmn] at ht
          rw [List.getElem?_eq_getElem hpn] at hp
          cases ht; cases hp
          have h' : bless ss[m].1 ss[p].1 = true := hdH.out
          by_cases e : m = p
          · subst e; rw [bless_irrefl] at h'; cases h'
          · have := (List.pairwise_iff_getElem.1 hi) p m hpn hmn (by omega)
            exact bless_asymm h' this
        case measure => simp [intOf]; omega
    · obtain rfl : l = p := by omega
      obtain ⟨hpp, hi, hp⟩ := hH.out
      obtain ⟨b, off, rfl, _, hcell⟩ := hpp (by omega)
      have q0 : w.cell? ⟨b, off + l * 2, none⟩ = some (.string s.1) := hcell (l * 2) _ (by have := flat2_get ss l 0 s hp (by omega); simpa [crc] using this)
      clear hpp hi hp hcell
      go_wp2
      go_ret
      exact ⟨rfl, rfl⟩

end Go.Proofs.Qxb6601232a
