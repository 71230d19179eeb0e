import Derived.Test.Qxb6601153aZZ
import Derived.Laws.ResultCell
namespace Go.Proofs.Qxb6601153a
open Go.RowKit
set_option linter.unusedVariables false
/-- What a merge leaves, of a log and an append that agree up to the snapshot. -/
theorem mres_sound {si st off un sb un' sb' : Int} {rs ap rs' : List Raw} {ch : Bool} (h : MRes si st off un sb rs ap rs' un' sb' ch) (hr : Runs off rs) (h1 : off ≤ si) (h2 : si ≤ off + rs.length) (h3 : off + rs.length < 18446744073709551615)
    (ht : off < si → ∀ r : Raw, rs[((si - off).toNat - 1)]? = some r → r.term = st) (ha : AppOk si off rs.length ap) (hag : ∀ r ∈ ap, r.idx ≤ si → termF si st off rs r.idx = some r.term) :
    un' ≤ un ∧ sb' ≤ sb ∧ Runs off rs' ∧ si ≤ off + rs'.length ∧ off + rs'.length ≤ 18446744073709551615 ∧ (off < si → ∀ r : Raw, rs'[((si - off).toNat - 1)]? = some r → r.term = st) ∧ ∀ r ∈ ap, termF si st off rs' r.idx = some r.term := by
  rcases h with ⟨hall, rfl, rfl, rfl, _⟩ | ⟨k, m, x, g1, g2, g3, g4, g5, rfl, rfl, rfl, _⟩
  · exact ⟨Int.le_refl _, Int.le_refl _, hr, h2, by omega, ht, hall⟩
  · have hxm : x ∈ ap := List.mem_of_getElem? g2
    have hxs : si < x.idx := by
      rcases Int.lt_or_le si x.idx with h | h
      · exact h
      · exact absurd (hag x hxm h) g3
    rcases ha with rfl | ⟨first, f1, f2, f3, f4⟩
    · simp at hxm
    have hkl : k < ap.length := (List.getElem?_eq_some_iff.1 g2).1
    have hx0 := f4 k x g2
    have hlen : (rs.take m ++ ap.drop k).length = m + (ap.length - k) := by simp; omega
    have hlo : ∀ (i : Nat), i < m → (rs.take m ++ ap.drop k)[i]? = rs[i]? := fun i hi => by
      rw [List.getElem?_append_left (by simp; omega), List.getElem?_take_of_lt hi]
    have hhi : ∀ (i : Nat), m ≤ i → (rs.take m ++ ap.drop k)[i]? = ap[k + (i - m)]? := fun i hi => by
      rw [List.getElem?_append_right (by simp; omega), List.getElem?_drop]
      congr 1; simp; omega
    refine ⟨by split <;> omega, by split <;> omega, ?_, by rw [hlen]; omega, by rw [hlen]; omega, ?_, ?_⟩
    · intro i r hi
      by_cases him : i < m
      · rw [hlo i him] at hi; exact hr i r hi
      · rw [hhi i (by omega)] at hi
        have := f4 _ r hi
        omega
    · intro hs r hi
      rw [hlo _ (by omega)] at hi
      exact ht hs r hi
    · intro r hrm
      obtain ⟨j, hj⟩ := List.getElem?_of_mem hrm
      have hjl : j < ap.length := (List.getElem?_eq_some_iff.1 hj).1
      have hri := f4 j r hj
      by_cases hjk : j < k
      · have hk := g1 j r hjk hj
        unfold termF at hk ⊢
        by_cases e : r.idx = si
        · rw [if_pos e] at hk ⊢; exact hk
        · rw [if_neg e] at hk ⊢
          split at hk
          · rename_i hc
            rw [if_pos ⟨hc.1, by rw [hlen]; omega⟩, hlo _ (by omega)]
            exact hk
          · cases hk
      · unfold termF
        rw [if_neg (by omega), if_pos ⟨by omega, by rw [hlen]; omega⟩, hhi _ (by omega)]
        have e : k + ((r.idx - off).toNat - 1 - m) = j := by omega
        rw [e, hj]; rfl

set_option maxRecDepth 100000 in
set_option maxHeartbeats 2000000 in
/-- ZZMerge, where the log has every entry. -/
theorem c13s {T : Nat → Prop} (w : World) (base : Nat) (si st off un sb : Int) (a1 a2 : Option Addr) (n1 n2 k1 k2 : Nat) (ev cv : Value) (hcs : ∃ a n c, cv = .slice a n c) (rs ap : List Raw) (av : Value)
    (hE : w.ownsRow base 61 4 ev rs.length (flat rs)) (b0 : 0 ≤ off) (b1 : off + rs.length ≤ 18446744073709551615) (b2 : rs.length ≤ 1048576) (ha : Rd T w av ap.length (flat ap)) (hix : IdxOk ap) (hptr : ∀ r ∈ ap, ∃ p, r.ch = .pointer p) (hcv : ∀ r ∈ ap, ∃ a n c, r.cv = .slice a n c)
    (hall : ∀ r ∈ ap, termF si st off rs r.idx = some r.term) (hn : ap.length ≤ 1048576) :
    Calls Try.prog 13 #[.agg #[.int .u64 si, .int .u64 st, .slice a1 n1 k1, .slice a2 n2 k2, .int .u64 off, ev, cv, .int .u64 un, .int .u64 sb], av] w fun e w' =>
      e = .returned (.tuple #[.agg #[.int .u64 si, .int .u64 st, .slice a1 n1 k1, .slice a2 n2 k2, .int .u64 off, ev, cv, .int .u64 un, .int .u64 sb], .bool false]) ∧ Fr All w w' := by
  obtain ⟨ac, nc, cc, rfl⟩ := hcs
  obtain ⟨ae, ne, ce, rfl⟩ := own_shape hE
  obtain ⟨aa, na, ca, rfl⟩ : ∃ a n c, av = .slice a n c := by obtain ⟨a, c, rfl, _⟩ := ha; exact ⟨_, _, _, rfl⟩
  go_enter Try.func13, Try.ntmps13
  go_wp2_with fail
  refine (c34 _ si st off un sb a1 a2 ae ac n1 n2 ne nc k1 k2 ce cc).mono ?_
  rintro e w1 ⟨rfl, hL, f1⟩
  go_wp2_with fail
  simp only [World.size_alloc] at hL
  have hR1 := f1.heap (heap_alloc_new (w.alloc (.cells #[.int .u64 si, .int .u64 st, .slice a1 n1 k1, .slice a2 n2 k2, .int .u64 off, .slice ae ne ce, .slice ac nc cc, .int .u64 un, .int .u64 sb] 38)) (.cells #[.int .u64 0, .int .u64 0, .slice none 0 0, .slice none 0 0, .int .u64 0, .slice none 0 0, .slice none 0 0, .int .u64 0, .int .u64 0] 38)) trivial
  simp only [World.size_alloc] at hR1
  have fA : Fr All w w1 := ((Fr.alloc _ _ _).tr (Fr.alloc _ _ _)).tr f1
  have hE1 := own_fr hE fA (fun _ _ => trivial)
  refine (c35_same w1 base (w.heap.size + 1 + 1 + 1) si st (.slice a1 n1 k1) (.slice a2 n2 k2) off (.slice ae ne ce) (.slice ac nc cc) un sb rs ap (.slice aa na ca) hL hE1 b0 b1 (by omega) (Rd.fr ha fA.any) hix hptr hcv hall (by omega)).mono ?_
  rintro e w2 ⟨rfl, f2⟩
  have hL2 := f2.heap hL trivial
  have hR2 := f2.heap hR1 trivial
  go_wp2_with fail
  refine (c36 w2 (w.heap.size + 1 + 1 + 1) si st off un sb a1 a2 ae ac n1 n2 ne nc k1 k2 ce cc hL2).mono ?_
  rintro e w3 ⟨rfl, f3⟩
  have hR3 := f3.heap hR2 trivial
  have h1c : (#[.int .u64 si, .int .u64 st, .slice a1 n1 k1, .slice a2 n2 k2, .int .u64 off, .slice ae ne ce, .slice ac nc cc, .int .u64 un, .int .u64 sb] : Array Value).all (·.oneCell') = true := by simp [Value.oneCell']
  go_wp2_with (refine wpList_store_row rfl 38 (.tmp 4) (.tmp 14) rfl (w.heap.size + 1) #[.int .u64 si, .int .u64 st, .slice a1 n1 k1, .slice a2 n2 k2, .int .u64 off, .slice ae ne ce, .slice ac nc cc, .int .u64 un, .int .u64 sb] rfl rfl 38 _ hR3 Try.size38 rfl h1c ?_)
  have hR4 := setRow_heap w3 (w.heap.size + 1) _ #[.int .u64 si, .int .u64 st, .slice a1 n1 k1, .slice a2 n2 k2, .int .u64 off, .slice ae ne ce, .slice ac nc cc, .int .u64 un, .int .u64 sb] 38 _ hR3
  have f4 : Fr (fun b => b ≠ w.heap.size + 1) w3 (w3.setRow (w.heap.size + 1) #[.int .u64 si, .int .u64 st, .slice a1 n1 k1, .slice a2 n2 k2, .int .u64 off, .slice ae ne ce, .slice ac nc cc, .int .u64 un, .int .u64 sb]) := Fr.setRow _ _ _ (by simp)
  refine bodyPost_ret (v := .tuple #[.agg #[.int .u64 si, .int .u64 st, .slice a1 n1 k1, .slice a2 n2 k2, .int .u64 off, .slice ae ne ce, .slice ac nc cc, .int .u64 un, .int .u64 sb], .bool false]) ?_ rfl ⟨rfl, ?_⟩
  · have hld := run_loadVar_row (P := Try.prog) _ (w.heap.size + 1) 38 38 _ (0, 0) _ hR4 Try.underlying38 rfl Try.size38
    rw [results_cell_tmp Try.results13]
    simp [asAddr, hld]
  · exact ((fA.tr f2).tr f3).trans f4 (fun i hi _ => ⟨trivial, by omega⟩)
end Go.Proofs.Qxb6601153a
