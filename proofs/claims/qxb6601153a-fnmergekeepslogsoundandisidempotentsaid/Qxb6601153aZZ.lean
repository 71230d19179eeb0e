/-
  SEAT b6601153a. merge AND ZZMerge, ALL WAYS IN ONE. By an AI agent.
-/
import Derived.Test.Qxb6601153aToLog
import Derived.Test.Qxb6601153aMerge2
import Derived.Laws.ResultCell
namespace Go.Proofs.Qxb6601153a
open Go.RowKit
set_option linter.unusedVariables false

/-- What merge does to a log. -/
def MRes (si st off un sb : Int) (rs ap rs' : List Raw) (un' sb' : Int) (ch : Bool) : Prop :=
  ((∀ r ∈ ap, termF si st off rs r.idx = some r.term) ∧ rs' = rs ∧ un' = un ∧ sb' = sb ∧ ch = false) ∨
  ∃ (k m : Nat) (x : Raw), (∀ (j : Nat) (r : Raw), j < k → ap[j]? = some r → termF si st off rs r.idx = some r.term) ∧ ap[k]? = some x ∧ termF si st off rs x.idx ≠ some x.term ∧ x.idx = off + m + 1 ∧ m ≤ rs.length ∧
    rs' = rs.take m ++ ap.drop k ∧ un' = (if m < rs.length then min un (off + m + 1) else un) ∧ sb' = (if m < rs.length then min sb (off + m) else sb) ∧
    ch = (decide ((chgs (rs.take m)).length < (chgs rs).length) || decide ((chgs (rs.take m)).length < (chgs rs').length))

theorem first_conf (P : Raw → Prop) (ap : List Raw) : (∀ r ∈ ap, P r) ∨ ∃ (k : Nat) (x : Raw), (∀ (j : Nat) (r : Raw), j < k → ap[j]? = some r → P r) ∧ ap[k]? = some x ∧ ¬ P x := by
  induction ap with
  | nil => left; simp
  | cons a l ih =>
    by_cases ha : P a
    · rcases ih with h | ⟨k, x, h1, h2, h3⟩
      · left; intro r hr; rcases List.mem_cons.1 hr with rfl | hr
        · exact ha
        · exact h r hr
      · right
        refine ⟨k + 1, x, fun j r hj hr => ?_, by simpa using h2, h3⟩
        cases j with
        | zero => simp at hr; subst hr; exact ha
        | succ j => exact h1 j r (by omega) (by simpa using hr)
    · right; exact ⟨0, a, fun j r hj => by omega, rfl, ha⟩

theorem termF_known {si st off : Int} {rs : List Raw} {i t : Int} (h : termF si st off rs i = some t) (hlo : off ≤ si) (hhi : si ≤ off + rs.length) : off ≤ i ∧ i ≤ off + rs.length := by
  unfold termF at h
  split at h
  · omega
  · split at h
    · omega
    · cases h

/-- Where the first entry that does not match lies. -/
theorem conf_at {si st off : Int} {rs ap : List Raw} (hlo : off ≤ si) (hhi : si ≤ off + rs.length) (ha : AppOk si off rs.length ap) {k : Nat} {x : Raw} (h1 : ∀ (j : Nat) (r : Raw), j < k → ap[j]? = some r → termF si st off rs r.idx = some r.term) (h2 : ap[k]? = some x) :
    ∃ m : Nat, m ≤ rs.length ∧ x.idx = off + m + 1 := by
  rcases ha with rfl | ⟨first, f1, f2, f3, f4⟩
  · simp at h2
  · have hx := f4 k x h2
    have hb : off ≤ first + k - 1 ∧ first + k - 1 ≤ off + rs.length := by
      cases k with
      | zero => omega
      | succ k =>
        have hk : k < ap.length := by have := (List.getElem?_eq_some_iff.1 h2).1; omega
        have hr : ap[k]? = some ap[k] := by simp
        have := termF_known (h1 k ap[k] (by omega) hr) hlo hhi
        have := f4 k ap[k] hr
        omega
    exact ⟨(first + k - 1 - off).toNat, by omega, by omega⟩

/-- merge. -/
theorem c35 {T : Nat → Prop} (w : World) (base L : Nat) (si st : Int) (vo le : Value) (off : Int) (ev cv : Value) (un sb : Int) (rs ap : List Raw) (av : Value) (hL : Lg w L si st vo le off ev cv un sb)
    (hE : w.ownsRow base 61 4 ev rs.length (flat rs)) (hC : w.ownsRow base 22 1 cv (chgs rs).length ((chgs rs).map (Value.int .u64))) (hb : base ≤ w.heap.size) (b0 : 0 ≤ off) (b1 : off + rs.length < 18446744073709551615) (b2 : rs.length ≤ 1048576) (ha : Rd T w av ap.length (flat ap)) (hix : IdxOk ap) (hptr : ∀ r ∈ ap, ∃ p, r.ch = .pointer p) (hcv : ∀ r ∈ ap, ∃ a n c, r.cv = .slice a n c)
    (hT : ∀ b, T b → b ≠ L ∧ ev.ownBlock ≠ some b ∧ cv.ownBlock ≠ some b) (hidx : Runs off rs) (hlo : off ≤ si) (hhi : si ≤ off + rs.length) (hap : AppOk si off rs.length ap) (hn : ap.length ≤ 1048576) :
    Calls Try.prog 35 #[.pointer (some ⟨L, 0, none⟩), av] w fun e w' => ∃ rs' un' sb' ch ev' cv', e = .returned (.bool ch) ∧ MRes si st off un sb rs ap rs' un' sb' ch ∧ Lg w' L si st vo le off ev' cv' un' sb' ∧
      w'.ownsRow base 61 4 ev' rs'.length (flat rs') ∧ w'.ownsRow base 22 1 cv' (chgs rs').length ((chgs rs').map (Value.int .u64)) ∧ Fr T w w' := by
  rcases first_conf (fun r => termF si st off rs r.idx = some r.term) ap with hall | ⟨k, x, h1, h2, h3⟩
  · refine (c35_same w base L si st vo le off ev cv un sb rs ap av hL hE b0 (by omega) (by omega) ha hix hptr hcv hall (by omega)).mono ?_
    rintro e w' ⟨rfl, f⟩
    exact ⟨rs, un, sb, false, ev, cv, rfl, .inl ⟨hall, rfl, rfl, rfl, rfl⟩, f.heap hL trivial, own_fr hE f (fun _ _ => trivial), own_fr hC f (fun _ _ => trivial), f.any⟩
  · obtain ⟨m, hm, hxm⟩ := conf_at hlo hhi hap h1 h2
    by_cases hmn : m < rs.length
    · refine (c35_conf w base L si st vo le off ev cv un sb rs ap av k m x hL hE hC hb b0 b1 b2 ha hix hptr hcv hT hidx h1 h2 h3 hxm hmn hn).mono ?_
      rintro e w' ⟨rfl, ev', cv', hL', hE', hC', f⟩
      exact ⟨_, _, _, _, ev', cv', rfl, .inr ⟨k, m, x, h1, h2, h3, hxm, hm, rfl, rfl, rfl, rfl⟩, hL', hE', hC', f⟩
    · obtain rfl : m = rs.length := by omega
      refine (c35_beyond w base L si st vo le off ev cv un sb rs ap av k x hL hE hC hb b0 b1 b2 ha hix hptr hcv hT hidx h1 h2 h3 hxm hn).mono ?_
      rintro e w' ⟨rfl, ev', cv', hL', hE', hC', f⟩
      exact ⟨_, _, _, _, ev', cv', rfl, .inr ⟨k, rs.length, x, h1, h2, h3, hxm, hm, by rw [List.take_length], rfl, rfl, rfl⟩, hL', hE', hC', f⟩

set_option maxRecDepth 100000 in
set_option maxHeartbeats 2000000 in
/-- ZZMerge. -/
theorem c13 {T : Nat → Prop} (w : World) (base : Nat) (si st off un sb : Int) (a1 a2 : Option Addr) (n1 n2 k1 k2 : Nat) (ev cv : Value) (rs ap : List Raw) (av : Value)
    (hE : w.ownsRow base 61 4 ev rs.length (flat rs)) (hC : w.ownsRow base 22 1 cv (chgs rs).length ((chgs rs).map (Value.int .u64))) (hb : base ≤ w.heap.size) (b0 : 0 ≤ off) (b1 : off + rs.length < 18446744073709551615) (b2 : rs.length ≤ 1048576) (ha : Rd T w av ap.length (flat ap)) (hix : IdxOk ap) (hptr : ∀ r ∈ ap, ∃ p, r.ch = .pointer p) (hcv : ∀ r ∈ ap, ∃ a n c, r.cv = .slice a n c)
    (hT : ∀ b, T b → ev.ownBlock ≠ some b ∧ cv.ownBlock ≠ some b) (hidx : Runs off rs) (hlo : off ≤ si) (hhi : si ≤ off + rs.length) (hap : AppOk si off rs.length ap) (hn : ap.length ≤ 1048576) :
    Calls Try.prog 13 #[.agg #[.int .u64 si, .int .u64 st, .slice a1 n1 k1, .slice a2 n2 k2, .int .u64 off, ev, cv, .int .u64 un, .int .u64 sb], av] w fun e w' => ∃ rs' un' sb' ch ev' cv',
      e = .returned (.tuple #[.agg #[.int .u64 si, .int .u64 st, .slice a1 n1 k1, .slice a2 n2 k2, .int .u64 off, ev', cv', .int .u64 un', .int .u64 sb'], .bool ch]) ∧ MRes si st off un sb rs ap rs' un' sb' ch ∧
      w'.ownsRow base 61 4 ev' rs'.length (flat rs') ∧ w'.ownsRow base 22 1 cv' (chgs rs').length ((chgs rs').map (Value.int .u64)) ∧ Fr T w w' := by
  obtain ⟨ae, ne, ce, rfl⟩ := own_shape hE
  obtain ⟨ac, nc, cc, rfl⟩ := own_shape hC
  obtain ⟨aa, na, ca, rfl⟩ : ∃ a n c, av = .slice a n c := by obtain ⟨a, c, rfl, _⟩ := ha; exact ⟨_, _, _, rfl⟩
  go_enter Try.func13, Try.ntmps13
  go_wp2_with fail
  refine (c34 _ si st off un sb a1 a2 ae ac n1 n2 ne nc k1 k2 ce cc).mono ?_
  rintro e w1 ⟨rfl, hL, f1⟩
  go_wp2_with fail
  simp only [World.size_alloc] at hL
  have hR1 := f1.heap (heap_alloc_new (w.alloc (.cells #[.int .u64 si, .int .u64 st, .slice a1 n1 k1, .slice a2 n2 k2, .int .u64 off, .slice ae ne ce, .slice ac nc cc, .int .u64 un, .int .u64 sb] 38)) (.cells #[.int .u64 0, .int .u64 0, .slice none 0 0, .slice none 0 0, .int .u64 0, .slice none 0 0, .slice none 0 0, .int .u64 0, .int .u64 0] 38)) trivial
  simp only [World.size_alloc] at hR1
  have fA : Fr All w w1 := ((Fr.alloc _ _ _).tr (Fr.alloc _ _ _)).tr f1
  have hE1 := own_fr hE fA (fun _ _ => trivial)
  have hC1 := own_fr hC fA (fun _ _ => trivial)
  have ha1 : Rd (fun b => (T b ∧ b < w.heap.size) ∨ b = w.heap.size + 1) w1 (.slice aa na ca) ap.length (flat ap) :=
    Rd.fr (Rd.mono' ha (fun h0 e => by have := congrArg List.length e; rw [length_flat] at this; simp at this; omega) (fun i hi h => .inl ⟨h, hi⟩)) fA.any
  have hT1 : ∀ b, ((T b ∧ b < w.heap.size) ∨ b = w.heap.size + 1) → b ≠ w.heap.size + 1 + 1 + 1 ∧ (Value.slice ae ne ce).ownBlock ≠ some b ∧ (Value.slice ac nc cc).ownBlock ≠ some b := by
    rintro b (⟨h, hl⟩ | rfl)
    · exact ⟨by omega, hT b h⟩
    · exact ⟨by omega, fun e => by have := (hE.lt _ e).2; omega, fun e => by have := (hC.lt _ e).2; omega⟩
  refine (c35 w1 base (w.heap.size + 1 + 1 + 1) si st (.slice a1 n1 k1) (.slice a2 n2 k2) off (.slice ae ne ce) (.slice ac nc cc) un sb rs ap (.slice aa na ca) hL hE1 hC1 (Nat.le_trans hb fA.size) b0 b1 b2 ha1 hix hptr hcv hT1 hidx hlo hhi hap hn).mono ?_
  rintro e w2 ⟨rs', un', sb', ch, ev', cv', rfl, hM, hL2, hE2, hC2, f2⟩
  obtain ⟨ae', ne', ce', rfl⟩ := own_shape hE2
  obtain ⟨ac', nc', cc', rfl⟩ := own_shape hC2
  have hR2 := f2.heap hR1 (.inr rfl)
  go_wp2_with fail
  refine (c36 w2 (w.heap.size + 1 + 1 + 1) si st off un' sb' a1 a2 ae' ac' n1 n2 ne' nc' k1 k2 ce' cc' hL2).mono ?_
  rintro e w3 ⟨rfl, f3⟩
  have hR3 := f3.heap hR2 trivial
  have h1c : (#[Value.int .u64 si, .int .u64 st, .slice a1 n1 k1, .slice a2 n2 k2, .int .u64 off, .slice ae' ne' ce', .slice ac' nc' cc', .int .u64 un', .int .u64 sb'] : Array Value).all (·.oneCell') = true := by simp [Value.oneCell']
  go_wp2_with (refine wpList_store_row rfl 38 (.tmp 4) (.tmp 14) rfl (w.heap.size + 1) #[.int .u64 si, .int .u64 st, .slice a1 n1 k1, .slice a2 n2 k2, .int .u64 off, .slice ae' ne' ce', .slice ac' nc' cc', .int .u64 un', .int .u64 sb'] rfl rfl 38 _ hR3 Try.size38 rfl h1c ?_)
  have hR4 := setRow_heap w3 (w.heap.size + 1) _ #[.int .u64 si, .int .u64 st, .slice a1 n1 k1, .slice a2 n2 k2, .int .u64 off, .slice ae' ne' ce', .slice ac' nc' cc', .int .u64 un', .int .u64 sb'] 38 _ hR3
  have f4 : Fr (fun b => b ≠ w.heap.size + 1) w3 (w3.setRow (w.heap.size + 1) #[.int .u64 si, .int .u64 st, .slice a1 n1 k1, .slice a2 n2 k2, .int .u64 off, .slice ae' ne' ce', .slice ac' nc' cc', .int .u64 un', .int .u64 sb']) := Fr.setRow _ _ _ (by simp)
  have hE3 := own_fr hE2 f3 (fun _ _ => trivial)
  have hC3 := own_fr hC2 f3 (fun _ _ => trivial)
  refine bodyPost_ret (v := .tuple #[.agg #[.int .u64 si, .int .u64 st, .slice a1 n1 k1, .slice a2 n2 k2, .int .u64 off, .slice ae' ne' ce', .slice ac' nc' cc', .int .u64 un', .int .u64 sb'], .bool ch]) ?_ rfl ⟨rs', un', sb', ch, _, _, rfl, hM, ?_, ?_, ?_⟩
  · have hld := run_loadVar_row (P := Try.prog) _ (w.heap.size + 1) 38 38 _ (0, 0) _ hR4 Try.underlying38 rfl Try.size38
    rw [results_cell_tmp Try.results13]
    simp [asAddr, hld]
  · exact own_fr hE3 f4 (fun b hb e => own_ne hE3 hR3 (by decide) (e ▸ hb))
  · exact own_fr hC3 f4 (fun b hb e => own_ne hC3 hR3 (by decide) (e ▸ hb))
  · have g1 : Fr T w w2 := fA.trans f2 (fun i hi h => ⟨trivial, .inl ⟨h, hi⟩⟩)
    exact (g1.tr f3.any).trans f4 (fun i hi h => ⟨h, by omega⟩)

end Go.Proofs.Qxb6601153a
