/-
  SEAT b6601232a. TWO LEDGERS SIDE BY SIDE. By an AI agent.
-/
import Derived.Test.Qxb6601232aPart
import Derived.Test.Qxb6601232aName2
import Derived.Test.Qxb6601232aSize
import Derived.Test.Qxb6601232aNew
namespace Go.Proofs.Qxb6601232a
open Go.RowKit
set_option linter.unusedVariables false
set_option linter.unusedSimpArgs false

/-- The blocks of a ledger are there. -/
theorem LedV.bound {w : World} {S : Nat → Prop} {L : Nat} {qs : List (Nat × St)} {srt : Int} {lv t3 t4 : Value} (h : LedV w S L qs srt lv t3 t4) : LedV w (fun x => S x ∧ x < w.heap.size) L qs srt lv t3 t4 := by
  obtain ⟨sL, ⟨mb, D, hr, sM, hm⟩, own, sB, st⟩ := h
  exact ⟨⟨sL, heap_lt hr⟩, ⟨mb, D, hr, ⟨sM, hm.1.lt⟩, hm⟩, own, fun g hg => ⟨sB g hg, own_lt own hg⟩, fun q hq => ⟨⟨(st q hq).1, heap_lt (st q hq).2.1⟩, (st q hq).2⟩⟩

/-- One ledger of a pair; K names what it must leave alone. -/
def One (W : World) (K : Nat → Prop) (S : Nat → Prop) (L : Nat) (ss : List St) (srt : Int) (lv t3 t4 : Value) (qs : List (Nat × St)) : Prop := LedV W S L qs srt lv t3 t4 ∧ qs.map Prod.snd = ss ∧ (names ss).Nodup ∧ (∀ b, S b → b < W.heap.size) ∧ ∀ b, K b → ¬ S b

/-- Two ledgers side by side; whatever K names is left alone by both. -/
def Two (W0 W : World) (K : Nat → Prop) (L1 : Nat) (ss1 : List St) (srt1 : Int) (lv1 t31 t41 : Value) (L2 : Nat) (ss2 : List St) (srt2 : Int) (lv2 t32 t42 : Value) : Prop :=
  ∃ S1 S2 qs1 qs2, One W K S1 L1 ss1 srt1 lv1 t31 t41 qs1 ∧ One W K S2 L2 ss2 srt2 lv2 t32 t42 qs2 ∧ (∀ b, S1 b → ¬ S2 b) ∧ Fr K W0 W ∧ ∀ b, K b → b < W0.heap.size

theorem Two.swap {W0 W : World} {K : Nat → Prop} {L1 : Nat} {ss1 : List St} {srt1 : Int} {lv1 t31 t41 : Value} {L2 : Nat} {ss2 : List St} {srt2 : Int} {lv2 t32 t42 : Value} (h : Two W0 W K L1 ss1 srt1 lv1 t31 t41 L2 ss2 srt2 lv2 t32 t42) :
    Two W0 W K L2 ss2 srt2 lv2 t32 t42 L1 ss1 srt1 lv1 t31 t41 := by
  obtain ⟨S1, S2, q1, q2, o1, o2, d, f, k⟩ := h
  exact ⟨S2, S1, q2, q1, o2, o1, fun b h2 h1 => d b h1 h2, f, k⟩

/-- takePart on the first. -/
theorem Two.part {W0 W : World} {K : Nat → Prop} {L1 : Nat} {ss1 : List St} {srt1 : Int} {lv1 t31 t41 : Value} {L2 : Nat} {ss2 : List St} {srt2 : Int} {lv2 t32 t42 : Value} (h : Two W0 W K L1 ss1 srt1 lv1 t31 t41 L2 ss2 srt2 lv2 t32 t42)
    (num : Int) (hv av mv : Value) (H A M : List ByteArray) (h1 : Strs K W0 hv H) (h2 : Strs K W0 av A) (h3 : Strs K W0 mv M) (hsz : ∀ n ∈ H ++ A ++ M, n.size ≤ maxLen) (hlen : ss1.length + H.length + A.length + M.length ≤ 1099511627776) :
    Calls Try.prog 32 #[.pointer (some ⟨L1, 0, none⟩), .agg #[.int .u64 num, hv, av, mv]] W fun e W' => e = .returned (.tuple #[]) ∧ ∃ lv1', Two W0 W' K L1 (part ss1 H A M) srt1 lv1' t31 t41 L2 ss2 srt2 lv2 t32 t42 := by
  obtain ⟨S1, S2, q1, q2, ⟨a1, a2, a3, a4, a5⟩, ⟨b1, b2, b3, b4, b5⟩, d, f, k⟩ := h
  refine (c32 (T := K) W S1 L1 q1 ss1 srt1 num lv1 t31 t41 hv av mv H A M a1 a2 a3 a4 a5 (Rd.fr h1 f) (Rd.fr h2 f) (Rd.fr h3 f) hsz hlen).mono ?_
  rintro e W' ⟨rfl, q1', lv1', r1, r2, r3⟩
  refine ⟨rfl, lv1', _, S2, q1', q2, ⟨r1.bound, r2, nodup_part a3 _ _ _, fun b hb => hb.2, fun b hb hx => ?_⟩, ⟨b1.fr r3 (fun b hb h1 => d b h1 hb), b2, b3, fun b hb => Nat.lt_of_lt_of_le (b4 b hb) r3.size, b5⟩, fun b hb h2 => ?_, f.tr (r3.mono fun i hi hK => a5 i hK), k⟩
  · rcases hx.1 with h | h
    · exact a5 b hb h
    · have := k b hb; have := f.size; omega
  · rcases hb.1 with h | h
    · exact d b h h2
    · have := b4 b h2; omega

/-- byName on the first. -/
theorem Two.name {W0 W : World} {K : Nat → Prop} {L1 : Nat} {ss1 : List St} {s : Nat} {lv1 t31 t41 : Value} {L2 : Nat} {ss2 : List St} {srt2 : Int} {lv2 t32 t42 : Value} (h : Two W0 W K L1 ss1 s lv1 t31 t41 L2 ss2 srt2 lv2 t32 t42)
    (hs : s ≤ ss1.length) (hi : Inc (ss1.take s)) (hlen : ss1.length ≤ 1099511627776) :
    Calls Try.prog 21 #[.pointer (some ⟨L1, 0, none⟩)] W fun e W' => e = .returned lv1 ∧ ∃ ss1', Two W0 W' K L1 ss1' ss1.length lv1 t31 t41 L2 ss2 srt2 lv2 t32 t42 ∧ ss1'.Perm ss1 ∧ Inc ss1' := by
  obtain ⟨S1, S2, q1, q2, ⟨a1, a2, a3, a4, a5⟩, ⟨b1, b2, b3, b4, b5⟩, d, f, k⟩ := h
  have hl : q1.length = ss1.length := by rw [← a2]; simp
  have hinc : Incq (q1.take s) := by
    unfold Inc at hi
    rw [← a2, ← List.map_take, List.pairwise_map] at hi
    exact hi
  refine (c21 W S1 L1 s q1 lv1 t31 t41 a1 (by rw [a2]; exact a3) (by omega) hinc (by omega)).mono ?_
  rintro e W' ⟨rfl, q1', r1, r2, r3, r4, -⟩
  rw [hl] at r1
  have hp : (q1'.map Prod.snd).Perm ss1 := by rw [← a2]; exact r2.map _
  refine ⟨rfl, q1'.map Prod.snd, ⟨S1, S2, q1', q2, ⟨r1, rfl, (perm_names hp).nodup_iff.2 a3, fun b hb => Nat.lt_of_lt_of_le (a4 b hb) r4.size, a5⟩, ⟨b1.fr r4 (fun b hb h1 => d b h1 hb), b2, b3, fun b hb => Nat.lt_of_lt_of_le (b4 b hb) r4.size, b5⟩, d, f.tr (r4.mono fun i hi hK => a5 i hK), k⟩, hp, r3⟩

/-- The first list, as a reader finds it. -/
theorem Two.read {W0 W : World} {K : Nat → Prop} {L1 : Nat} {ss1 : List St} {srt1 : Int} {lv1 t31 t41 : Value} {L2 : Nat} {ss2 : List St} {srt2 : Int} {lv2 t32 t42 : Value} (h : Two W0 W K L1 ss1 srt1 lv1 t31 t41 L2 ss2 srt2 lv2 t32 t42) :
    ∃ ps : List Nat, ps.length = ss1.length ∧ Rd All W lv1 ps.length (ps.map ptr) ∧ ∀ (j : Nat) (p : Nat) (s : St), ps[j]? = some p → ss1[j]? = some s → W.heap[p]? = some (.cells s.cells 48 (0, 0)) := by
  obtain ⟨S1, S2, q1, q2, ⟨a1, a2, a3, a4, a5⟩, _⟩ := h
  refine ⟨q1.map Prod.fst, by rw [← a2]; simp, ?_, fun j p s hp hs => ?_⟩
  · have := Rd.own (T := All) a1.own (fun _ _ _ => trivial)
    rw [List.length_map, List.map_map]; exact this
  · rw [← a2] at hs
    rw [List.getElem?_map] at hp hs
    cases hq : q1[j]? with
    | none => rw [hq] at hp; cases hp
    | some q =>
      rw [hq] at hp hs
      simp at hp hs; subst hp; subst hs
      exact (a1.st q (List.mem_of_getElem? hq)).2.1

/-- From the increasing names to an increasing list. -/
theorem incN_pw {ns : List ByteArray} {s : Nat} (h : IncN ns s) : ∀ i j a b, i < j → j < s → ns[i]? = some a → ns[j]? = some b → bless a b = true := by
  intro i j a b hij hjs ha hb
  obtain ⟨d, rfl⟩ : ∃ d, j = i + 1 + d := ⟨j - i - 1, by omega⟩
  induction d generalizing b with
  | zero => exact h i a b hjs ha hb
  | succ d ih =>
    have hjl := (List.getElem?_eq_some_iff.1 hb).1
    obtain ⟨c, hc⟩ : ∃ c, ns[i + 1 + d]? = some c := ⟨_, List.getElem?_eq_getElem (by omega)⟩
    exact bless_trans (ih c (by omega) (by omega) hc) (h (i + 1 + d) c b (by omega) hc hb)
theorem inc_of_pre {ns t : List ByteArray} {ss : List St} {s : Nat} (h : IncN ns s) (hs : s ≤ ns.length) (he : names ss = ns ++ t) : Inc (ss.take s) := by
  have e : (ss.take s).map St.name = ns.take s := by
    have : (names ss).take s = ns.take s := by rw [he, List.take_append_of_le_length hs]
    rw [← this]; simp [names, List.map_take]
  unfold Inc
  have : ((ss.take s).map St.name).Pairwise (fun a b => bless a b = true) := by
    rw [e, List.pairwise_iff_getElem]
    intro i j hi hj hij
    simp at hi hj
    exact incN_pw h i j _ _ hij (by omega) (by simp [hi]) (by simp [hj])
  rwa [List.pairwise_map] at this

/-- The pair as it is laid. -/
theorem two_of {W0 W1 W2 : World} {ss : List St} {srt : Int} {L1 L2 : Nat} {qs1 qs2 : List (Nat × St)} {lv1 lv2 t3 t4 t3' t4' : Value} (hn : (names ss).Nodup) (h1 : LedV W1 (fun x => W0.heap.size ≤ x) L1 qs1 srt lv1 t3 t4) (e1 : qs1.map Prod.snd = ss) (f1 : Fr All W0 W1)
    (h2 : LedV W2 (fun x => W1.heap.size ≤ x) L2 qs2 srt lv2 t3' t4') (e2 : qs2.map Prod.snd = ss) (f2 : Fr All W1 W2) :
    Two W0 W2 (fun b => b < W0.heap.size) L1 ss srt lv1 t3 t4 L2 ss srt lv2 t3' t4' := by
  refine ⟨_, _, qs1, qs2, ⟨h1.bound.fr f2 (fun _ _ => trivial), e1, hn, fun b hb => Nat.lt_of_lt_of_le hb.2 f2.size, fun b hb h => ?_⟩, ⟨h2.bound, e2, hn, fun b hb => hb.2, fun b hb h => ?_⟩, fun b hb h => ?_, (f1.tr f2).any, fun b hb => hb⟩
  · have := h.1; omega
  · have := h.1; have := f1.size; omega
  · have := hb.2; have := h.1; omega
/-- .. and while other blocks are laid and written. -/
theorem Two.fr {W0 W W' : World} {K : Nat → Prop} {L1 : Nat} {ss1 : List St} {srt1 : Int} {lv1 t31 t41 : Value} {L2 : Nat} {ss2 : List St} {srt2 : Int} {lv2 t32 t42 : Value} (h : Two W0 W K L1 ss1 srt1 lv1 t31 t41 L2 ss2 srt2 lv2 t32 t42) (f : Fr (fun b => b < W.heap.size) W W') :
    Two W0 W' K L1 ss1 srt1 lv1 t31 t41 L2 ss2 srt2 lv2 t32 t42 := by
  obtain ⟨S1, S2, q1, q2, ⟨a1, a2, a3, a4, a5⟩, ⟨b1, b2, b3, b4, b5⟩, d, f0, k⟩ := h
  exact ⟨S1, S2, q1, q2, ⟨a1.fr f a4, a2, a3, fun b hb => Nat.lt_of_lt_of_le (a4 b hb) f.size, a5⟩, ⟨b1.fr f b4, b2, b3, fun b hb => Nat.lt_of_lt_of_le (b4 b hb) f.size, b5⟩, d, f0.tr (f.mono fun i hi hK => hi), k⟩
/-- .. and with two blocks more to be left alone. -/
theorem Two.keep {W0 W W' : World} {K : Nat → Prop} {L1 : Nat} {ss1 : List St} {srt1 : Int} {lv1 t31 t41 : Value} {L2 : Nat} {ss2 : List St} {srt2 : Int} {lv2 t32 t42 : Value} (h : Two W0 W K L1 ss1 srt1 lv1 t31 t41 L2 ss2 srt2 lv2 t32 t42) (f : Fr (fun b => b < W.heap.size) W W') :
    Two W' W' (fun b => K b ∨ (W.heap.size ≤ b ∧ b < W'.heap.size)) L1 ss1 srt1 lv1 t31 t41 L2 ss2 srt2 lv2 t32 t42 := by
  have hf0 : W0.heap.size ≤ W.heap.size := by obtain ⟨_, _, _, _, _, _, _, f0, _⟩ := h; exact f0.size
  have hk : ∀ b, K b → b < W0.heap.size := by obtain ⟨_, _, _, _, _, _, _, _, k⟩ := h; exact k
  obtain ⟨S1, S2, q1, q2, ⟨a1, a2, a3, a4, a5⟩, ⟨b1, b2, b3, b4, b5⟩, d, f0, k⟩ := h
  refine ⟨S1, S2, q1, q2, ⟨a1.fr f a4, a2, a3, fun b hb => Nat.lt_of_lt_of_le (a4 b hb) f.size, fun b hb h => ?_⟩, ⟨b1.fr f b4, b2, b3, fun b hb => Nat.lt_of_lt_of_le (b4 b hb) f.size, fun b hb h => ?_⟩, d, Fr.refl _ _, fun b hb => ?_⟩
  · rcases hb with hb | hb
    · exact a5 b hb h
    · have := a4 b h; omega
  · rcases hb with hb | hb
    · exact b5 b hb h
    · have := b4 b h; omega
  · rcases hb with hb | hb
    · have := hk b hb; have := f.size; omega
    · exact hb.2

end Go.Proofs.Qxb6601232a
