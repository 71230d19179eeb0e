/-
  SEAT b6601232a. slices.SortFunc AT []*Standing, BY NAME. By an AI agent.
-/
import Derived.Test.Qxb6601232aCmp
import Derived.Shelf.SlSortCmp.Whole1
import Derived.Shelf.SlGeneric
import Derived.Ground.SlsfProg
namespace Go.Proofs.Qxb6601232a
open Go.RowKit Go.Shelf Go.Lib Go.Sort Go.Proofs
set_option linter.unusedVariables false
set_option linter.unusedSimpArgs false
set_option maxRecDepth 100000
shelf_lay_g SlLaysF.n6 Slsf 6 at Try 52 as Try.sortF

/-- A standing that lies elsewhere than the row that is sorted. -/
def At (w : World) (g : Nat) (q : Nat × St) : Prop := w.cell? ⟨q.1, 0, none⟩ = some (.string q.2.name) ∧ q.1 ≠ g
abbrev Sd (w : World) (g : Nat) : Type := { q : Nat × St // At w g q }
def encS {w : World} {g : Nat} (q : Sd w g) : Value := ptr q.1.1
def cfS {w : World} {g : Nat} (x y : Sd w g) : Int := Lib.compareBytes x.1.2.name.data.toList y.1.2.name.data.toList
theorem ltS {w : World} {g : Nat} (x y : Sd w g) : ltOf cfS x y = bless x.1.2.name y.1.2.name := by
  unfold ltOf cfS bless
  rw [cmp_lt, ByteArray.toList_eq, ByteArray.toList_eq]
theorem swoS {w : World} {g : Nat} : SWO (ltOf (cfS (w := w) (g := g))) where
  irrefl x := by rw [ltS]; exact bless_irrefl _
  trans x y z h1 h2 := by rw [ltS] at *; exact bless_trans h1 h2
  ntrans x y z h1 h2 := by
    rw [ltS] at *
    cases h : bless x.1.2.name z.1.2.name with
    | false => rfl
    | true =>
      rcases bless_total y.1.2.name x.1.2.name with k | k | k
      · have := bless_trans k h; rw [h2] at this; cases this
      · rw [k, h] at h2; cases h2
      · rw [h1] at k; cases k
theorem heap_sortWorld {α : Type} [Inhabited α] (enc : α → Value) (w : World) (blk off m : Nat) (d : Array α) (os : Array Obj) : Fr (fun x => x ≠ blk) w (sortWorld enc w blk off m d os) := by
  refine ⟨rfl, rfl, rfl, ?_, fun k hk hT => ?_⟩
  · simp [sortWorld, grow, putRow, mapBlock, Sort.ahead]
  · simp only [sortWorld, grow, putRow, mapBlock, Sort.ahead]
    rw [Array.getElem?_append_left (by simpa using hk)]
    rw [Array.getElem?_modify, if_neg (by omega)]

/-- What the sort leaves of the row. -/
def Sorted (w : World) (v : Value) (F : List (Nat × St)) (e : Ending) (w' : World) : Prop :=
  e = .returned (.tuple #[]) ∧ ∃ F', F'.Perm F ∧ Incq F' ∧ Fr (fun x => v.ownBlock ≠ some x) w w' ∧ Rd All w' v F.length (F'.map fun q => ptr q.1)

theorem pmap_val {P : Nat × St → Prop} (l : List (Nat × St)) (h : ∀ q ∈ l, P q) : (l.pmap (fun q hq => (⟨q, hq⟩ : { q // P q })) h).map Subtype.val = l := by
  induction l with
  | nil => rfl
  | cons a l ih => simp [ih]
theorem incq_of {F : List (Nat × St)} (hn : (names (F.map Prod.snd)).Nodup) (h : ∀ i j : Nat, ∀ p q, i < j → F[i]? = some p → F[j]? = some q → bless q.2.name p.2.name = false) : Incq F := by
  unfold Incq
  rw [List.pairwise_iff_getElem]
  intro i j hi hj hij
  have h1 := h i j F[i] F[j] hij (by simp) (by simp)
  rcases bless_total F[i].2.name F[j].2.name with k | k | k
  · exact k
  · unfold names List.Nodup at hn
    rw [List.map_map, List.pairwise_map, List.pairwise_iff_getElem] at hn
    exact absurd k (hn i j hi hj hij)
  · rw [h1] at k; cases k

/-- slices.SortFunc. -/
theorem c52_pos (w : World) (g cap : Nat) (F : List (Nat × St)) (hpos : 0 < F.length) (hA : ∀ q ∈ F, At w g q) (hn : (names (F.map Prod.snd)).Nodup) (hcap : F.length ≤ cap ∧ cap ≤ maxLen) (hl : F.length ≤ 1099511627776)
    (hrow : ∀ j q, F[j]? = some q → w.cell? ⟨g, j, none⟩ = some (ptr q.1)) (hz : ∀ j, w.frozen? ⟨g, j, none⟩ = false) (hg : g < w.heap.size) :
    Calls Try.prog 52 #[.slice (some ⟨g, 0, none⟩) F.length cap, .func (.func 53) #[] #[]] w (Sorted w (.slice (some ⟨g, 0, none⟩) F.length cap) F) := by
  obtain ⟨q0, h0⟩ : ∃ q, F[0]? = some q := ⟨F[0], by simp [hpos]⟩
  haveI : Inhabited (Sd w g) := ⟨⟨q0, hA q0 (List.mem_of_getElem? h0)⟩⟩
  let d : Array (Sd w g) := (F.pmap (fun q hq => (⟨q, hq⟩ : Sd w g)) hA).toArray
  have hds : d.size = F.length := by simp [d]
  have hdv : d.toList.map Subtype.val = F := pmap_val F hA
  have hH : Holds encS w g 0 d := by
    intro j hj
    refine ⟨?_, hz _⟩
    rw [Nat.zero_add, getElem!_pos d j hj]
    have hjF : j < F.length := by omega
    have e1 : (d.toList.map Subtype.val)[j]? = some d[j].1 := by simp [hj]
    rw [hdv] at e1
    exact hrow j _ e1
  have hcmp : CmpReads Try.prog 53 #[] (encS (w := w) (g := g)) cfS g 0 d.size w := by
    intro m os dk hk x y
    have f := heap_sortWorld (encS (w := w) (g := g)) w g 0 m dk os
    exact c53 _ x.1.1 y.1.1 x.1.2.name y.1.2.name (f.cellSome x.2.1 x.2.2) (f.cellSome y.2.1 y.2.2)
  have eg : ∀ args w, (callFunc 53 args).run Try.prog w = .ok (.enter 53 args) w := enters_of Try.func53 (by kernel_rfl) rfl
  have hcon := Any.slices_SortFunc Try.sortF (encS (w := w) (g := g)) (fun _ => rfl) cfS swoS 53 #[] g 0 cap d w eg hcmp.lays hH hg (by omega)
  change Calls Try.prog 52 _ _ _ at hcon
  rw [hds] at hcon
  refine hcon.mono ?_
  rintro e w' ⟨rfl, d', n, os, ⟨p1, _, p3⟩, hs, rfl⟩
  have hd' : d'.size = F.length := by omega
  have hperm : (d'.toList.map Subtype.val).Perm F := by
    rw [← hdv]
    refine List.Perm.map _ ?_
    have e1 : d'.extract 0 F.length = d' := by rw [← hd']; simp
    have e2 : d.extract 0 F.length = d := by rw [← hds]; simp
    rw [e1, e2] at p3
    exact p3
  refine ⟨rfl, d'.toList.map Subtype.val, hperm, ?_, ?_, ?_⟩
  · refine incq_of (((hperm.map _).map _).nodup_iff.2 hn) ?_
    intro i j p q hij hp hq
    have hj : j < d'.size := by have := (List.getElem?_eq_some_iff.1 hq).1; simpa using this
    have hi : i < d'.size := by omega
    have := hs i j (Nat.zero_le _) hij (by omega)
    rw [ltS, getElem!_pos d' i hi, getElem!_pos d' j hj] at this
    simp [hi] at hp
    simp [hj] at hq
    rw [← hp, ← hq]; exact this
  · exact (heap_sortWorld encS w g 0 n d' os).mono fun i hi hT e => hT (by rw [e]; rfl)
  · have hh := holds_sortWorld encS w g 0 n d d' os hg hH (by omega)
    refine ⟨_, cap, rfl, hcap.1, hcap.2, (by intro h; cases h), fun _ => ⟨g, 0, rfl, trivial, fun j u hj => ?_⟩⟩
    have hjl : j < d'.size := by have := (List.getElem?_eq_some_iff.1 hj).1; simpa using this
    have := (hh j hjl).1
    rw [getElem!_pos d' j hjl] at this
    rw [this]
    simp [hjl] at hj
    rw [← hj]; rfl

end Go.Proofs.Qxb6601232a
