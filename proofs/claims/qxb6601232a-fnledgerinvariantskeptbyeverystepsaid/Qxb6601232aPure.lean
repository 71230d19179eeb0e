/-
  SEAT b6601232a. THE PLAIN LAW: standings, what an instance does to them, why two instances commute; lists in order of name. No Go in sight. By an AI agent.
-/
import Derived.Test.Qxb6601232aBase
namespace Go.Proofs.Qxb6601232a
open Go.RowKit
set_option linter.unusedVariables false

/-- A node's standing. -/
structure St where
  name : ByteArray
  cr : Int
  acts : Int
  ex : Bool
  bn : Bool
deriving Inhabited

def fresh (n : ByteArray) : St := ⟨n, 0, 0, false, false⟩
inductive Kd where
  | h | a | m
/-- What a part does to a standing. -/
def eff (k : Kd) (s : St) : St :=
  if s.ex = true then s else match k with
  | .h => { s with cr := wrap64 (s.cr + 1) }
  | .a => { s with cr := wrap64 (s.cr - 1) }
  | .m => { s with cr := 0, acts := wrap64 (s.acts + 1), ex := true, bn := decide (2 ≤ wrap64 (s.acts + 1)) }
theorem eff_name (k : Kd) (s : St) : (eff k s).name = s.name := by
  unfold eff; split
  · rfl
  · cases k <;> rfl
theorem wrap_pm (c : Int) : wrap64 (wrap64 (c + 1) - 1) = wrap64 (wrap64 (c - 1) + 1) := by
  unfold wrap64; omega
theorem eff_comm (j k : Kd) (s : St) : eff j (eff k s) = eff k (eff j s) := by
  cases hx : s.ex
  · cases j <;> cases k <;> simp [eff, hx, wrap_pm]
  · simp [eff, hx]

def getS (ss : List St) (x : ByteArray) : Option St := ss.find? fun s => decide (s.name = x)

theorem getS_none {ss : List St} {x : ByteArray} : getS ss x = none ↔ x ∉ ss.map St.name := by
  unfold getS; rw [List.find?_eq_none]; simp
theorem getS_isSome {ss : List St} {x : ByteArray} : (getS ss x).isSome = true ↔ x ∈ ss.map St.name := by
  cases h : getS ss x with
  | none => simpa using getS_none.1 h
  | some s =>
    refine ⟨fun _ => ?_, fun _ => rfl⟩
    refine Classical.byContradiction fun hn => ?_
    rw [getS_none.2 hn] at h; cases h
/-- The ledger's list once the node is known. -/
def touch (ss : List St) (n : ByteArray) : List St := if (getS ss n).isSome = true then ss else ss ++ [fresh n]
def step (ss : List St) (o : Kd × ByteArray) : List St := (touch ss o.2).map fun s => if s.name = o.2 then eff o.1 s else s
def opsOf (H A M : List ByteArray) : List (Kd × ByteArray) := H.map (Kd.h, ·) ++ A.map (Kd.a, ·) ++ M.map (Kd.m, ·)
/-- What an instance leaves. -/
def part (ss : List St) (H A M : List ByteArray) : List St := (opsOf H A M).foldl step ss

theorem getS_name {ss : List St} {x : ByteArray} {s : St} (h : getS ss x = some s) : s.name = x := by
  have := List.find?_some h; simpa using this
theorem getS_mem {ss : List St} {x : ByteArray} {s : St} (h : getS ss x = some s) : s ∈ ss := List.mem_of_find?_eq_some h
theorem getS_map (f : St → St) (hf : ∀ s, (f s).name = s.name) (ss : List St) (x : ByteArray) : getS (ss.map f) x = (getS ss x).map f := by
  unfold getS
  rw [List.find?_map]
  congr 1
  apply congrFun
  congr 1
  funext s
  simp [hf]
theorem getS_touch (ss : List St) (n x : ByteArray) : getS (touch ss n) x = if x = n then some ((getS ss n).getD (fresh n)) else getS ss x := by
  unfold touch
  by_cases h : (getS ss n).isSome = true
  · rw [if_pos h]
    have h := getS_isSome.1 h
    by_cases hx : x = n
    · subst hx; rw [if_pos rfl]
      cases hg : getS ss x with
      | none => exact absurd h (getS_none.1 hg)
      | some s => rfl
    · rw [if_neg hx]
  · rw [if_neg h]
    have hn : getS ss n = none := by simpa using h
    unfold getS at hn ⊢
    rw [List.find?_append]
    by_cases hx : x = n
    · subst hx; rw [hn]; simp [fresh]
    · rw [if_neg hx]
      have : ¬ n = x := fun e => hx e.symm
      simp [fresh, this]
def gx (x : ByteArray) (v : Option St) (o : Kd × ByteArray) : Option St := if x = o.2 then some (eff o.1 (v.getD (fresh o.2))) else v
theorem getS_step (ss : List St) (o : Kd × ByteArray) (x : ByteArray) : getS (step ss o) x = gx x (getS ss x) o := by
  unfold step
  rw [getS_map _ (fun s => by split <;> simp [eff_name]), getS_touch]
  unfold gx
  by_cases hx : x = o.2
  · rw [if_pos hx, if_pos hx, hx]
    have : ((getS ss o.2).getD (fresh o.2)).name = o.2 := by
      cases hg : getS ss o.2 with
      | none => rfl
      | some s => exact getS_name hg
    simp [this]
  · rw [if_neg hx, if_neg hx]
    cases hg : getS ss x with
    | none => rfl
    | some s =>
      have : s.name ≠ o.2 := fun e => hx (by rw [← e]; exact (getS_name hg).symm)
      simp [this]
theorem gx_comm (x : ByteArray) (v : Option St) (o p : Kd × ByteArray) : gx x (gx x v o) p = gx x (gx x v p) o := by
  unfold gx
  by_cases h1 : x = o.2 <;> by_cases h2 : x = p.2
  · subst h1; simp [← h2, eff_comm]
  · subst h1; simp [h2]
  · subst h2; simp [h1]
  · simp [h1, h2]
theorem getS_fold (os : List (Kd × ByteArray)) (ss : List St) (x : ByteArray) : getS (os.foldl step ss) x = os.foldl (gx x) (getS ss x) := by
  induction os generalizing ss with
  | nil => rfl
  | cons o os ih => rw [List.foldl_cons, List.foldl_cons, ih, getS_step]
theorem foldl_out {α β : Type} (f : β → α → β) (hc : ∀ v a b, f (f v a) b = f (f v b) a) (l : List α) (v : β) (a : α) : l.foldl f (f v a) = f (l.foldl f v) a := by
  induction l generalizing v with
  | nil => rfl
  | cons b l ih => rw [List.foldl_cons, hc, ih, List.foldl_cons]
theorem foldl_swap {α β : Type} (f : β → α → β) (hc : ∀ v a b, f (f v a) b = f (f v b) a) (l m : List α) (v : β) : m.foldl f (l.foldl f v) = l.foldl f (m.foldl f v) := by
  induction l generalizing v with
  | nil => rfl
  | cons a l ih => rw [List.foldl_cons, List.foldl_cons, ih, foldl_out f hc]
/-- Two instances commute, node by node. -/
theorem part_comm (ss : List St) (H A M H' A' M' : List ByteArray) (x : ByteArray) : getS (part (part ss H A M) H' A' M') x = getS (part (part ss H' A' M') H A M) x := by
  unfold part
  rw [getS_fold, getS_fold, getS_fold, getS_fold, foldl_swap (gx x) (gx_comm x)]

def names (ss : List St) : List ByteArray := ss.map St.name
theorem names_map (f : St → St) (hf : ∀ s, (f s).name = s.name) (ss : List St) : names (ss.map f) = names ss := by simp [names, List.map_map, Function.comp_def, hf]
theorem nodup_touch {ss : List St} (h : (names ss).Nodup) (n : ByteArray) : (names (touch ss n)).Nodup := by
  unfold touch
  split
  · exact h
  · rename_i hn
    have hn : n ∉ ss.map St.name := getS_none.1 (by simpa using hn)
    unfold names at *
    rw [List.map_append, List.nodup_append]
    refine ⟨h, by simp, ?_⟩
    intro a ha b hb e
    simp [fresh] at hb
    subst hb; subst e; exact hn ha
theorem names_step (ss : List St) (o : Kd × ByteArray) : names (step ss o) = names (touch ss o.2) := names_map _ (fun s => by split <;> simp [eff_name]) _
theorem nodup_step {ss : List St} (h : (names ss).Nodup) (o : Kd × ByteArray) : (names (step ss o)).Nodup := by rw [names_step]; exact nodup_touch h o.2
theorem nodup_fold (os : List (Kd × ByteArray)) {ss : List St} (h : (names ss).Nodup) : (names (os.foldl step ss)).Nodup := by
  induction os generalizing ss with
  | nil => exact h
  | cons o os ih => exact ih (nodup_step h o)
theorem nodup_part {ss : List St} (h : (names ss).Nodup) (H A M : List ByteArray) : (names (part ss H A M)).Nodup := nodup_fold _ h
theorem length_step (ss : List St) (o : Kd × ByteArray) : (step ss o).length ≤ ss.length + 1 := by
  unfold step touch; split <;> simp
theorem length_fold (os : List (Kd × ByteArray)) (ss : List St) : (os.foldl step ss).length ≤ ss.length + os.length := by
  induction os generalizing ss with
  | nil => simp
  | cons o os ih => have := ih (step ss o); have := length_step ss o; simp only [List.foldl_cons, List.length_cons]; omega
theorem touch_pre (ss : List St) (n : ByteArray) : ∃ t, touch ss n = ss ++ t := by
  unfold touch; split
  · exact ⟨[], by simp⟩
  · exact ⟨_, rfl⟩
theorem step_pre (ss : List St) (o : Kd × ByteArray) : ∃ t, names (step ss o) = names ss ++ t := by
  obtain ⟨t, ht⟩ := touch_pre ss o.2
  exact ⟨names t, by rw [names_step, ht]; simp [names]⟩
theorem fold_pre (os : List (Kd × ByteArray)) (ss : List St) : ∃ t, names (os.foldl step ss) = names ss ++ t := by
  induction os generalizing ss with
  | nil => exact ⟨[], by simp⟩
  | cons o os ih =>
    obtain ⟨t, ht⟩ := ih (step ss o); obtain ⟨t', ht'⟩ := step_pre ss o
    exact ⟨t' ++ t, by rw [List.foldl_cons, ht, ht', List.append_assoc]⟩

/-! ### the order of names -/
def bless (a b : ByteArray) : Bool := Op.bytesLess a.toList b.toList
theorem bl_irrefl : ∀ x : List UInt8, Op.bytesLess x x = false
  | [] => rfl
  | a :: x => by simp [Op.bytesLess, bl_irrefl x]
theorem bl_trans : ∀ x y z : List UInt8, Op.bytesLess x y = true → Op.bytesLess y z = true → Op.bytesLess x z = true
  | _, [], _, h, _ => by simp [Op.bytesLess] at h
  | _, _ :: _, [], _, h => by simp [Op.bytesLess] at h
  | [], _ :: _, _ :: _, _, _ => by simp [Op.bytesLess]
  | a :: x, b :: y, c :: z, h1, h2 => by
    simp only [Op.bytesLess, Bool.or_eq_true, Bool.and_eq_true, decide_eq_true_eq, beq_iff_eq] at h1 h2 ⊢
    rcases h1 with h1 | ⟨rfl, h1⟩
    · rcases h2 with h2 | ⟨rfl, h2⟩
      · exact Or.inl (UInt8.lt_trans h1 h2)
      · exact Or.inl h1
    · rcases h2 with h2 | ⟨rfl, h2⟩
      · exact Or.inl h2
      · exact Or.inr ⟨rfl, bl_trans x y z h1 h2⟩
theorem bl_total : ∀ x y : List UInt8, Op.bytesLess x y = true ∨ x = y ∨ Op.bytesLess y x = true
  | [], [] => by simp
  | [], _ :: _ => by simp [Op.bytesLess]
  | _ :: _, [] => by simp [Op.bytesLess]
  | a :: x, b :: y => by
    simp only [Op.bytesLess, Bool.or_eq_true, Bool.and_eq_true, decide_eq_true_eq, beq_iff_eq, List.cons.injEq]
    have h3 : a < b ∨ a = b ∨ b < a := by
      rcases Nat.lt_trichotomy a.toNat b.toNat with h | h | h
      · exact Or.inl (UInt8.lt_iff_toNat_lt.2 h)
      · exact Or.inr (Or.inl (UInt8.toNat_inj.1 h))
      · exact Or.inr (Or.inr (UInt8.lt_iff_toNat_lt.2 h))
    rcases h3 with h | rfl | h
    · exact Or.inl (Or.inl h)
    · rcases bl_total x y with h | rfl | h
      · exact Or.inl (Or.inr ⟨rfl, h⟩)
      · exact Or.inr (Or.inl ⟨rfl, rfl⟩)
      · exact Or.inr (Or.inr (Or.inr ⟨rfl, h⟩))
    · exact Or.inr (Or.inr (Or.inl h))
theorem ba_toList_inj {a b : ByteArray} (h : a.toList = b.toList) : a = b := by
  rw [ByteArray.toList_eq, ByteArray.toList_eq] at h
  cases a; cases b; simp at h; subst h; rfl
theorem bless_irrefl (a : ByteArray) : bless a a = false := bl_irrefl _
theorem bless_trans {a b c : ByteArray} (h : bless a b = true) (k : bless b c = true) : bless a c = true := bl_trans _ _ _ h k
theorem bless_total (a b : ByteArray) : bless a b = true ∨ a = b ∨ bless b a = true := by
  rcases bl_total a.toList b.toList with h | h | h
  · exact Or.inl h
  · exact Or.inr (Or.inl (ba_toList_inj h))
  · exact Or.inr (Or.inr h)
theorem bless_asymm {a b : ByteArray} (h : bless a b = true) (k : bless b a = true) : False := by
  have := bless_trans h k; rw [bless_irrefl] at this; cases this

/-- In strictly increasing order of name. -/
def Inc (ss : List St) : Prop := ss.Pairwise fun a b => bless a.name b.name = true
theorem Inc.nodup {ss : List St} (h : Inc ss) : (names ss).Nodup := by
  unfold names List.Nodup
  rw [List.pairwise_map]
  exact h.imp fun hab e => by rw [e, bless_irrefl] at hab; cases hab
theorem inc_ext : ∀ l m : List St, Inc l → Inc m → (∀ s, s ∈ l ↔ s ∈ m) → l = m
  | [], [], _, _, _ => rfl
  | [], b :: m, _, _, h => by have := (h b).2 (by simp); simp at this
  | a :: l, [], _, _, h => by have := (h a).1 (by simp); simp at this
  | a :: l, b :: m, hl, hm, h => by
    unfold Inc at hl hm
    rw [List.pairwise_cons] at hl hm
    have e : a = b := by
      rcases List.mem_cons.1 ((h a).1 (by simp)) with e | h1
      · exact e
      · rcases List.mem_cons.1 ((h b).2 (by simp)) with e | h2
        · exact e.symm
        · exact (bless_asymm (hl.1 b h2) (hm.1 a h1)).elim
    subst e
    congr 1
    refine inc_ext l m hl.2 hm.2 fun s => ⟨fun hs => ?_, fun hs => ?_⟩
    · rcases List.mem_cons.1 ((h s).1 (List.mem_cons_of_mem _ hs)) with e | h1
      · subst e; have := hl.1 s hs; rw [bless_irrefl] at this; cases this
      · exact h1
    · rcases List.mem_cons.1 ((h s).2 (List.mem_cons_of_mem _ hs)) with e | h1
      · subst e; have := hm.1 s hs; rw [bless_irrefl] at this; cases this
      · exact h1
theorem mem_getS {ss : List St} (h : (names ss).Nodup) (s : St) : s ∈ ss ↔ getS ss s.name = some s := by
  refine ⟨fun hs => ?_, getS_mem⟩
  unfold names List.Nodup at h
  rw [List.pairwise_map] at h
  induction ss with
  | nil => cases hs
  | cons a ss ih =>
    rw [List.pairwise_cons] at h
    unfold getS at *
    rw [List.find?_cons]
    rcases List.mem_cons.1 hs with rfl | hs
    · simp
    · have := h.1 s hs
      simp [this]
      exact ih h.2 hs
theorem perm_names {l m : List St} (h : l.Perm m) : (names l).Perm (names m) := h.map _
/-- Both orders list the same. -/
theorem part_sorted {ss : List St} (hn : (names ss).Nodup) {H A M H' A' M' : List ByteArray} {l m : List St} (hl : Inc l) (hm : Inc m) (pl : l.Perm (part (part ss H A M) H' A' M')) (pm : m.Perm (part (part ss H' A' M') H A M)) : l = m := by
  refine inc_ext l m hl hm fun s => ?_
  rw [pl.mem_iff, pm.mem_iff, mem_getS (nodup_part (nodup_part hn _ _ _) _ _ _), mem_getS (nodup_part (nodup_part hn _ _ _) _ _ _), part_comm]

end Go.Proofs.Qxb6601232a
