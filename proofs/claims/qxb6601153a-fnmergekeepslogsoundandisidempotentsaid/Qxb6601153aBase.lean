/-
  SEAT b6601153a. THE WORDS OF THE WALKS: how a slice of numbers, a slice of entries lies in memory; what a call leaves as it was. By an AI agent.
-/
import Derived.Test.Qxb6601153aProg
import Derived.WalkKit
import Derived.WalkSpells
import Derived.WalkLawsBesides
import Derived.Laws.CopyOwn
import Derived.Deep.RegionHeld3
import Derived.Deep.QuietTactic
import Derived.BigQuiet
namespace Go.Proofs.Qxb6601153a
open Go.RowKit
set_option linter.unusedVariables false

/-- Of the old blocks those that T names are as they were; the streams are as they were; no block has gone. -/
structure Fr (T : Nat → Prop) (w w' : World) : Prop where
  os : w'.os = w.os
  tape : w'.tape = w.tape
  output : w'.output = w.output
  size : w.heap.size ≤ w'.heap.size
  block : ∀ k, k < w.heap.size → T k → w'.heap[k]? = w.heap[k]?

def All : Nat → Prop := fun _ => True
/-- The blocks from w's end on. -/
def New (w : World) : Nat → Prop := fun b => w.heap.size ≤ b
/-- The blocks below B. -/
def Lt (B : Nat) : Nat → Prop := fun b => b < B

theorem Fr.refl (T : Nat → Prop) (w : World) : Fr T w w := ⟨rfl, rfl, rfl, Nat.le_refl _, fun _ _ _ => rfl⟩
theorem Fr.trans {T T1 T2 : Nat → Prop} {a b c : World} (h : Fr T1 a b) (k : Fr T2 b c) (ht : ∀ i, i < a.heap.size → T i → T1 i ∧ T2 i) : Fr T a c :=
  ⟨k.os.trans h.os, k.tape.trans h.tape, k.output.trans h.output, Nat.le_trans h.size k.size,
   fun i hi hT => (k.block i (Nat.lt_of_lt_of_le hi h.size) (ht i hi hT).2).trans (h.block i hi (ht i hi hT).1)⟩
theorem Fr.tr {T : Nat → Prop} {a b c : World} (h : Fr T a b) (k : Fr T b c) : Fr T a c := h.trans k fun _ _ t => ⟨t, t⟩
theorem Fr.mono {T T' : Nat → Prop} {a b : World} (h : Fr T a b) (ht : ∀ i, i < a.heap.size → T' i → T i) : Fr T' a b := ⟨h.os, h.tape, h.output, h.size, fun i hi hT => h.block i hi (ht i hi hT)⟩
theorem Fr.any {T : Nat → Prop} {a b : World} (h : Fr All a b) : Fr T a b := h.mono fun _ _ _ => trivial
theorem Fr.drew (T : Nat → Prop) (w : World) : Fr T w w.drew := ⟨rfl, rfl, rfl, Nat.le_refl _, fun _ _ _ => rfl⟩
theorem Fr.drewN (T : Nat → Prop) (w : World) (n : Nat) : Fr T w (w.drewN n) := ⟨rfl, rfl, rfl, Nat.le_refl _, fun _ _ _ => rfl⟩
theorem Fr.alloc (T : Nat → Prop) (w : World) (o : Obj) : Fr T w (w.alloc o) := ⟨rfl, rfl, rfl, by simp, fun k hk _ => Below.heap_alloc _ _ _ hk⟩
theorem Fr.setCell {T : Nat → Prop} (w : World) (a : Addr) (u : Value) (ha : ¬ T a.block) : Fr T w (w.setCell a u) :=
  ⟨rfl, rfl, rfl, by simp, fun k _ hT => Below.heap_setCell _ _ _ _ (fun e => ha (e ▸ hT))⟩
theorem Fr.setRow {T : Nat → Prop} (w : World) (g : Nat) (cs : Array Value) (ha : ¬ T g) : Fr T w (w.setRow g cs) :=
  ⟨rfl, rfl, rfl, by simp, fun k _ hT => setRow_other _ _ _ _ (fun e => ha (e ▸ hT))⟩
theorem Fr.grown {T : Nat → Prop} {w w' : World} {row : Option Nat} (hg : w.grownBy w' row) (hr : ∀ k, row = some k → ¬ T k) : Fr T w w' :=
  ⟨hg.os, hg.tape, hg.output, hg.size, fun k hk hT => hg.block k hk (fun e => hr k e.symm hT)⟩
theorem Fr.below {w w' : World} (h : Fr All w w') : Below w.heap.size w w' := ⟨h.os, h.tape, h.output, h.size, fun k hk => h.block k hk trivial⟩
theorem Fr.ofBelow {B : Nat} {w w' : World} (h : Below B w w') : Fr (Lt B) w w' := ⟨h.os, h.tape, h.output, h.size, fun k _ hk => h.block k hk⟩
theorem Fr.ofBelowAll {w w' : World} (h : Below w.heap.size w w') : Fr All w w' := ⟨h.os, h.tape, h.output, h.size, fun k hk _ => h.block k hk⟩
theorem Fr.cell {T : Nat → Prop} {w w' : World} (h : Fr T w w') {a : Addr} (hl : a.block < w.heap.size) (hT : T a.block) : w'.cell? a = w.cell? a := World.cell?_of_block (w := w) (h.block _ hl hT)
theorem Fr.cellSome {T : Nat → Prop} {w w' : World} (h : Fr T w w') {a : Addr} {v : Value} (hc : w.cell? a = some v) (hT : T a.block) : w'.cell? a = some v :=
  (h.cell (World.block_lt_of_cell? w a hc) hT).trans hc
theorem Fr.heap {T : Nat → Prop} {w w' : World} (h : Fr T w w') {g : Nat} {o : Obj} (hg : w.heap[g]? = some o) (hT : T g) : w'.heap[g]? = some o :=
  (h.block g (lt_of_block hg) hT).trans hg

/-- A slice value of n elements whose cells are xs; they lie in a block that T names. -/
def Rd (T : Nat → Prop) (w : World) (v : Value) (n : Nat) (xs : List Value) : Prop :=
  ∃ ao c, v = .slice ao n c ∧ n ≤ c ∧ c ≤ maxLen ∧ (ao = none → c = 0) ∧
    (0 < n → ∃ b off, ao = some ⟨b, off, none⟩ ∧ T b ∧ ∀ j u, xs[j]? = some u → w.cell? ⟨b, off + j, none⟩ = some u)

theorem Rd.fr {T : Nat → Prop} {w w' : World} {v : Value} {n : Nat} {xs : List Value} (h : Rd T w v n xs) (f : Fr T w w') : Rd T w' v n xs := by
  obtain ⟨ao, c, rfl, h1, h2, h3, h4⟩ := h
  refine ⟨ao, c, rfl, h1, h2, h3, fun hn => ?_⟩
  obtain ⟨b, off, rfl, hT, hc⟩ := h4 hn
  exact ⟨b, off, rfl, hT, fun j u hj => f.cellSome (hc j u hj) hT⟩
theorem Rd.mono {T T' : Nat → Prop} {w : World} {v : Value} {n : Nat} {xs : List Value} (h : Rd T w v n xs) (ht : ∀ i, T i → T' i) : Rd T' w v n xs := by
  obtain ⟨ao, c, rfl, h1, h2, h3, h4⟩ := h
  refine ⟨ao, c, rfl, h1, h2, h3, fun hn => ?_⟩
  obtain ⟨b, off, rfl, hT, hc⟩ := h4 hn
  exact ⟨b, off, rfl, ht b hT, hc⟩
/-- The same under a narrower name: only blocks that are there count. -/
theorem Rd.mono' {T T' : Nat → Prop} {w : World} {v : Value} {n : Nat} {xs : List Value} (h : Rd T w v n xs) (hx : 0 < n → xs ≠ []) (ht : ∀ i, i < w.heap.size → T i → T' i) : Rd T' w v n xs := by
  obtain ⟨ao, c, rfl, h1, h2, h3, h4⟩ := h
  refine ⟨ao, c, rfl, h1, h2, h3, fun hn => ?_⟩
  obtain ⟨b, off, rfl, hT, hc⟩ := h4 hn
  match xs, hx hn with
  | x :: xs, _ => exact ⟨b, off, rfl, ht b (World.block_lt_of_cell? w _ (hc 0 x rfl)) hT, hc⟩
theorem Rd.nil (T : Nat → Prop) (w : World) : Rd T w (.slice none 0 0) 0 [] := ⟨none, 0, rfl, Nat.le_refl _, Nat.zero_le _, fun _ => rfl, fun h => by omega⟩
/-- A new row. -/
theorem Rd.row {T : Nat → Prop} {w : World} {g n c : Nat} {cur : Array Value} {e : TypeId} {fz : Nat × Nat} {xs : List Value} (hg : w.heap[g]? = some (.cells cur e fz)) (hT : T g) (hn : n ≤ c) (hc : c ≤ maxLen)
    (hx : ∀ (j : Nat) (u : Value), xs[j]? = some u → cur[j]? = some u) : Rd T w (.slice (some ⟨g, 0, none⟩) n c) n xs :=
  ⟨_, c, rfl, hn, hc, (by intro h; cases h), fun _ => ⟨g, 0, rfl, hT, fun j u hj => by rw [cell_of_row w g _ cur e fz hg, Nat.zero_add]; exact hx j u hj⟩⟩
/-- What is owned can be read. -/
theorem Rd.own {T : Nat → Prop} {w : World} {base : Nat} {e : TypeId} {size : Nat} {v : Value} {n : Nat} {xs : List Value} (h : w.ownsRow base e size v n xs) (hT : ∀ b, base ≤ b → v.ownBlock = some b → T b) : Rd T w v n xs := by
  obtain ⟨hl, h⟩ := h
  rcases h with ⟨rfl, rfl⟩ | ⟨g, cap, cur, rfl, hb, hg, hn, hc, hs, rfl⟩
  · exact ⟨none, 0, rfl, Nat.le_refl _, Nat.zero_le _, fun _ => rfl, fun h => by omega⟩
  · refine Rd.row hg (hT g hb rfl) hn hc fun j u hj => ?_
    rw [List.getElem?_take] at hj
    split at hj
    · rw [← hj, Array.getElem?_toList]
    · cases hj

/-- Numbers. -/
def U8s (T : Nat → Prop) (w : World) (v : Value) (bs : List Int) : Prop := Rd T w v bs.length (bs.map (Value.int .u8))
def U64s (T : Nat → Prop) (w : World) (v : Value) (ns : List Int) : Prop := Rd T w v ns.length (ns.map (Value.int .u64))

/-- An entry as it lies in memory: its index, its term, its command (the slice's value, and the bytes that it leads to), what tells of a Change (a bool; a pointer). -/
structure Raw where
  idx : Int
  term : Int
  cv : Value
  cmd : List Int
  ch : Value
def Raw.cells (r : Raw) : List Value := [.int .u64 r.idx, .int .u64 r.term, r.cv, r.ch]
/-- The cells of a list of entries. -/
def flat (rs : List Raw) : List Value := rs.flatMap Raw.cells
theorem flat_nil : flat [] = [] := rfl
theorem flat_cons (r : Raw) (rs : List Raw) : flat (r :: rs) = r.cells ++ flat rs := rfl
theorem flat_append (a b : List Raw) : flat (a ++ b) = flat a ++ flat b := by simp [flat]
theorem length_flat (rs : List Raw) : (flat rs).length = rs.length * 4 := by
  induction rs with
  | nil => rfl
  | cons r rs ih => simp [flat_cons, Raw.cells, ih]; omega
theorem flat_get (rs : List Raw) (k j : Nat) (r : Raw) (hk : rs[k]? = some r) (hj : j < 4) : (flat rs)[k * 4 + j]? = r.cells[j]? := by
  induction rs generalizing k with
  | nil => simp at hk
  | cons q rs ih =>
    cases k with
    | zero =>
      simp at hk; subst hk
      rw [flat_cons, List.getElem?_append_left (by simp [Raw.cells]; omega)]; simp
    | succ k =>
      simp at hk
      rw [flat_cons, List.getElem?_append_right (by simp [Raw.cells]; omega)]
      rw [← ih k hk]; congr 1; simp [Raw.cells]; omega
theorem flat_take (rs : List Raw) (k : Nat) : (flat rs).take (k * 4) = flat (rs.take k) := by
  induction rs generalizing k with
  | nil => simp [flat]
  | cons q rs ih =>
    cases k with
    | zero => simp [flat]
    | succ k => rw [List.take_succ_cons, flat_cons, flat_cons, ← ih, List.take_append]; simp [Raw.cells]; rw [show (k + 1) * 4 = k * 4 + 4 from by omega]; simp
theorem flat_drop (rs : List Raw) (k : Nat) : (flat rs).drop (k * 4) = flat (rs.drop k) := by
  induction rs generalizing k with
  | nil => simp [flat]
  | cons q rs ih =>
    cases k with
    | zero => simp
    | succ k => rw [List.drop_succ_cons, flat_cons, ← ih, List.drop_append]; simp [Raw.cells]; rw [show (k + 1) * 4 = k * 4 + 4 from by omega]; simp

/-- A slice of entries. -/
def Ents (T : Nat → Prop) (w : World) (v : Value) (rs : List Raw) : Prop := Rd T w v rs.length (flat rs) ∧ ∀ r ∈ rs, U8s T w r.cv r.cmd
theorem Ents.fr {T : Nat → Prop} {w w' : World} {v : Value} {rs : List Raw} (h : Ents T w v rs) (f : Fr T w w') : Ents T w' v rs := ⟨h.1.fr f, fun r hr => Rd.fr (h.2 r hr) f⟩
theorem Ents.mono {T T' : Nat → Prop} {w : World} {v : Value} {rs : List Raw} (h : Ents T w v rs) (ht : ∀ i, T i → T' i) : Ents T' w v rs := ⟨h.1.mono ht, fun r hr => Rd.mono (h.2 r hr) ht⟩
theorem U64s.fr {T : Nat → Prop} {w w' : World} {v : Value} {ns : List Int} (h : U64s T w v ns) (f : Fr T w w') : U64s T w' v ns := Rd.fr h f
theorem U64s.mono {T T' : Nat → Prop} {w : World} {v : Value} {ns : List Int} (h : U64s T w v ns) (ht : ∀ i, T i → T' i) : U64s T' w v ns := Rd.mono h ht
theorem U8s.fr {T : Nat → Prop} {w w' : World} {v : Value} {ns : List Int} (h : U8s T w v ns) (f : Fr T w w') : U8s T w' v ns := Rd.fr h f
theorem U8s.mono {T T' : Nat → Prop} {w : World} {v : Value} {ns : List Int} (h : U8s T w v ns) (ht : ∀ i, T i → T' i) : U8s T' w v ns := Rd.mono h ht

/-- The four cells of the k-th entry, as the walk asks for them. -/
theorem ents_cells {w : World} {b off : Nat} {rs : List Raw} (h : ∀ j u, (flat rs)[j]? = some u → w.cell? ⟨b, off + j, none⟩ = some u) {k : Nat} {r : Raw} (hk : rs[k]? = some r) :
    w.cell? ⟨b, off + k * 4, none⟩ = some (.int .u64 r.idx) ∧ w.cell? ⟨b, off + k * 4 + 1, none⟩ = some (.int .u64 r.term) ∧ w.cell? ⟨b, off + k * 4 + 2, none⟩ = some r.cv ∧ w.cell? ⟨b, off + k * 4 + 3, none⟩ = some r.ch := by
  refine ⟨?_, ?_, ?_, ?_⟩
  · exact h (k * 4 + 0) _ (by rw [flat_get rs k 0 r hk (by omega)]; rfl)
  · have := h (k * 4 + 1) _ (by rw [flat_get rs k 1 r hk (by omega)]; rfl); rw [← Nat.add_assoc] at this; exact this
  · have := h (k * 4 + 2) _ (by rw [flat_get rs k 2 r hk (by omega)]; rfl); rw [← Nat.add_assoc] at this; exact this
  · have := h (k * 4 + 3) _ (by rw [flat_get rs k 3 r hk (by omega)]; rfl); rw [← Nat.add_assoc] at this; exact this

def Raw.flag (r : Raw) : Bool := match r.ch with | .bool b => b | .pointer (some _) => true | _ => false
def Raw.plain (r : Raw) : Int × Int × List Int × Bool := (r.idx, r.term, r.cmd, r.flag)
def EntOk (rs : List Raw) : Prop := ∀ r ∈ rs, r.cmd.length ≤ 1048576 ∧ ∃ b, r.ch = .bool b

theorem row4 {w : World} {g k : Nat} {cur : Array Value} {t : TypeId} (hg : w.heap[g]? = some (.cells cur t (0, 0))) (hk : k * 4 + 3 < cur.size) :
    ∃ x0 x1 x2 x3, w.cell? ⟨g, k * 4, none⟩ = some x0 ∧ w.cell? ⟨g, k * 4 + 1, none⟩ = some x1 ∧ w.cell? ⟨g, k * 4 + 2, none⟩ = some x2 ∧ w.cell? ⟨g, k * 4 + 3, none⟩ = some x3 ∧
      w.frozen? ⟨g, k * 4, none⟩ = false ∧ w.frozen? ⟨g, k * 4 + 1, none⟩ = false ∧ w.frozen? ⟨g, k * 4 + 2, none⟩ = false ∧ w.frozen? ⟨g, k * 4 + 3, none⟩ = false := by
  refine ⟨cur[k * 4], cur[k * 4 + 1], cur[k * 4 + 2], cur[k * 4 + 3], ?_, ?_, ?_, ?_, ?_, ?_, ?_, ?_⟩
  all_goals first | (rw [cell_of_row w g _ cur t _ hg]; simp; done) | exact frozen_of_row w g _ cur t hg
theorem sc_of_fr {G : Nat} {w w' : World} (h : Fr (fun b => b ≠ G) w w') : ∀ x o, x < w.heap.size → x ≠ G → w'.cell? ⟨x, o, none⟩ = w.cell? ⟨x, o, none⟩ := fun x o h1 h2 => h.cell (a := ⟨x, o, none⟩) h1 h2
def put4 (cur : Array Value) (k : Nat) (a b c d : Value) : Array Value := (((cur.setIfInBounds (k * 4) a).setIfInBounds (k * 4 + 1) b).setIfInBounds (k * 4 + 2) c).setIfInBounds (k * 4 + 3) d
theorem size_put4 (cur : Array Value) (k : Nat) (a b c d : Value) : (put4 cur k a b c d).size = cur.size := by simp [put4]
theorem take_put4 (cur : Array Value) (k : Nat) (a b c d : Value) (h : k * 4 + 3 < cur.size) : (put4 cur k a b c d).toList.take ((k + 1) * 4) = cur.toList.take (k * 4) ++ [a, b, c, d] := by
  have hl : cur.toList.length = cur.size := rfl
  apply List.ext_getElem?
  intro j
  simp only [put4, Array.toList_setIfInBounds]
  by_cases h0 : j < k * 4
  · rw [List.getElem?_take_of_lt (by omega), List.getElem?_append_left (by simp; omega)]
    rw [List.getElem?_set_ne (by omega), List.getElem?_set_ne (by omega), List.getElem?_set_ne (by omega), List.getElem?_set_ne (by omega), List.getElem?_take_of_lt h0]
  · by_cases h1 : j < (k + 1) * 4
    · rw [List.getElem?_take_of_lt h1, List.getElem?_append_right (by simp; omega)]
      simp only [List.length_take, hl]
      rw [Nat.min_eq_left (by omega)]
      obtain rfl | rfl | rfl | rfl : j = k * 4 ∨ j = k * 4 + 1 ∨ j = k * 4 + 2 ∨ j = k * 4 + 3 := by omega
      · rw [List.getElem?_set_ne (by omega), List.getElem?_set_ne (by omega), List.getElem?_set_ne (by omega), List.getElem?_set_self (by omega)]; simp
      · rw [List.getElem?_set_ne (by omega), List.getElem?_set_ne (by omega), List.getElem?_set_self (by simp; omega)]; simp
      · rw [List.getElem?_set_ne (by omega), List.getElem?_set_self (by simp; omega)]; simp
      · rw [List.getElem?_set_self (by simp; omega)]; simp
    · rw [List.getElem?_eq_none (by simp; omega), List.getElem?_eq_none (by simp; omega)]
theorem heap_put4 {w : World} {g k : Nat} {cur : Array Value} {t : TypeId} (hg : w.heap[g]? = some (.cells cur t (0, 0))) (a b c d : Value) :
    ((((w.setCell ⟨g, k * 4, none⟩ a).setCell ⟨g, k * 4 + 1, none⟩ b).setCell ⟨g, k * 4 + 2, none⟩ c).setCell ⟨g, k * 4 + 3, none⟩ d).heap[g]? = some (.cells (put4 cur k a b c d) t (0, 0)) := by
  have h1 := heap_setCell_same w g (k * 4) cur t a hg
  have h2 := heap_setCell_same _ g (k * 4 + 1) _ t b h1
  have h3 := heap_setCell_same _ g (k * 4 + 2) _ t c h2
  exact heap_setCell_same _ g (k * 4 + 3) _ t d h3
theorem fr_put4 {T : Nat → Prop} (w : World) (g k : Nat) (hT : ¬ T g) (a b c d : Value) : Fr T w ((((w.setCell ⟨g, k * 4, none⟩ a).setCell ⟨g, k * 4 + 1, none⟩ b).setCell ⟨g, k * 4 + 2, none⟩ c).setCell ⟨g, k * 4 + 3, none⟩ d) :=
  (((Fr.setCell _ _ _ hT).tr (Fr.setCell _ _ _ hT)).tr (Fr.setCell _ _ _ hT)).tr (Fr.setCell _ _ _ hT)
theorem own_of_row {w : World} {base g n size : Nat} {cur : Array Value} {e : TypeId} {xs : List Value} (hg : w.heap[g]? = some (.cells cur e (0, 0))) (hb : base ≤ g) (hs : cur.size = n * size) (ht : cur.toList.take (n * size) = xs) (hm : n ≤ maxLen) :
    w.ownsRow base e size (.slice (some ⟨g, 0, none⟩) n n) n xs :=
  ⟨by rw [← ht]; simp; omega, .inr ⟨g, n, cur, rfl, hb, hg, Nat.le_refl _, hm, hs, ht⟩⟩
theorem own_shape {w : World} {base : Nat} {e : TypeId} {size : Nat} {v : Value} {n : Nat} {xs : List Value} (h : w.ownsRow base e size v n xs) : ∃ ao n c, v = .slice ao n c := by
  obtain ⟨_, h⟩ := h
  rcases h with ⟨rfl, _⟩ | ⟨g, cap, cur, rfl, _⟩
  · exact ⟨_, _, _, rfl⟩
  · exact ⟨_, _, _, rfl⟩

theorem nums_cell {k : IntKind} {w : World} {b off : Nat} {ns : List Int} (h : ∀ j u, (ns.map (Value.int k))[j]? = some u → w.cell? ⟨b, off + j, none⟩ = some u) {i : Nat} {x : Int} (hi : ns[i]? = some x) :
    w.cell? ⟨b, off + i, none⟩ = some (.int k x) := h i _ (by simp [hi])
theorem take_set_snoc {α : Type} (l : List α) (k : Nat) (x : α) (h : k < l.length) : (l.set k x).take (k + 1) = l.take k ++ [x] := by
  apply List.ext_getElem?
  intro j
  by_cases h0 : j < k
  · rw [List.getElem?_take_of_lt (by omega), List.getElem?_append_left (by simp; omega), List.getElem?_set_ne (by omega), List.getElem?_take_of_lt h0]
  · by_cases h1 : j = k
    · subst h1
      rw [List.getElem?_take_of_lt (by omega), List.getElem?_append_right (by simp; omega), List.getElem?_set_self h]
      simp [Nat.min_eq_left (Nat.le_of_lt h)]
    · rw [List.getElem?_eq_none (by simp; omega), List.getElem?_eq_none (by simp; omega)]


/-- At most the tape's count has moved on. -/
def Qt (w w' : World) : Prop := ∃ n, w' = w.drewN n
theorem Qt.refl (w : World) : Qt w w := ⟨0, rfl⟩
theorem Qt.drewN (w : World) (n : Nat) : Qt w (w.drewN n) := ⟨n, rfl⟩
theorem Qt.drew (w : World) : Qt w w.drew := ⟨1, rfl⟩
theorem drewN_drewN (w : World) (n m : Nat) : (w.drewN n).drewN m = w.drewN (n + m) := by simp [World.drewN, Nat.add_assoc]
theorem Qt.trans {a b c : World} (h : Qt a b) (k : Qt b c) : Qt a c := by
  obtain ⟨n, rfl⟩ := h; obtain ⟨m, rfl⟩ := k; exact ⟨n + m, drewN_drewN _ _ _⟩
theorem Qt.fr {T : Nat → Prop} {w w' : World} (h : Qt w w') : Fr T w w' := by obtain ⟨n, rfl⟩ := h; exact Fr.drewN _ _ _
theorem Qt.cell {w w' : World} (h : Qt w w') (a : Addr) : w'.cell? a = w.cell? a := by obtain ⟨n, rfl⟩ := h; rfl
theorem Qt.size {w w' : World} (h : Qt w w') : w'.heap.size = w.heap.size := by obtain ⟨n, rfl⟩ := h; rfl
theorem Qt.heap {w w' : World} (h : Qt w w') : w'.heap = w.heap := by obtain ⟨n, rfl⟩ := h; rfl

/-- Ends that the walk's simp leaves alone: a bool comes back; at most the tape's count has moved on. -/
def RetB (w : World) (p : Bool → Prop) (e : Ending) (w' : World) : Prop := ∃ b : Bool, e = .returned (.bool b) ∧ Qt w w' ∧ p b
def RetIB (w : World) (e : Ending) (w' : World) : Prop := ∃ (t : Int) (b : Bool), e = .returned (.tuple #[.int .i64 t, .bool b]) ∧ Qt w w'

/-- The indexes of the entries that carry a Change. -/
def chgs (rs : List Raw) : List Int := (rs.filter Raw.flag).map Raw.idx
theorem chgs_append (a b : List Raw) : chgs (a ++ b) = chgs a ++ chgs b := by simp [chgs]

theorem chgs_step {rs : List Raw} {k : Nat} {r : Raw} (hr : rs[k]? = some r) : chgs (rs.take (k + 1)) = chgs (rs.take k) ++ (if r.flag then [r.idx] else []) := by
  rw [List.take_add_one, hr, chgs_append]
  cases h : r.flag <;> simp [chgs, h]
/-- Indexes and terms are words. -/
def IdxOk (rs : List Raw) : Prop := ∀ r ∈ rs, (0 ≤ r.idx ∧ r.idx ≤ 18446744073709551615) ∧ 0 ≤ r.term ∧ r.term ≤ 18446744073709551615
/-- What appendOK asks. -/
def AppOk (si off : Int) (n : Nat) (ap : List Raw) : Prop := ap = [] ∨ ∃ first : Int, 1 ≤ first ∧ (first - 1 = si ∨ (off < first - 1 ∧ first - 1 ≤ off + n)) ∧ first + ap.length ≤ 18446744073709551616 ∧ ∀ (i : Nat) (r : Raw), ap[i]? = some r → r.idx = first + i
/-- What logOK asks. -/
structure LogOk (si st off : Int) (rs : List Raw) (ns : List Int) : Prop where
  room : off + rs.length < 18446744073709551615
  lo : off ≤ si
  hi : si ≤ off + rs.length
  idx : ∀ (i : Nat) (r : Raw), rs[i]? = some r → r.idx = off + i + 1
  term : off < si → ∀ r : Raw, rs[((si - off).toNat - 1)]? = some r → r.term = st
  chg : ns = chgs rs

end Go.Proofs.Qxb6601153a
