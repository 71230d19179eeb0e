/-
  SEAT b6601232a. THE WORDS OF THE WALKS: how a slice of numbers, a slice of entries lies in memory; what a call leaves as it was. By an AI agent.
-/
import Derived.Test.Qxb6601232aProg
import Derived.WalkKit
import Derived.WalkSpells
import Derived.WalkLawsBesides
namespace Go.Proofs.Qxb6601232a
open Go.RowKit
set_option linter.unusedVariables false

/-- Of the old blocks those that T names are as they were; the streams are as they were; no block has gone. -/
structure Fr (T : Nat → Prop) (w w' : World) : Prop where
  os : w'.os = w.os
  tape : w'.tape = w.tape
  output : w'.output = w.output
  size : w.heap.size ≤ w'.heap.size
  block : ∀ k, k < w.heap.size → T k → w'.heap[k]? = w.heap[k]?

def All : Nat → Prop := fun _ => True
/-- The blocks from w's end on. -/
def New (w : World) : Nat → Prop := fun b => w.heap.size ≤ b
/-- The blocks below B. -/
def Lt (B : Nat) : Nat → Prop := fun b => b < B

theorem Fr.refl (T : Nat → Prop) (w : World) : Fr T w w := ⟨rfl, rfl, rfl, Nat.le_refl _, fun _ _ _ => rfl⟩
theorem Fr.trans {T T1 T2 : Nat → Prop} {a b c : World} (h : Fr T1 a b) (k : Fr T2 b c) (ht : ∀ i, i < a.heap.size → T i → T1 i ∧ T2 i) : Fr T a c :=
  ⟨k.os.trans h.os, k.tape.trans h.tape, k.output.trans h.output, Nat.le_trans h.size k.size,
   fun i hi hT => (k.block i (Nat.lt_of_lt_of_le hi h.size) (ht i hi hT).2).trans (h.block i hi (ht i hi hT).1)⟩
theorem Fr.tr {T : Nat → Prop} {a b c : World} (h : Fr T a b) (k : Fr T b c) : Fr T a c := h.trans k fun _ _ t => ⟨t, t⟩
theorem Fr.mono {T T' : Nat → Prop} {a b : World} (h : Fr T a b) (ht : ∀ i, i < a.heap.size → T' i → T i) : Fr T' a b := ⟨h.os, h.tape, h.output, h.size, fun i hi hT => h.block i hi (ht i hi hT)⟩
theorem Fr.any {T : Nat → Prop} {a b : World} (h : Fr All a b) : Fr T a b := h.mono fun _ _ _ => trivial
theorem Fr.drew (T : Nat → Prop) (w : World) : Fr T w w.drew := ⟨rfl, rfl, rfl, Nat.le_refl _, fun _ _ _ => rfl⟩
theorem Fr.drewN (T : Nat → Prop) (w : World) (n : Nat) : Fr T w (w.drewN n) := ⟨rfl, rfl, rfl, Nat.le_refl _, fun _ _ _ => rfl⟩
theorem Fr.alloc (T : Nat → Prop) (w : World) (o : Obj) : Fr T w (w.alloc o) := ⟨rfl, rfl, rfl, by simp, fun k hk _ => Below.heap_alloc _ _ _ hk⟩
theorem Fr.setCell {T : Nat → Prop} (w : World) (a : Addr) (u : Value) (ha : ¬ T a.block) : Fr T w (w.setCell a u) :=
  ⟨rfl, rfl, rfl, by simp, fun k _ hT => Below.heap_setCell _ _ _ _ (fun e => ha (e ▸ hT))⟩
theorem Fr.setRow {T : Nat → Prop} (w : World) (g : Nat) (cs : Array Value) (ha : ¬ T g) : Fr T w (w.setRow g cs) :=
  ⟨rfl, rfl, rfl, by simp, fun k _ hT => setRow_other _ _ _ _ (fun e => ha (e ▸ hT))⟩
theorem Fr.grown {T : Nat → Prop} {w w' : World} {row : Option Nat} (hg : w.grownBy w' row) (hr : ∀ k, row = some k → ¬ T k) : Fr T w w' :=
  ⟨hg.os, hg.tape, hg.output, hg.size, fun k hk hT => hg.block k hk (fun e => hr k e.symm hT)⟩
theorem Fr.below {w w' : World} (h : Fr All w w') : Below w.heap.size w w' := ⟨h.os, h.tape, h.output, h.size, fun k hk => h.block k hk trivial⟩
theorem Fr.ofBelow {B : Nat} {w w' : World} (h : Below B w w') : Fr (Lt B) w w' := ⟨h.os, h.tape, h.output, h.size, fun k _ hk => h.block k hk⟩
theorem Fr.ofBelowAll {w w' : World} (h : Below w.heap.size w w') : Fr All w w' := ⟨h.os, h.tape, h.output, h.size, fun k hk _ => h.block k hk⟩
theorem Fr.cell {T : Nat → Prop} {w w' : World} (h : Fr T w w') {a : Addr} (hl : a.block < w.heap.size) (hT : T a.block) : w'.cell? a = w.cell? a := World.cell?_of_block (w := w) (h.block _ hl hT)
theorem Fr.cellSome {T : Nat → Prop} {w w' : World} (h : Fr T w w') {a : Addr} {v : Value} (hc : w.cell? a = some v) (hT : T a.block) : w'.cell? a = some v :=
  (h.cell (World.block_lt_of_cell? w a hc) hT).trans hc
theorem Fr.heap {T : Nat → Prop} {w w' : World} (h : Fr T w w') {g : Nat} {o : Obj} (hg : w.heap[g]? = some o) (hT : T g) : w'.heap[g]? = some o :=
  (h.block g (lt_of_block hg) hT).trans hg

/-- A slice value of n elements whose cells are xs; they lie in a block that T names. -/
def Rd (T : Nat → Prop) (w : World) (v : Value) (n : Nat) (xs : List Value) : Prop :=
  ∃ ao c, v = .slice ao n c ∧ n ≤ c ∧ c ≤ maxLen ∧ (ao = none → c = 0) ∧
    (0 < n → ∃ b off, ao = some ⟨b, off, none⟩ ∧ T b ∧ ∀ j u, xs[j]? = some u → w.cell? ⟨b, off + j, none⟩ = some u)

theorem Rd.fr {T : Nat → Prop} {w w' : World} {v : Value} {n : Nat} {xs : List Value} (h : Rd T w v n xs) (f : Fr T w w') : Rd T w' v n xs := by
  obtain ⟨ao, c, rfl, h1, h2, h3, h4⟩ := h
  refine ⟨ao, c, rfl, h1, h2, h3, fun hn => ?_⟩
  obtain ⟨b, off, rfl, hT, hc⟩ := h4 hn
  exact ⟨b, off, rfl, hT, fun j u hj => f.cellSome (hc j u hj) hT⟩
theorem Rd.mono {T T' : Nat → Prop} {w : World} {v : Value} {n : Nat} {xs : List Value} (h : Rd T w v n xs) (ht : ∀ i, T i → T' i) : Rd T' w v n xs := by
  obtain ⟨ao, c, rfl, h1, h2, h3, h4⟩ := h
  refine ⟨ao, c, rfl, h1, h2, h3, fun hn => ?_⟩
  obtain ⟨b, off, rfl, hT, hc⟩ := h4 hn
  exact ⟨b, off, rfl, ht b hT, hc⟩
/-- The same under a narrower name: only blocks that are there count. -/
theorem Rd.mono' {T T' : Nat → Prop} {w : World} {v : Value} {n : Nat} {xs : List Value} (h : Rd T w v n xs) (hx : 0 < n → xs ≠ []) (ht : ∀ i, i < w.heap.size → T i → T' i) : Rd T' w v n xs := by
  obtain ⟨ao, c, rfl, h1, h2, h3, h4⟩ := h
  refine ⟨ao, c, rfl, h1, h2, h3, fun hn => ?_⟩
  obtain ⟨b, off, rfl, hT, hc⟩ := h4 hn
  match xs, hx hn with
  | x :: xs, _ => exact ⟨b, off, rfl, ht b (World.block_lt_of_cell? w _ (hc 0 x rfl)) hT, hc⟩
theorem Rd.nil (T : Nat → Prop) (w : World) : Rd T w (.slice none 0 0) 0 [] := ⟨none, 0, rfl, Nat.le_refl _, Nat.zero_le _, fun _ => rfl, fun h => by omega⟩
/-- A new row. -/
theorem Rd.row {T : Nat → Prop} {w : World} {g n c : Nat} {cur : Array Value} {e : TypeId} {fz : Nat × Nat} {xs : List Value} (hg : w.heap[g]? = some (.cells cur e fz)) (hT : T g) (hn : n ≤ c) (hc : c ≤ maxLen)
    (hx : ∀ (j : Nat) (u : Value), xs[j]? = some u → cur[j]? = some u) : Rd T w (.slice (some ⟨g, 0, none⟩) n c) n xs :=
  ⟨_, c, rfl, hn, hc, (by intro h; cases h), fun _ => ⟨g, 0, rfl, hT, fun j u hj => by rw [cell_of_row w g _ cur e fz hg, Nat.zero_add]; exact hx j u hj⟩⟩
/-- What is owned can be read. -/
theorem Rd.own {T : Nat → Prop} {w : World} {base : Nat} {e : TypeId} {size : Nat} {v : Value} {n : Nat} {xs : List Value} (h : w.ownsRow base e size v n xs) (hT : ∀ b, base ≤ b → v.ownBlock = some b → T b) : Rd T w v n xs := by
  obtain ⟨hl, h⟩ := h
  rcases h with ⟨rfl, rfl⟩ | ⟨g, cap, cur, rfl, hb, hg, hn, hc, hs, rfl⟩
  · exact ⟨none, 0, rfl, Nat.le_refl _, Nat.zero_le _, fun _ => rfl, fun h => by omega⟩
  · refine Rd.row hg (hT g hb rfl) hn hc fun j u hj => ?_
    rw [List.getElem?_take] at hj
    split at hj
    · rw [← hj, Array.getElem?_toList]
    · cases hj

/-- Numbers. -/
def U8s (T : Nat → Prop) (w : World) (v : Value) (bs : List Int) : Prop := Rd T w v bs.length (bs.map (Value.int .u8))
def U64s (T : Nat → Prop) (w : World) (v : Value) (ns : List Int) : Prop := Rd T w v ns.length (ns.map (Value.int .u64))

theorem U64s.fr {T : Nat → Prop} {w w' : World} {v : Value} {ns : List Int} (h : U64s T w v ns) (f : Fr T w w') : U64s T w' v ns := Rd.fr h f
theorem U64s.mono {T T' : Nat → Prop} {w : World} {v : Value} {ns : List Int} (h : U64s T w v ns) (ht : ∀ i, T i → T' i) : U64s T' w v ns := Rd.mono h ht

/-- Strings; numbers; bools. -/
def Strs (T : Nat → Prop) (w : World) (v : Value) (ss : List ByteArray) : Prop := Rd T w v ss.length (ss.map Value.string)
def I64s (T : Nat → Prop) (w : World) (v : Value) (ns : List Int) : Prop := Rd T w v ns.length (ns.map (Value.int .i64))
def Bls (T : Nat → Prop) (w : World) (v : Value) (bs : List Bool) : Prop := Rd T w v bs.length (bs.map Value.bool)
theorem cell_at {α : Type} {f : α → Value} {w : World} {b off : Nat} {ns : List α} (h : ∀ j u, (ns.map f)[j]? = some u → w.cell? ⟨b, off + j, none⟩ = some u) {i : Nat} {x : α} (hi : ns[i]? = some x) :
    w.cell? ⟨b, off + i, none⟩ = some (f x) := h i _ (by simp [hi])
theorem own_of_row {w : World} {base g n size : Nat} {cur : Array Value} {e : TypeId} {xs : List Value} (hg : w.heap[g]? = some (.cells cur e (0, 0))) (hb : base ≤ g) (hs : cur.size = n * size) (ht : cur.toList.take (n * size) = xs) (hm : n ≤ maxLen) :
    w.ownsRow base e size (.slice (some ⟨g, 0, none⟩) n n) n xs :=
  ⟨by rw [← ht]; simp; omega, .inr ⟨g, n, cur, rfl, hb, hg, Nat.le_refl _, hm, hs, ht⟩⟩
theorem own_shape {w : World} {base : Nat} {e : TypeId} {size : Nat} {v : Value} {n : Nat} {xs : List Value} (h : w.ownsRow base e size v n xs) : ∃ ao n c, v = .slice ao n c := by
  obtain ⟨_, h⟩ := h
  rcases h with ⟨rfl, _⟩ | ⟨g, cap, cur, rfl, _⟩
  · exact ⟨_, _, _, rfl⟩
  · exact ⟨_, _, _, rfl⟩

theorem nums_cell {k : IntKind} {w : World} {b off : Nat} {ns : List Int} (h : ∀ j u, (ns.map (Value.int k))[j]? = some u → w.cell? ⟨b, off + j, none⟩ = some u) {i : Nat} {x : Int} (hi : ns[i]? = some x) :
    w.cell? ⟨b, off + i, none⟩ = some (.int k x) := h i _ (by simp [hi])
theorem take_set_snoc {α : Type} (l : List α) (k : Nat) (x : α) (h : k < l.length) : (l.set k x).take (k + 1) = l.take k ++ [x] := by
  apply List.ext_getElem?
  intro j
  by_cases h0 : j < k
  · rw [List.getElem?_take_of_lt (by omega), List.getElem?_append_left (by simp; omega), List.getElem?_set_ne (by omega), List.getElem?_take_of_lt h0]
  · by_cases h1 : j = k
    · subst h1
      rw [List.getElem?_take_of_lt (by omega), List.getElem?_append_right (by simp; omega), List.getElem?_set_self h]
      simp [Nat.min_eq_left (Nat.le_of_lt h)]
    · rw [List.getElem?_eq_none (by simp; omega), List.getElem?_eq_none (by simp; omega)]


/-- At most the tape's count has moved on. -/
def Qt (w w' : World) : Prop := ∃ n, w' = w.drewN n
theorem Qt.refl (w : World) : Qt w w := ⟨0, rfl⟩
theorem Qt.drewN (w : World) (n : Nat) : Qt w (w.drewN n) := ⟨n, rfl⟩
theorem Qt.drew (w : World) : Qt w w.drew := ⟨1, rfl⟩
theorem drewN_drewN (w : World) (n m : Nat) : (w.drewN n).drewN m = w.drewN (n + m) := by simp [World.drewN, Nat.add_assoc]
theorem Qt.trans {a b c : World} (h : Qt a b) (k : Qt b c) : Qt a c := by
  obtain ⟨n, rfl⟩ := h; obtain ⟨m, rfl⟩ := k; exact ⟨n + m, drewN_drewN _ _ _⟩
theorem Qt.fr {T : Nat → Prop} {w w' : World} (h : Qt w w') : Fr T w w' := by obtain ⟨n, rfl⟩ := h; exact Fr.drewN _ _ _
theorem Qt.cell {w w' : World} (h : Qt w w') (a : Addr) : w'.cell? a = w.cell? a := by obtain ⟨n, rfl⟩ := h; rfl
theorem Qt.size {w w' : World} (h : Qt w w') : w'.heap.size = w.heap.size := by obtain ⟨n, rfl⟩ := h; rfl
theorem Qt.heap {w w' : World} (h : Qt w w') : w'.heap = w.heap := by obtain ⟨n, rfl⟩ := h; rfl

/-- Ends that the walk's simp leaves alone: a bool comes back; at most the tape's count has moved on. -/
def RetB (w : World) (p : Bool → Prop) (e : Ending) (w' : World) : Prop := ∃ b : Bool, e = .returned (.bool b) ∧ Qt w w' ∧ p b
def RetIB (w : World) (e : Ending) (w' : World) : Prop := ∃ (t : Int) (b : Bool), e = .returned (.tuple #[.int .i64 t, .bool b]) ∧ Qt w w'


end Go.Proofs.Qxb6601232a
