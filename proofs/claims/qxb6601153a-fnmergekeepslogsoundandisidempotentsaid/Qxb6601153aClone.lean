/-
  SEAT b6601153a. THE WALKS OF cloneBytes, cloneU64, cloneIDs. By an AI agent.
-/
import Derived.Test.Qxb6601153aBase
namespace Go.Proofs.Qxb6601153a
open Go.RowKit
set_option linter.unusedVariables false

theorem Try.info5 : (Try.prog.info? 5).map (fun i => (i.zero, i.size, i.bytes)) = some (some (.int .u8 0), 1, 1) := by kernel_rfl
theorem Try.info22 : (Try.prog.info? 22).map (fun i => (i.zero, i.size, i.bytes)) = some (some (.int .u64 0), 1, 8) := by kernel_rfl
theorem Try.info71 : (Try.prog.info? 71).map (fun i => (i.zero, i.size, i.bytes)) = some (some (.int .u64 0), 1, 8) := by kernel_rfl
theorem Try.info47 : (Try.prog.info? 47).map (fun i => (i.zero, i.size, i.bytes)) = some (some (.agg #[.int .u64 0, .int .u64 0, .slice none 0 0, .bool false]), 4, 48) := by kernel_rfl
theorem Try.info61 : (Try.prog.info? 61).map (fun i => (i.zero, i.size, i.bytes)) = some (some (.agg #[.int .u64 0, .int .u64 0, .slice none 0 0, .pointer none]), 4, 48) := by kernel_rfl

/-- What make lays, under a name that the walk leaves alone. -/
def made (z : Value) (n : Nat) : Array Value := madeCells z.cells n
theorem size_made (z : Value) (n : Nat) : (made z n).size = n := by simp [made, madeCells]

/-- make([]T, n). -/
theorem run_mk {P : Program} {t e : TypeId} {z : Value} {size bytes : Nat} (ht : P.underlying t = some (.slice e)) (hi : (P.info? e).map (fun i => (i.zero, i.size, i.bytes)) = some (some z, size, bytes))
    (n : Nat) (hb : bytes * n ≤ 281474976710656) (hn : n ≤ maxLen) (w : World) :
    (Instr.makeSlice t (.int .i64 (n : Int)) (.int .i64 (n : Int))).run P w = .ok (.slice (some ⟨w.heap.size, 0, none⟩) n n) (w.alloc (.cells (made z (n * size)) e)) := by
  obtain ⟨i0, h0, h1, h2, h3⟩ := info_parts hi
  unfold maxLen at hn
  have := run_make (P := P) w t e i0 z ht h0 h1 .i64 .i64 (n : Int) (n : Int) (by omega) (by omega) (by rw [h3]; omega) (by omega)
  simpa [h2, made] using this

/-- copy(out, s), out a new row as long as s. -/
theorem run_cp {P : Program} {T : Nat → Prop} {dT sT ty e : TypeId} {z : Value} {size bytes : Nat} (ht : P.underlying dT = some (.slice e)) (hi : (P.info? e).map (fun i => (i.zero, i.size, i.bytes)) = some (some z, size, bytes))
    (w : World) (n c : Nat) (ao : Option Addr) (xs : List Value) (Z : Array Value) (hZ : Z.size = n * size) (hx : xs.length = n * size) (h1 : ∀ v ∈ xs, v.oneCell' = true) (h : Rd T w (.slice ao n c) n xs) :
    (Builtin.copy_ #[dT, sT] ty #[.slice (some ⟨w.heap.size, 0, none⟩) n n, .slice ao n c]).run P (w.alloc (.cells Z e)) = .ok (goInt n) (w.alloc (.cells xs.toArray e)) := by
  obtain ⟨i0, h0, _, h2, _⟩ := info_parts hi
  obtain ⟨ao', c', he, _, _, _, hp⟩ := h
  cases he
  have hg : (w.alloc (.cells Z e)).heap[w.heap.size]? = some (.cells Z e (0, 0)) := heap_alloc_new w _
  by_cases hn : n = 0
  · subst hn
    simp at hx; subst hx
    obtain rfl : Z = #[] := by apply Array.eq_empty_of_size_eq_zero; omega
    have hl : ∀ (x : Addr), (loadCells x 0).run P (w.alloc (.cells #[] e)) = .ok #[] (w.alloc (.cells #[] e)) := fun x => by simpa using run_loadCells_list (P := P) (w.alloc (.cells #[] e)) x [] (by simp)
    cases ao <;> simp [Builtin.copy_, run_underlying ht, Builtin.lenOf, Builtin.firstCells, sizeOf, typeInfo, h0, storeCells, hl]
  · obtain ⟨b, off, rfl, _, hc⟩ := hp (by omega)
    have hsrc : ∀ j v, xs[j]? = some v → (w.alloc (.cells Z e)).cell? ((⟨b, off, none⟩ : Addr).add j) = some v := by
      intro j v hj
      have e1 : (⟨b, off, none⟩ : Addr).add j = ⟨b, off + j, none⟩ := by unfold Addr.add; split <;> simp_all
      rw [e1]
      exact (World.cell?_alloc_lt _ _ _ (World.block_lt_of_cell? w _ (hc j v hj))).trans (hc j v hj)
    have hl := run_loadCells_list (P := P) (w.alloc (.cells Z e)) ⟨b, off, none⟩ xs hsrc
    have hst := run_storeCells_at P w.heap.size 0 e xs 0 Z (w.alloc (.cells Z e)) hg (by omega) h1
    have e2 : (w.alloc (.cells Z e)).setRow w.heap.size xs.toArray = w.alloc (.cells xs.toArray e) := by
      simp only [World.setRow, World.alloc]
      congr 1
      apply Array.ext
      · simp
      · intro k h1 h2
        simp only [Array.getElem_modify, Array.getElem_push]
        split
        · subst k; simp
        · simp at h2; split
          · rfl
          · omega
    have e3 : (Z.toList.take (0 + 0) ++ xs ++ Z.toList.drop (0 + 0 + xs.length)).toArray = xs.toArray := by
      simp; omega
    rw [e3, e2] at hst
    have hm : n * i0.size = xs.length := by rw [h2, hx]
    simp [Builtin.copy_, run_underlying ht, Builtin.lenOf, Builtin.firstCells, sizeOf, typeInfo, h0, hm, hl, hst]

theorem oneCell_ints (k : IntKind) (zs : List Int) : ∀ u ∈ zs.map (Value.int k), u.oneCell' = true := ints_oneCell k zs


theorem own_new (w : World) (e : TypeId) (size n : Nat) (xs : List Value) (hx : xs.length = n * size) (hn : n ≤ maxLen) :
    (w.alloc (.cells xs.toArray e)).ownsRow w.heap.size e size (.slice (some ⟨w.heap.size, 0, none⟩) n n) n xs :=
  ⟨hx, .inr ⟨w.heap.size, n, _, rfl, Nat.le_refl _, heap_alloc_new _ _, Nat.le_refl _, hn, by simpa using hx, by simpa using List.take_of_length_le (by omega)⟩⟩

set_option maxRecDepth 100000 in
/-- cloneBytes. -/
theorem c33 {T : Nat → Prop} (w : World) (v : Value) (bs : List Int) (h : Rd T w v bs.length (bs.map (Value.int .u8))) (hn : bs.length ≤ 1048576) :
    Calls Try.prog 33 #[v] w fun e w' => ∃ v', e = .returned v' ∧ Fr All w w' ∧ w'.ownsRow w.heap.size 5 1 v' bs.length (bs.map (Value.int .u8)) := by
  have h' := h
  obtain ⟨ao, c, rfl, _, _, hnil, hp⟩ := h'
  have h1 := Lib.run_eql_slice_nil (P := Try.prog)
  cases ao with
  | none =>
    have hc0 := hnil rfl
    have hb0 : bs = [] := by
      apply List.eq_nil_of_length_eq_zero; omega
    subst hb0 hc0
    clear h hnil hp
    go_enter Try.func33, Try.ntmps33
    go_wp2
    go_ret
    exact ⟨_, rfl, Fr.refl _ _, World.ownsRow_nil _ _ _ _⟩
  | some a =>
    have hmk := run_mk (P := Try.prog) Try.underlying45 Try.info5 bs.length (by omega) (by unfold maxLen; omega)
    have hcp := run_cp (P := Try.prog) (sT := 45) (ty := 3) Try.underlying45 Try.info5 w bs.length c (some a) (bs.map (Value.int .u8)) (made (.int .u8 0) (bs.length * 1)) (size_made _ _) (by simp) (oneCell_ints _ _) h
    simp only [Nat.mul_one] at hmk hcp
    clear h hnil hp
    go_enter Try.func33, Try.ntmps33
    go_wp2
    go_ret
    exact ⟨_, rfl, Fr.alloc _ _ _, own_new _ _ _ _ _ (by simp) (by unfold maxLen; omega)⟩

set_option maxRecDepth 100000 in
/-- cloneU64. -/
theorem c10 {T : Nat → Prop} (w : World) (v : Value) (bs : List Int) (h : Rd T w v bs.length (bs.map (Value.int .u64))) (hn : bs.length ≤ 1048576) :
    Calls Try.prog 10 #[v] w fun e w' => ∃ v', e = .returned v' ∧ Fr All w w' ∧ w'.ownsRow w.heap.size 22 1 v' bs.length (bs.map (Value.int .u64)) := by
  have h' := h
  obtain ⟨ao, c, rfl, _, _, hnil, hp⟩ := h'
  have h1 := Lib.run_eql_slice_nil (P := Try.prog)
  cases ao with
  | none =>
    have hc0 := hnil rfl
    have hb0 : bs = [] := by
      apply List.eq_nil_of_length_eq_zero; omega
    subst hb0 hc0
    clear h hnil hp
    go_enter Try.func10, Try.ntmps10
    go_wp2
    go_ret
    exact ⟨_, rfl, Fr.refl _ _, World.ownsRow_nil _ _ _ _⟩
  | some a =>
    have hmk := run_mk (P := Try.prog) Try.underlying24 Try.info22 bs.length (by omega) (by unfold maxLen; omega)
    have hcp := run_cp (P := Try.prog) (sT := 24) (ty := 3) Try.underlying24 Try.info22 w bs.length c (some a) (bs.map (Value.int .u64)) (made (.int .u64 0) (bs.length * 1)) (size_made _ _) (by simp) (oneCell_ints _ _) h
    simp only [Nat.mul_one] at hmk hcp
    clear h hnil hp
    go_enter Try.func10, Try.ntmps10
    go_wp2
    go_ret
    exact ⟨_, rfl, Fr.alloc _ _ _, own_new _ _ _ _ _ (by simp) (by unfold maxLen; omega)⟩

set_option maxRecDepth 100000 in
/-- cloneIDs. -/
theorem c39 {T : Nat → Prop} (w : World) (v : Value) (bs : List Int) (h : Rd T w v bs.length (bs.map (Value.int .u64))) (hn : bs.length ≤ 1048576) :
    Calls Try.prog 39 #[v] w fun e w' => ∃ v', e = .returned v' ∧ Fr All w w' ∧ w'.ownsRow w.heap.size 71 1 v' bs.length (bs.map (Value.int .u64)) := by
  have h' := h
  obtain ⟨ao, c, rfl, _, _, hnil, hp⟩ := h'
  have h1 := Lib.run_eql_slice_nil (P := Try.prog)
  cases ao with
  | none =>
    have hc0 := hnil rfl
    have hb0 : bs = [] := by
      apply List.eq_nil_of_length_eq_zero; omega
    subst hb0 hc0
    clear h hnil hp
    go_enter Try.func39, Try.ntmps39
    go_wp2
    go_ret
    exact ⟨_, rfl, Fr.refl _ _, World.ownsRow_nil _ _ _ _⟩
  | some a =>
    have hmk := run_mk (P := Try.prog) Try.underlying31 Try.info71 bs.length (by omega) (by unfold maxLen; omega)
    have hcp := run_cp (P := Try.prog) (sT := 31) (ty := 3) Try.underlying31 Try.info71 w bs.length c (some a) (bs.map (Value.int .u64)) (made (.int .u64 0) (bs.length * 1)) (size_made _ _) (by simp) (oneCell_ints _ _) h
    simp only [Nat.mul_one] at hmk hcp
    clear h hnil hp
    go_enter Try.func39, Try.ntmps39
    go_wp2
    go_ret
    exact ⟨_, rfl, Fr.alloc _ _ _, own_new _ _ _ _ _ (by simp) (by unfold maxLen; omega)⟩

set_option maxRecDepth 100000 in
/-- toIDs. -/
theorem c43 {T : Nat → Prop} (w : World) (v : Value) (ns : List Int) (h : U64s T w v ns) (hn : ns.length ≤ 1048576) :
    Calls Try.prog 43 #[v] w fun e w' => ∃ v', e = .returned v' ∧ Fr All w w' ∧ w'.ownsRow w.heap.size 71 1 v' ns.length (ns.map (Value.int .u64)) := by
  obtain ⟨ao, c, rfl, _, _, hnil, hp⟩ := h
  have h1 := Lib.run_eql_slice_nil (P := Try.prog)
  cases ao with
  | none =>
    have hc0 := hnil rfl
    have hb0 : ns = [] := by
      apply List.eq_nil_of_length_eq_zero; omega
    subst hb0 hc0
    clear hnil hp
    go_enter Try.func43, Try.ntmps43
    go_wp2
    go_ret
    exact ⟨_, rfl, Fr.refl _ _, World.ownsRow_nil _ _ _ _⟩
  | some a =>
    have hmk := run_mk (P := Try.prog) Try.underlying31 Try.info71 ns.length (by omega) (by unfold maxLen; omega)
    clear hnil
    have hpH : Hid (0 < ns.length → ∃ b off, some a = some ⟨b, off, none⟩ ∧ T b ∧ ∀ j u, (ns.map (Value.int .u64))[j]? = some u → w.cell? ⟨b, off + j, none⟩ = some u) := hp
    clear hp
    go_enter Try.func43, Try.ntmps43
    go_wp2
    go_loopw [4] (fun i wr => ∃ k : Nat, k ≤ ns.length ∧ i = .int .i64 k ∧ Fr All w wr ∧ ∃ cur, wr.heap[w.heap.size]? = some (.cells cur 71 (0, 0)) ∧ cur.size = ns.length ∧ cur.toList.take k = (ns.take k).map (Value.int .u64)) (fun i _ => ns.length - (intOf i).toNat)
    case atStart => exact ⟨0, by omega, rfl, Fr.alloc _ _ _, _, heap_alloc_new _ _, by simpa using size_made _ _, by simp⟩
    case round =>
      obtain ⟨k, hk, rfl, hfr, cur, hg, hcs, htk⟩ := hrel
      by_cases hlt : k < ns.length
      · obtain ⟨b, off, ea, hT, hcell⟩ := hpH.out (by omega)
        obtain rfl : a = ⟨b, off, none⟩ := by simpa using ea
        clear ea
        obtain ⟨x, hx⟩ : ∃ x, ns[k]? = some x := ⟨ns[k], by simp [hlt]⟩
        have q0 := hfr.cellSome (nums_cell hcell hx) trivial
        have hbG : b ≠ w.heap.size := Nat.ne_of_lt (World.block_lt_of_cell? w _ (nums_cell hcell hx))
        have s0 : wr.cell? ⟨w.heap.size, k, none⟩ = some (cur[k]'(by omega)) := by rw [cell_of_row wr _ _ cur _ _ hg]; simp
        have z0 : wr.frozen? ⟨w.heap.size, k, none⟩ = false := frozen_of_row wr _ _ cur _ hg
        have HID : Hid (cur.size = ns.length ∧ cur.toList.take k = (ns.take k).map (Value.int .u64) ∧ ns[k]? = some x) := ⟨hcs, htk, hx⟩
        clear htk hx hcell hpH
        go_wp2
        go_roundw
        case rel =>
          obtain ⟨hcs, htk, hx⟩ := HID.out
          refine ⟨k + 1, by omega, by go_num, ?_, cur.setIfInBounds k (.int .u64 x), ?_, by simpa using hcs, ?_⟩
          · exact hfr.trans (Fr.setCell (T := fun x => x ≠ w.heap.size) _ _ _ (by simp)) (fun i hi _ => ⟨trivial, by omega⟩)
          · exact heap_setCell_same wr w.heap.size k cur 71 (.int .u64 x) hg
          · rw [Array.toList_setIfInBounds, take_set_snoc _ _ _ (by simp; omega), htk, List.take_add_one, hx]
            simp
        case measure => simp [intOf]; omega
      · go_wp2
        go_ret
        obtain rfl : k = ns.length := by omega
        refine ⟨_, rfl, hfr, own_of_row hg (Nat.le_refl _) (by omega) ?_ (by unfold maxLen; omega)⟩
        simpa using htk

end Go.Proofs.Qxb6601153a
