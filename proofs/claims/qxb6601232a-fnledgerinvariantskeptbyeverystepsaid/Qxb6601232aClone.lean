/-
  SEAT b6601232a. THE WALKS OF zzCloneStrings, zzCloneInt64s, zzCloneInts, zzCloneBools, zzCloneUint64s, zzCloneUint8s; slices.Clone at []*Standing. By an AI agent.
-/
import Derived.Test.Qxb6601232aNode
namespace Go.Proofs.Qxb6601232a
open Go.RowKit
set_option linter.unusedVariables false

theorem Try.info9 : (Try.prog.info? 9).map (fun i => (i.zero, i.size, i.bytes)) = some (some (.string ByteArray.empty), 1, 16) := by kernel_rfl
theorem Try.info2 : (Try.prog.info? 2).map (fun i => (i.zero, i.size, i.bytes)) = some (some (.int .i64 0), 1, 8) := by kernel_rfl
theorem Try.info3 : (Try.prog.info? 3).map (fun i => (i.zero, i.size, i.bytes)) = some (some (.int .i64 0), 1, 8) := by kernel_rfl
theorem Try.info4 : (Try.prog.info? 4).map (fun i => (i.zero, i.size, i.bytes)) = some (some (.bool false), 1, 1) := by kernel_rfl
theorem Try.info53 : (Try.prog.info? 53).map (fun i => (i.zero, i.size, i.bytes)) = some (some (.int .u64 0), 1, 8) := by kernel_rfl
theorem Try.info5 : (Try.prog.info? 5).map (fun i => (i.zero, i.size, i.bytes)) = some (some (.int .u8 0), 1, 1) := by kernel_rfl

/-- A row of the call's own that holds the same. -/
def Cloned (w : World) (t : TypeId) (xs : List Value) (n : Nat) (e : Ending) (w' : World) : Prop := ∃ v', e = .returned v' ∧ Fr All w w' ∧ w'.ownsRow w.heap.size t 1 v' n xs

set_option maxRecDepth 100000 in
/-- zzCloneStrings. -/
theorem c13 {T : Nat → Prop} (w : World) (v : Value) (ns : List ByteArray) (h : Rd T w v ns.length (ns.map Value.string)) (hn : ns.length ≤ 1048576) :
    Calls Try.prog 13 #[v] w (Cloned w 9 (ns.map Value.string) ns.length) := by
  obtain ⟨ao, c, rfl, _, _, hnil, hp⟩ := h
  have h1 := Lib.run_eql_slice_nil (P := Try.prog)
  cases ao with
  | none =>
    have hc0 := hnil rfl
    have hb0 : ns = [] := by
      apply List.eq_nil_of_length_eq_zero; omega
    subst hb0 hc0
    clear hnil hp
    go_enter Try.func13, Try.ntmps13
    go_wp2
    go_ret
    exact ⟨_, rfl, Fr.refl _ _, World.ownsRow_nil _ _ _ _⟩
  | some a =>
    have hmk := run_mk (P := Try.prog) Try.underlying22 Try.info9 ns.length (by omega) (by unfold maxLen; omega)
    have hpH := hid hp
    clear hnil hp
    go_enter Try.func13, Try.ntmps13
    go_wp2
    go_loopw [4] (fun i wr => ∃ k : Nat, k ≤ ns.length ∧ i = .int .i64 k ∧ Fr All w wr ∧ ∃ cur, wr.heap[w.heap.size]? = some (.cells cur 9 (0, 0)) ∧ cur.size = ns.length ∧ cur.toList.take k = (ns.take k).map Value.string) (fun i _ => ns.length - (intOf i).toNat)
    case atStart => exact ⟨0, by omega, rfl, Fr.alloc _ _ _, _, heap_alloc_new _ _, by simpa using size_made _ _, by simp⟩
    case round =>
      obtain ⟨k, hk, rfl, hfr, cur, hg, hcs, htk⟩ := hrel
      by_cases hlt : k < ns.length
      · obtain ⟨b, off, ea, hT, hcell⟩ := hpH.out (by omega)
        obtain rfl : a = ⟨b, off, none⟩ := by simpa using ea
        clear ea
        obtain ⟨x, hx⟩ : ∃ x, ns[k]? = some x := ⟨ns[k], by simp [hlt]⟩
        have q0 := hfr.cellSome (cell_at hcell hx) trivial
        have hbG : b ≠ w.heap.size := Nat.ne_of_lt (World.block_lt_of_cell? w _ (cell_at hcell hx))
        have s0 : wr.cell? ⟨w.heap.size, k, none⟩ = some (cur[k]'(by omega)) := by rw [cell_of_row wr _ _ cur _ _ hg]; simp
        have z0 : wr.frozen? ⟨w.heap.size, k, none⟩ = false := frozen_of_row wr _ _ cur _ hg
        have HID := hid (And.intro hcs (And.intro htk hx))
        clear htk hx hcell hpH
        go_wp2
        go_roundw
        case rel =>
          obtain ⟨hcs, htk, hx⟩ := HID.out
          refine ⟨k + 1, by omega, by go_num, ?_, cur.setIfInBounds k (Value.string x), ?_, by simpa using hcs, ?_⟩
          · exact hfr.trans (Fr.setCell (T := fun x => x ≠ w.heap.size) _ _ _ (by simp)) (fun i hi _ => ⟨trivial, by omega⟩)
          · exact heap_setCell_same wr w.heap.size k cur 9 (Value.string x) hg
          · rw [Array.toList_setIfInBounds, take_set_snoc _ _ _ (by simp; omega), htk, List.take_add_one, hx]
            simp
        case measure => simp [intOf]; omega
      · go_wp2
        go_ret
        obtain rfl : k = ns.length := by omega
        refine ⟨_, rfl, hfr, own_of_row hg (Nat.le_refl _) (by omega) ?_ (by unfold maxLen; omega)⟩
        simpa using htk

set_option maxRecDepth 100000 in
/-- zzCloneInt64s. -/
theorem c14 {T : Nat → Prop} (w : World) (v : Value) (ns : List Int) (h : Rd T w v ns.length (ns.map (Value.int .i64))) (hn : ns.length ≤ 1048576) :
    Calls Try.prog 14 #[v] w (Cloned w 2 (ns.map (Value.int .i64)) ns.length) := by
  obtain ⟨ao, c, rfl, _, _, hnil, hp⟩ := h
  have h1 := Lib.run_eql_slice_nil (P := Try.prog)
  cases ao with
  | none =>
    have hc0 := hnil rfl
    have hb0 : ns = [] := by
      apply List.eq_nil_of_length_eq_zero; omega
    subst hb0 hc0
    clear hnil hp
    go_enter Try.func14, Try.ntmps14
    go_wp2
    go_ret
    exact ⟨_, rfl, Fr.refl _ _, World.ownsRow_nil _ _ _ _⟩
  | some a =>
    have hmk := run_mk (P := Try.prog) Try.underlying23 Try.info2 ns.length (by omega) (by unfold maxLen; omega)
    have hpH := hid hp
    clear hnil hp
    go_enter Try.func14, Try.ntmps14
    go_wp2
    go_loopw [4] (fun i wr => ∃ k : Nat, k ≤ ns.length ∧ i = .int .i64 k ∧ Fr All w wr ∧ ∃ cur, wr.heap[w.heap.size]? = some (.cells cur 2 (0, 0)) ∧ cur.size = ns.length ∧ cur.toList.take k = (ns.take k).map (Value.int .i64)) (fun i _ => ns.length - (intOf i).toNat)
    case atStart => exact ⟨0, by omega, rfl, Fr.alloc _ _ _, _, heap_alloc_new _ _, by simpa using size_made _ _, by simp⟩
    case round =>
      obtain ⟨k, hk, rfl, hfr, cur, hg, hcs, htk⟩ := hrel
      by_cases hlt : k < ns.length
      · obtain ⟨b, off, ea, hT, hcell⟩ := hpH.out (by omega)
        obtain rfl : a = ⟨b, off, none⟩ := by simpa using ea
        clear ea
        obtain ⟨x, hx⟩ : ∃ x, ns[k]? = some x := ⟨ns[k], by simp [hlt]⟩
        have q0 := hfr.cellSome (cell_at hcell hx) trivial
        have hbG : b ≠ w.heap.size := Nat.ne_of_lt (World.block_lt_of_cell? w _ (cell_at hcell hx))
        have s0 : wr.cell? ⟨w.heap.size, k, none⟩ = some (cur[k]'(by omega)) := by rw [cell_of_row wr _ _ cur _ _ hg]; simp
        have z0 : wr.frozen? ⟨w.heap.size, k, none⟩ = false := frozen_of_row wr _ _ cur _ hg
        have HID := hid (And.intro hcs (And.intro htk hx))
        clear htk hx hcell hpH
        go_wp2
        go_roundw
        case rel =>
          obtain ⟨hcs, htk, hx⟩ := HID.out
          refine ⟨k + 1, by omega, by go_num, ?_, cur.setIfInBounds k (.int .i64 x), ?_, by simpa using hcs, ?_⟩
          · exact hfr.trans (Fr.setCell (T := fun x => x ≠ w.heap.size) _ _ _ (by simp)) (fun i hi _ => ⟨trivial, by omega⟩)
          · exact heap_setCell_same wr w.heap.size k cur 2 (.int .i64 x) hg
          · rw [Array.toList_setIfInBounds, take_set_snoc _ _ _ (by simp; omega), htk, List.take_add_one, hx]
            simp
        case measure => simp [intOf]; omega
      · go_wp2
        go_ret
        obtain rfl : k = ns.length := by omega
        refine ⟨_, rfl, hfr, own_of_row hg (Nat.le_refl _) (by omega) ?_ (by unfold maxLen; omega)⟩
        simpa using htk

set_option maxRecDepth 100000 in
/-- zzCloneInts. -/
theorem c15 {T : Nat → Prop} (w : World) (v : Value) (ns : List Int) (h : Rd T w v ns.length (ns.map (Value.int .i64))) (hn : ns.length ≤ 1048576) :
    Calls Try.prog 15 #[v] w (Cloned w 3 (ns.map (Value.int .i64)) ns.length) := by
  obtain ⟨ao, c, rfl, _, _, hnil, hp⟩ := h
  have h1 := Lib.run_eql_slice_nil (P := Try.prog)
  cases ao with
  | none =>
    have hc0 := hnil rfl
    have hb0 : ns = [] := by
      apply List.eq_nil_of_length_eq_zero; omega
    subst hb0 hc0
    clear hnil hp
    go_enter Try.func15, Try.ntmps15
    go_wp2
    go_ret
    exact ⟨_, rfl, Fr.refl _ _, World.ownsRow_nil _ _ _ _⟩
  | some a =>
    have hmk := run_mk (P := Try.prog) Try.underlying24 Try.info3 ns.length (by omega) (by unfold maxLen; omega)
    have hpH := hid hp
    clear hnil hp
    go_enter Try.func15, Try.ntmps15
    go_wp2
    go_loopw [4] (fun i wr => ∃ k : Nat, k ≤ ns.length ∧ i = .int .i64 k ∧ Fr All w wr ∧ ∃ cur, wr.heap[w.heap.size]? = some (.cells cur 3 (0, 0)) ∧ cur.size = ns.length ∧ cur.toList.take k = (ns.take k).map (Value.int .i64)) (fun i _ => ns.length - (intOf i).toNat)
    case atStart => exact ⟨0, by omega, rfl, Fr.alloc _ _ _, _, heap_alloc_new _ _, by simpa using size_made _ _, by simp⟩
    case round =>
      obtain ⟨k, hk, rfl, hfr, cur, hg, hcs, htk⟩ := hrel
      by_cases hlt : k < ns.length
      · obtain ⟨b, off, ea, hT, hcell⟩ := hpH.out (by omega)
        obtain rfl : a = ⟨b, off, none⟩ := by simpa using ea
        clear ea
        obtain ⟨x, hx⟩ : ∃ x, ns[k]? = some x := ⟨ns[k], by simp [hlt]⟩
        have q0 := hfr.cellSome (cell_at hcell hx) trivial
        have hbG : b ≠ w.heap.size := Nat.ne_of_lt (World.block_lt_of_cell? w _ (cell_at hcell hx))
        have s0 : wr.cell? ⟨w.heap.size, k, none⟩ = some (cur[k]'(by omega)) := by rw [cell_of_row wr _ _ cur _ _ hg]; simp
        have z0 : wr.frozen? ⟨w.heap.size, k, none⟩ = false := frozen_of_row wr _ _ cur _ hg
        have HID := hid (And.intro hcs (And.intro htk hx))
        clear htk hx hcell hpH
        go_wp2
        go_roundw
        case rel =>
          obtain ⟨hcs, htk, hx⟩ := HID.out
          refine ⟨k + 1, by omega, by go_num, ?_, cur.setIfInBounds k (.int .i64 x), ?_, by simpa using hcs, ?_⟩
          · exact hfr.trans (Fr.setCell (T := fun x => x ≠ w.heap.size) _ _ _ (by simp)) (fun i hi _ => ⟨trivial, by omega⟩)
          · exact heap_setCell_same wr w.heap.size k cur 3 (.int .i64 x) hg
          · rw [Array.toList_setIfInBounds, take_set_snoc _ _ _ (by simp; omega), htk, List.take_add_one, hx]
            simp
        case measure => simp [intOf]; omega
      · go_wp2
        go_ret
        obtain rfl : k = ns.length := by omega
        refine ⟨_, rfl, hfr, own_of_row hg (Nat.le_refl _) (by omega) ?_ (by unfold maxLen; omega)⟩
        simpa using htk

set_option maxRecDepth 100000 in
/-- zzCloneBools. -/
theorem c16 {T : Nat → Prop} (w : World) (v : Value) (ns : List Bool) (h : Rd T w v ns.length (ns.map Value.bool)) (hn : ns.length ≤ 1048576) :
    Calls Try.prog 16 #[v] w (Cloned w 4 (ns.map Value.bool) ns.length) := by
  obtain ⟨ao, c, rfl, _, _, hnil, hp⟩ := h
  have h1 := Lib.run_eql_slice_nil (P := Try.prog)
  cases ao with
  | none =>
    have hc0 := hnil rfl
    have hb0 : ns = [] := by
      apply List.eq_nil_of_length_eq_zero; omega
    subst hb0 hc0
    clear hnil hp
    go_enter Try.func16, Try.ntmps16
    go_wp2
    go_ret
    exact ⟨_, rfl, Fr.refl _ _, World.ownsRow_nil _ _ _ _⟩
  | some a =>
    have hmk := run_mk (P := Try.prog) Try.underlying25 Try.info4 ns.length (by omega) (by unfold maxLen; omega)
    have hpH := hid hp
    clear hnil hp
    go_enter Try.func16, Try.ntmps16
    go_wp2
    go_loopw [4] (fun i wr => ∃ k : Nat, k ≤ ns.length ∧ i = .int .i64 k ∧ Fr All w wr ∧ ∃ cur, wr.heap[w.heap.size]? = some (.cells cur 4 (0, 0)) ∧ cur.size = ns.length ∧ cur.toList.take k = (ns.take k).map Value.bool) (fun i _ => ns.length - (intOf i).toNat)
    case atStart => exact ⟨0, by omega, rfl, Fr.alloc _ _ _, _, heap_alloc_new _ _, by simpa using size_made _ _, by simp⟩
    case round =>
      obtain ⟨k, hk, rfl, hfr, cur, hg, hcs, htk⟩ := hrel
      by_cases hlt : k < ns.length
      · obtain ⟨b, off, ea, hT, hcell⟩ := hpH.out (by omega)
        obtain rfl : a = ⟨b, off, none⟩ := by simpa using ea
        clear ea
        obtain ⟨x, hx⟩ : ∃ x, ns[k]? = some x := ⟨ns[k], by simp [hlt]⟩
        have q0 := hfr.cellSome (cell_at hcell hx) trivial
        have hbG : b ≠ w.heap.size := Nat.ne_of_lt (World.block_lt_of_cell? w _ (cell_at hcell hx))
        have s0 : wr.cell? ⟨w.heap.size, k, none⟩ = some (cur[k]'(by omega)) := by rw [cell_of_row wr _ _ cur _ _ hg]; simp
        have z0 : wr.frozen? ⟨w.heap.size, k, none⟩ = false := frozen_of_row wr _ _ cur _ hg
        have HID := hid (And.intro hcs (And.intro htk hx))
        clear htk hx hcell hpH
        go_wp2
        go_roundw
        case rel =>
          obtain ⟨hcs, htk, hx⟩ := HID.out
          refine ⟨k + 1, by omega, by go_num, ?_, cur.setIfInBounds k (Value.bool x), ?_, by simpa using hcs, ?_⟩
          · exact hfr.trans (Fr.setCell (T := fun x => x ≠ w.heap.size) _ _ _ (by simp)) (fun i hi _ => ⟨trivial, by omega⟩)
          · exact heap_setCell_same wr w.heap.size k cur 4 (Value.bool x) hg
          · rw [Array.toList_setIfInBounds, take_set_snoc _ _ _ (by simp; omega), htk, List.take_add_one, hx]
            simp
        case measure => simp [intOf]; omega
      · go_wp2
        go_ret
        obtain rfl : k = ns.length := by omega
        refine ⟨_, rfl, hfr, own_of_row hg (Nat.le_refl _) (by omega) ?_ (by unfold maxLen; omega)⟩
        simpa using htk

set_option maxRecDepth 100000 in
/-- zzCloneUint64s. -/
theorem c17 {T : Nat → Prop} (w : World) (v : Value) (ns : List Int) (h : Rd T w v ns.length (ns.map (Value.int .u64))) (hn : ns.length ≤ 1048576) :
    Calls Try.prog 17 #[v] w (Cloned w 53 (ns.map (Value.int .u64)) ns.length) := by
  obtain ⟨ao, c, rfl, _, _, hnil, hp⟩ := h
  have h1 := Lib.run_eql_slice_nil (P := Try.prog)
  cases ao with
  | none =>
    have hc0 := hnil rfl
    have hb0 : ns = [] := by
      apply List.eq_nil_of_length_eq_zero; omega
    subst hb0 hc0
    clear hnil hp
    go_enter Try.func17, Try.ntmps17
    go_wp2
    go_ret
    exact ⟨_, rfl, Fr.refl _ _, World.ownsRow_nil _ _ _ _⟩
  | some a =>
    have hmk := run_mk (P := Try.prog) Try.underlying26 Try.info53 ns.length (by omega) (by unfold maxLen; omega)
    have hpH := hid hp
    clear hnil hp
    go_enter Try.func17, Try.ntmps17
    go_wp2
    go_loopw [4] (fun i wr => ∃ k : Nat, k ≤ ns.length ∧ i = .int .i64 k ∧ Fr All w wr ∧ ∃ cur, wr.heap[w.heap.size]? = some (.cells cur 53 (0, 0)) ∧ cur.size = ns.length ∧ cur.toList.take k = (ns.take k).map (Value.int .u64)) (fun i _ => ns.length - (intOf i).toNat)
    case atStart => exact ⟨0, by omega, rfl, Fr.alloc _ _ _, _, heap_alloc_new _ _, by simpa using size_made _ _, by simp⟩
    case round =>
      obtain ⟨k, hk, rfl, hfr, cur, hg, hcs, htk⟩ := hrel
      by_cases hlt : k < ns.length
      · obtain ⟨b, off, ea, hT, hcell⟩ := hpH.out (by omega)
        obtain rfl : a = ⟨b, off, none⟩ := by simpa using ea
        clear ea
        obtain ⟨x, hx⟩ : ∃ x, ns[k]? = some x := ⟨ns[k], by simp [hlt]⟩
        have q0 := hfr.cellSome (cell_at hcell hx) trivial
        have hbG : b ≠ w.heap.size := Nat.ne_of_lt (World.block_lt_of_cell? w _ (cell_at hcell hx))
        have s0 : wr.cell? ⟨w.heap.size, k, none⟩ = some (cur[k]'(by omega)) := by rw [cell_of_row wr _ _ cur _ _ hg]; simp
        have z0 : wr.frozen? ⟨w.heap.size, k, none⟩ = false := frozen_of_row wr _ _ cur _ hg
        have HID := hid (And.intro hcs (And.intro htk hx))
        clear htk hx hcell hpH
        go_wp2
        go_roundw
        case rel =>
          obtain ⟨hcs, htk, hx⟩ := HID.out
          refine ⟨k + 1, by omega, by go_num, ?_, cur.setIfInBounds k (.int .u64 x), ?_, by simpa using hcs, ?_⟩
          · exact hfr.trans (Fr.setCell (T := fun x => x ≠ w.heap.size) _ _ _ (by simp)) (fun i hi _ => ⟨trivial, by omega⟩)
          · exact heap_setCell_same wr w.heap.size k cur 53 (.int .u64 x) hg
          · rw [Array.toList_setIfInBounds, take_set_snoc _ _ _ (by simp; omega), htk, List.take_add_one, hx]
            simp
        case measure => simp [intOf]; omega
      · go_wp2
        go_ret
        obtain rfl : k = ns.length := by omega
        refine ⟨_, rfl, hfr, own_of_row hg (Nat.le_refl _) (by omega) ?_ (by unfold maxLen; omega)⟩
        simpa using htk

set_option maxRecDepth 100000 in
/-- zzCloneUint8s. -/
theorem c44 {T : Nat → Prop} (w : World) (v : Value) (ns : List Int) (h : Rd T w v ns.length (ns.map (Value.int .u8))) (hn : ns.length ≤ 1048576) :
    Calls Try.prog 44 #[v] w (Cloned w 5 (ns.map (Value.int .u8)) ns.length) := by
  obtain ⟨ao, c, rfl, _, _, hnil, hp⟩ := h
  have h1 := Lib.run_eql_slice_nil (P := Try.prog)
  cases ao with
  | none =>
    have hc0 := hnil rfl
    have hb0 : ns = [] := by
      apply List.eq_nil_of_length_eq_zero; omega
    subst hb0 hc0
    clear hnil hp
    go_enter Try.func44, Try.ntmps44
    go_wp2
    go_ret
    exact ⟨_, rfl, Fr.refl _ _, World.ownsRow_nil _ _ _ _⟩
  | some a =>
    have hmk := run_mk (P := Try.prog) Try.underlying73 Try.info5 ns.length (by omega) (by unfold maxLen; omega)
    have hpH := hid hp
    clear hnil hp
    go_enter Try.func44, Try.ntmps44
    go_wp2
    go_loopw [4] (fun i wr => ∃ k : Nat, k ≤ ns.length ∧ i = .int .i64 k ∧ Fr All w wr ∧ ∃ cur, wr.heap[w.heap.size]? = some (.cells cur 5 (0, 0)) ∧ cur.size = ns.length ∧ cur.toList.take k = (ns.take k).map (Value.int .u8)) (fun i _ => ns.length - (intOf i).toNat)
    case atStart => exact ⟨0, by omega, rfl, Fr.alloc _ _ _, _, heap_alloc_new _ _, by simpa using size_made _ _, by simp⟩
    case round =>
      obtain ⟨k, hk, rfl, hfr, cur, hg, hcs, htk⟩ := hrel
      by_cases hlt : k < ns.length
      · obtain ⟨b, off, ea, hT, hcell⟩ := hpH.out (by omega)
        obtain rfl : a = ⟨b, off, none⟩ := by simpa using ea
        clear ea
        obtain ⟨x, hx⟩ : ∃ x, ns[k]? = some x := ⟨ns[k], by simp [hlt]⟩
        have q0 := hfr.cellSome (cell_at hcell hx) trivial
        have hbG : b ≠ w.heap.size := Nat.ne_of_lt (World.block_lt_of_cell? w _ (cell_at hcell hx))
        have s0 : wr.cell? ⟨w.heap.size, k, none⟩ = some (cur[k]'(by omega)) := by rw [cell_of_row wr _ _ cur _ _ hg]; simp
        have z0 : wr.frozen? ⟨w.heap.size, k, none⟩ = false := frozen_of_row wr _ _ cur _ hg
        have HID := hid (And.intro hcs (And.intro htk hx))
        clear htk hx hcell hpH
        go_wp2
        go_roundw
        case rel =>
          obtain ⟨hcs, htk, hx⟩ := HID.out
          refine ⟨k + 1, by omega, by go_num, ?_, cur.setIfInBounds k (.int .u8 x), ?_, by simpa using hcs, ?_⟩
          · exact hfr.trans (Fr.setCell (T := fun x => x ≠ w.heap.size) _ _ _ (by simp)) (fun i hi _ => ⟨trivial, by omega⟩)
          · exact heap_setCell_same wr w.heap.size k cur 5 (.int .u8 x) hg
          · rw [Array.toList_setIfInBounds, take_set_snoc _ _ _ (by simp; omega), htk, List.take_add_one, hx]
            simp
        case measure => simp [intOf]; omega
      · go_wp2
        go_ret
        obtain rfl : k = ns.length := by omega
        refine ⟨_, rfl, hfr, own_of_row hg (Nat.le_refl _) (by omega) ?_ (by unfold maxLen; omega)⟩
        simpa using htk

set_option maxRecDepth 100000 in
set_option maxHeartbeats 1000000 in
/-- slices.Clone at []*Standing. -/
theorem c51 {T : Nat → Prop} (w : World) (ao : Option Addr) (c : Nat) (ps : List Nat) (h : Rd T w (.slice ao ps.length c) ps.length (ps.map ptr)) (hn : ps.length ≤ 1099511627776) :
    Calls Try.prog 51 #[.slice ao ps.length c] w (Cloned w 44 (ps.map ptr) ps.length) := by
  obtain ⟨ao', c', eq, _, _, hnil, hp⟩ := h
  simp only [Value.slice.injEq, true_and] at eq
  obtain ⟨rfl, rfl⟩ := eq
  have h1 := Lib.run_eql_slice_nil (P := Try.prog)
  cases ao with
  | none =>
    have hc0 := hnil rfl
    have hb0 : ps = [] := by
      apply List.eq_nil_of_length_eq_zero; omega
    subst hb0 hc0
    clear hnil hp
    go_enter Try.func51, Try.ntmps51
    go_wp2
    go_ret
    exact ⟨_, rfl, Fr.refl _ _, World.ownsRow_nil _ _ _ _⟩
  | some a =>
    have hnw : Hid (∀ j u, (ps.map ptr)[j]? = some u → w.cell? (a.add j) = some u) := by
      intro j u hj
      have hl : j < ps.length := by have := (List.getElem?_eq_some_iff.1 hj).1; simpa using this
      obtain ⟨b, off, ea, _, hc⟩ := hp (by omega)
      simp at ea; subst ea
      rw [add_plain']; exact hc j u hj
    have honeH : Hid (∀ u ∈ ps.map ptr, u.oneCell' = true) := by intro u hu; obtain ⟨p, _, rfl⟩ := List.mem_map.1 hu; rfl
    clear hnil hp
    obtain ⟨i44, hi44, hz0, hz1, hz2⟩ := info_parts Try.info44
    go_enter Try.func51, Try.ntmps51
    go_wp2_with (first | (at_builtin; refine wpList_append_own _ rfl (.tmp 5) (.tmp 6) 40 rfl w.heap.size 44 i44 (.pointer none) 1 8 Try.underlying40 hi44 hz0 hz1 hz2 rfl (by decide) _ 0 [] rfl ?d0 a ps.length c (ps.map ptr) rfl ?d6 ?d1 ?d2 ?d3 ?d4 ?d5 ?_))
    case d0 => exact own_new w 44 1 0 [] rfl (by unfold maxLen; omega)
    case d6 => simp
    case d1 => exact fun j u hj => (Fr.alloc All _ _).cellSome (hnw.out j u hj) trivial
    case d2 => exact honeH.out
    case d3 => unfold maxLen; omega
    case d4 => omega
    case d5 => simp
    intro v' w' hown' hgrow _
    go_wp2
    go_ret
    refine ⟨_, rfl, ?_, by simpa using hown'⟩
    exact (Fr.alloc All w _).trans (Fr.grown (T := fun b => b ≠ w.heap.size) hgrow (fun k hk h => by simp [Value.ownBlock] at hk; exact h hk.symm)) (fun i hi _ => ⟨trivial, by omega⟩)

end Go.Proofs.Qxb6601232a
