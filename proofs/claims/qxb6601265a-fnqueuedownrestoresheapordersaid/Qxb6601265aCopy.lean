/-
  SEAT b6601265a. THE WALKS OF zzqCopyInt32s, zzqCopyInts, zzqCopyFloats, zzqToVars, zzBytes, zzqInDomain. By an AI agent.
-/
import Derived.Test.Qxb6601265aKit
namespace Go.Proofs.Qxb6601265a
open Go.RowKit
set_option linter.unusedVariables false
set_option linter.unusedSimpArgs false

theorem Try.info21 : (Try.prog.info? 21).map (fun i => (i.zero, i.size, i.bytes)) = some (some (.int .i32 0), 1, 4) := by kernel_rfl
theorem Try.info35 : (Try.prog.info? 35).map (fun i => (i.zero, i.size, i.bytes)) = some (some (.int .i32 0), 1, 4) := by kernel_rfl
theorem Try.info3 : (Try.prog.info? 3).map (fun i => (i.zero, i.size, i.bytes)) = some (some (.int .i64 0), 1, 8) := by kernel_rfl
theorem Try.info27 : (Try.prog.info? 27).map (fun i => (i.zero, i.size, i.bytes)) = some (some (.float .f64 0), 1, 8) := by kernel_rfl

/-- A row of the call's own that holds the same. -/
def Cloned (w : World) (t : TypeId) (xs : List Value) (n : Nat) (e : Ending) (w' : World) : Prop := ∃ v', e = .returned v' ∧ Fr All w w' ∧ w'.ownsRow w.heap.size t 1 v' n xs

set_option maxRecDepth 100000 in
/-- zzqCopyInt32s. -/
theorem c8 {T : Nat → Prop} (w : World) (v : Value) (ns : List Int) (h : Rd T w v ns.length (ns.map (Value.int .i32))) (hn : ns.length ≤ 1048576) :
    Calls Try.prog 8 #[v] w (Cloned w 21 (ns.map (Value.int .i32)) ns.length) := by
  obtain ⟨ao, c, rfl, _, _, hnil, hp⟩ := h
  have h1 := Lib.run_eql_slice_nil (P := Try.prog)
  cases ao with
  | none =>
    have hc0 := hnil rfl
    have hb0 : ns = [] := by
      apply List.eq_nil_of_length_eq_zero; omega
    subst hb0 hc0
    clear hnil hp
    go_enter Try.func8, Try.ntmps8
    go_wp2
    go_ret
    exact ⟨_, rfl, Fr.refl _ _, World.ownsRow_nil _ _ _ _⟩
  | some a =>
    have hmk := run_mk (P := Try.prog) Try.underlying22 Try.info21 ns.length (by omega) (by unfold maxLen; omega)
    have hpH := hid hp
    clear hnil hp
    go_enter Try.func8, Try.ntmps8
    go_wp2
    go_loopw [4] (fun i wr => ∃ k : Nat, k ≤ ns.length ∧ i = .int .i64 k ∧ Fr All w wr ∧ ∃ cur, wr.heap[w.heap.size]? = some (.cells cur 21 (0, 0)) ∧ cur.size = ns.length ∧ cur.toList.take k = (ns.take k).map (Value.int .i32)) (fun i _ => ns.length - (intOf i).toNat)
    case atStart => exact ⟨0, by omega, rfl, Fr.alloc _ _ _, _, heap_alloc_new _ _, by simpa using size_made _ _, by simp⟩
    case round =>
      obtain ⟨k, hk, rfl, hfr, cur, hg, hcs, htk⟩ := hrel
      by_cases hlt : k < ns.length
      · obtain ⟨b, off, ea, hT, hcell⟩ := hpH.out (by omega)
        obtain rfl : a = ⟨b, off, none⟩ := by simpa using ea
        clear ea
        obtain ⟨x, hx⟩ : ∃ x, ns[k]? = some x := ⟨ns[k], by simp [hlt]⟩
        have q0 := hfr.cellSome (cell_at hcell hx) trivial
        have hbG : b ≠ w.heap.size := Nat.ne_of_lt (World.block_lt_of_cell? w _ (cell_at hcell hx))
        have s0 : wr.cell? ⟨w.heap.size, k, none⟩ = some (cur[k]'(by omega)) := by rw [cell_of_row wr _ _ cur _ _ hg]; simp
        have z0 : wr.frozen? ⟨w.heap.size, k, none⟩ = false := frozen_of_row wr _ _ cur _ hg
        have HID := hid (And.intro hcs (And.intro htk hx))
        clear htk hx hcell hpH
        go_wp2
        go_roundw
        case rel =>
          obtain ⟨hcs, htk, hx⟩ := HID.out
          refine ⟨k + 1, by omega, by go_num, ?_, cur.setIfInBounds k (.int .i32 x), ?_, by simpa using hcs, ?_⟩
          · exact hfr.trans (Fr.setCell (T := fun x => x ≠ w.heap.size) _ _ _ (by simp)) (fun i hi _ => ⟨trivial, by omega⟩)
          · exact heap_setCell_same wr w.heap.size k cur 21 (.int .i32 x) hg
          · rw [Array.toList_setIfInBounds, take_set_snoc _ _ _ (by simp; omega), htk, List.take_add_one, hx]
            simp
        case measure => simp [intOf]; omega
      · go_wp2
        go_ret
        obtain rfl : k = ns.length := by omega
        refine ⟨_, rfl, hfr, own_of_row hg (Nat.le_refl _) (by omega) ?_ (by unfold maxLen; omega)⟩
        simpa using htk

set_option maxRecDepth 100000 in
/-- zzqCopyInts. -/
theorem c9 {T : Nat → Prop} (w : World) (v : Value) (ns : List Int) (h : Rd T w v ns.length (ns.map (Value.int .i64))) (hn : ns.length ≤ 1048576) :
    Calls Try.prog 9 #[v] w (Cloned w 3 (ns.map (Value.int .i64)) ns.length) := by
  obtain ⟨ao, c, rfl, _, _, hnil, hp⟩ := h
  have h1 := Lib.run_eql_slice_nil (P := Try.prog)
  cases ao with
  | none =>
    have hc0 := hnil rfl
    have hb0 : ns = [] := by
      apply List.eq_nil_of_length_eq_zero; omega
    subst hb0 hc0
    clear hnil hp
    go_enter Try.func9, Try.ntmps9
    go_wp2
    go_ret
    exact ⟨_, rfl, Fr.refl _ _, World.ownsRow_nil _ _ _ _⟩
  | some a =>
    have hmk := run_mk (P := Try.prog) Try.underlying23 Try.info3 ns.length (by omega) (by unfold maxLen; omega)
    have hpH := hid hp
    clear hnil hp
    go_enter Try.func9, Try.ntmps9
    go_wp2
    go_loopw [4] (fun i wr => ∃ k : Nat, k ≤ ns.length ∧ i = .int .i64 k ∧ Fr All w wr ∧ ∃ cur, wr.heap[w.heap.size]? = some (.cells cur 3 (0, 0)) ∧ cur.size = ns.length ∧ cur.toList.take k = (ns.take k).map (Value.int .i64)) (fun i _ => ns.length - (intOf i).toNat)
    case atStart => exact ⟨0, by omega, rfl, Fr.alloc _ _ _, _, heap_alloc_new _ _, by simpa using size_made _ _, by simp⟩
    case round =>
      obtain ⟨k, hk, rfl, hfr, cur, hg, hcs, htk⟩ := hrel
      by_cases hlt : k < ns.length
      · obtain ⟨b, off, ea, hT, hcell⟩ := hpH.out (by omega)
        obtain rfl : a = ⟨b, off, none⟩ := by simpa using ea
        clear ea
        obtain ⟨x, hx⟩ : ∃ x, ns[k]? = some x := ⟨ns[k], by simp [hlt]⟩
        have q0 := hfr.cellSome (cell_at hcell hx) trivial
        have hbG : b ≠ w.heap.size := Nat.ne_of_lt (World.block_lt_of_cell? w _ (cell_at hcell hx))
        have s0 : wr.cell? ⟨w.heap.size, k, none⟩ = some (cur[k]'(by omega)) := by rw [cell_of_row wr _ _ cur _ _ hg]; simp
        have z0 : wr.frozen? ⟨w.heap.size, k, none⟩ = false := frozen_of_row wr _ _ cur _ hg
        have HID := hid (And.intro hcs (And.intro htk hx))
        clear htk hx hcell hpH
        go_wp2
        go_roundw
        case rel =>
          obtain ⟨hcs, htk, hx⟩ := HID.out
          refine ⟨k + 1, by omega, by go_num, ?_, cur.setIfInBounds k (.int .i64 x), ?_, by simpa using hcs, ?_⟩
          · exact hfr.trans (Fr.setCell (T := fun x => x ≠ w.heap.size) _ _ _ (by simp)) (fun i hi _ => ⟨trivial, by omega⟩)
          · exact heap_setCell_same wr w.heap.size k cur 3 (.int .i64 x) hg
          · rw [Array.toList_setIfInBounds, take_set_snoc _ _ _ (by simp; omega), htk, List.take_add_one, hx]
            simp
        case measure => simp [intOf]; omega
      · go_wp2
        go_ret
        obtain rfl : k = ns.length := by omega
        refine ⟨_, rfl, hfr, own_of_row hg (Nat.le_refl _) (by omega) ?_ (by unfold maxLen; omega)⟩
        simpa using htk

set_option maxRecDepth 100000 in
/-- zzqCopyFloats. -/
theorem c10 {T : Nat → Prop} (w : World) (v : Value) (ns : List Nat) (h : Rd T w v ns.length (ns.map (Value.float .f64))) (hn : ns.length ≤ 1048576) :
    Calls Try.prog 10 #[v] w (Cloned w 27 (ns.map (Value.float .f64)) ns.length) := by
  obtain ⟨ao, c, rfl, _, _, hnil, hp⟩ := h
  have h1 := Lib.run_eql_slice_nil (P := Try.prog)
  cases ao with
  | none =>
    have hc0 := hnil rfl
    have hb0 : ns = [] := by
      apply List.eq_nil_of_length_eq_zero; omega
    subst hb0 hc0
    clear hnil hp
    go_enter Try.func10, Try.ntmps10
    go_wp2
    go_ret
    exact ⟨_, rfl, Fr.refl _ _, World.ownsRow_nil _ _ _ _⟩
  | some a =>
    have hmk := run_mk (P := Try.prog) Try.underlying24 Try.info27 ns.length (by omega) (by unfold maxLen; omega)
    have hpH := hid hp
    have hst := fun (w : World) (a : Addr) (m : Mode) (x : Nat) => run_store Try.prog w a (.float .f64 x) m rfl
    clear hnil hp
    go_enter Try.func10, Try.ntmps10
    go_wp2
    go_loopw [4] (fun i wr => ∃ k : Nat, k ≤ ns.length ∧ i = .int .i64 k ∧ Fr All w wr ∧ ∃ cur, wr.heap[w.heap.size]? = some (.cells cur 27 (0, 0)) ∧ cur.size = ns.length ∧ cur.toList.take k = (ns.take k).map (Value.float .f64)) (fun i _ => ns.length - (intOf i).toNat)
    case atStart => exact ⟨0, by omega, rfl, Fr.alloc _ _ _, _, heap_alloc_new _ _, by simpa using size_made _ _, by simp⟩
    case round =>
      obtain ⟨k, hk, rfl, hfr, cur, hg, hcs, htk⟩ := hrel
      by_cases hlt : k < ns.length
      · obtain ⟨b, off, ea, hT, hcell⟩ := hpH.out (by omega)
        obtain rfl : a = ⟨b, off, none⟩ := by simpa using ea
        clear ea
        obtain ⟨x, hx⟩ : ∃ x, ns[k]? = some x := ⟨ns[k], by simp [hlt]⟩
        have q0 := hfr.cellSome (cell_at hcell hx) trivial
        have hbG : b ≠ w.heap.size := Nat.ne_of_lt (World.block_lt_of_cell? w _ (cell_at hcell hx))
        have s0 : wr.cell? ⟨w.heap.size, k, none⟩ = some (cur[k]'(by omega)) := by rw [cell_of_row wr _ _ cur _ _ hg]; simp
        have z0 : wr.frozen? ⟨w.heap.size, k, none⟩ = false := frozen_of_row wr _ _ cur _ hg
        have HID := hid (And.intro hcs (And.intro htk hx))
        clear htk hx hcell hpH
        go_wp2
        go_roundw
        case rel =>
          obtain ⟨hcs, htk, hx⟩ := HID.out
          refine ⟨k + 1, by omega, by go_num, ?_, cur.setIfInBounds k (.float .f64 x), ?_, by simpa using hcs, ?_⟩
          · exact hfr.trans (Fr.setCell (T := fun x => x ≠ w.heap.size) _ _ _ (by simp)) (fun i hi _ => ⟨trivial, by omega⟩)
          · exact heap_setCell_same wr w.heap.size k cur 27 (.float .f64 x) hg
          · rw [Array.toList_setIfInBounds, take_set_snoc _ _ _ (by simp; omega), htk, List.take_add_one, hx]
            simp
        case measure => simp [intOf]; omega
      · go_wp2
        go_ret
        obtain rfl : k = ns.length := by omega
        refine ⟨_, rfl, hfr, own_of_row hg (Nat.le_refl _) (by omega) ?_ (by unfold maxLen; omega)⟩
        simpa using htk

set_option maxRecDepth 100000 in
/-- zzqToVars. -/
theorem c11 {T : Nat → Prop} (w : World) (v : Value) (ns : List Int) (h : Rd T w v ns.length (ns.map (Value.int .i32))) (hn : ns.length ≤ 1048576) :
    Calls Try.prog 11 #[v] w (Cloned w 35 (ns.map (Value.int .i32)) ns.length) := by
  obtain ⟨ao, c, rfl, _, _, hnil, hp⟩ := h
  have h1 := Lib.run_eql_slice_nil (P := Try.prog)
  cases ao with
  | none =>
    have hc0 := hnil rfl
    have hb0 : ns = [] := by
      apply List.eq_nil_of_length_eq_zero; omega
    subst hb0 hc0
    clear hnil hp
    go_enter Try.func11, Try.ntmps11
    go_wp2
    go_ret
    exact ⟨_, rfl, Fr.refl _ _, World.ownsRow_nil _ _ _ _⟩
  | some a =>
    have hmk := run_mk (P := Try.prog) Try.underlying32 Try.info35 ns.length (by omega) (by unfold maxLen; omega)
    have hpH := hid hp
    clear hnil hp
    go_enter Try.func11, Try.ntmps11
    go_wp2
    go_loopw [4] (fun i wr => ∃ k : Nat, k ≤ ns.length ∧ i = .int .i64 k ∧ Fr All w wr ∧ ∃ cur, wr.heap[w.heap.size]? = some (.cells cur 35 (0, 0)) ∧ cur.size = ns.length ∧ cur.toList.take k = (ns.take k).map (Value.int .i32)) (fun i _ => ns.length - (intOf i).toNat)
    case atStart => exact ⟨0, by omega, rfl, Fr.alloc _ _ _, _, heap_alloc_new _ _, by simpa using size_made _ _, by simp⟩
    case round =>
      obtain ⟨k, hk, rfl, hfr, cur, hg, hcs, htk⟩ := hrel
      by_cases hlt : k < ns.length
      · obtain ⟨b, off, ea, hT, hcell⟩ := hpH.out (by omega)
        obtain rfl : a = ⟨b, off, none⟩ := by simpa using ea
        clear ea
        obtain ⟨x, hx⟩ : ∃ x, ns[k]? = some x := ⟨ns[k], by simp [hlt]⟩
        have q0 := hfr.cellSome (cell_at hcell hx) trivial
        have hbG : b ≠ w.heap.size := Nat.ne_of_lt (World.block_lt_of_cell? w _ (cell_at hcell hx))
        have s0 : wr.cell? ⟨w.heap.size, k, none⟩ = some (cur[k]'(by omega)) := by rw [cell_of_row wr _ _ cur _ _ hg]; simp
        have z0 : wr.frozen? ⟨w.heap.size, k, none⟩ = false := frozen_of_row wr _ _ cur _ hg
        have HID := hid (And.intro hcs (And.intro htk hx))
        clear htk hx hcell hpH
        go_wp2
        go_roundw
        case rel =>
          obtain ⟨hcs, htk, hx⟩ := HID.out
          refine ⟨k + 1, by omega, by go_num, ?_, cur.setIfInBounds k (.int .i32 x), ?_, by simpa using hcs, ?_⟩
          · exact hfr.trans (Fr.setCell (T := fun x => x ≠ w.heap.size) _ _ _ (by simp)) (fun i hi _ => ⟨trivial, by omega⟩)
          · exact heap_setCell_same wr w.heap.size k cur 35 (.int .i32 x) hg
          · rw [Array.toList_setIfInBounds, take_set_snoc _ _ _ (by simp; omega), htk, List.take_add_one, hx]
            simp
        case measure => simp [intOf]; omega
      · go_wp2
        go_ret
        obtain rfl : k = ns.length := by omega
        refine ⟨_, rfl, hfr, own_of_row hg (Nat.le_refl _) (by omega) ?_ (by unfold maxLen; omega)⟩
        simpa using htk

def RetBool (w : World) (e : Ending) (w' : World) : Prop := ∃ b : Bool, e = .returned (.bool b) ∧ w' = w

set_option maxRecDepth 100000 in
/-- zzBytes. -/
theorem c5 (w : World) (a1 a2 a3 : Option Addr) (n1 n2 n3 k1 k2 k3 : Nat) (i : Int) : Calls Try.prog 5 #[.slice a1 n1 k1, .slice a2 n2 k2, .slice a3 n3 k3, .int .i64 i] w (RetBool w) := by
  by_cases h1 : 1048576 < n1
  · go_enter Try.func5, Try.ntmps5
    go_wp2
    go_ret
    exact ⟨_, rfl, rfl⟩
  · by_cases h2 : 1048576 < n2
    · go_enter Try.func5, Try.ntmps5
      go_wp2
      go_ret
      exact ⟨_, rfl, rfl⟩
    · by_cases h3 : 1048576 < n1 + n2
      · go_enter Try.func5, Try.ntmps5
        go_wp2
        go_ret
        exact ⟨_, rfl, rfl⟩
      · by_cases h4 : 1048576 < n3
        · go_enter Try.func5, Try.ntmps5
          go_wp2
          go_ret
          exact ⟨_, rfl, rfl⟩
        · by_cases h5 : 1048576 < n1 + n2 + n3
          · go_enter Try.func5, Try.ntmps5
            go_wp2
            go_ret
            exact ⟨_, rfl, rfl⟩
          · go_enter Try.func5, Try.ntmps5
            go_wp2
            go_ret
            exact ⟨_, rfl, rfl⟩

/-- Every variable of the heap has an activity and a place. -/
def DomZ (H : List Int) (m pn : Nat) : Prop := ∀ x ∈ H, 0 ≤ x ∧ x < m ∧ x < pn
def RetDom (w : World) (H : List Int) (m pn : Nat) (e : Ending) (w' : World) : Prop := ∃ b : Bool, e = .returned (.bool b) ∧ w' = w ∧ (b = true → DomZ H m pn)

set_option maxRecDepth 100000 in
/-- zzqInDomain. -/
theorem c6 {T : Nat → Prop} (w : World) (v : Value) (H : List Int) (a2 a3 : Option Addr) (n2 n3 k2 k3 : Nat) (h : Rd T w v H.length (H.map (Value.int .i32))) (hn : H.length ≤ 1048576) (hr : ∀ x ∈ H, -2147483648 ≤ x ∧ x ≤ 2147483647) :
    Calls Try.prog 6 #[v, .slice a2 n2 k2, .slice a3 n3 k3] w (RetDom w H n3 n2) := by
  obtain ⟨ao, c, rfl, _, _, _, hp⟩ := h
  have hpH := hid (And.intro hp hr)
  clear hp hr
  go_enter Try.func6, Try.ntmps6
  go_wp2
  go_loopw [7] (fun i wr => ∃ k : Nat, k ≤ H.length ∧ i = .int .i64 k ∧ w = wr ∧ ∀ x ∈ H.take k, 0 ≤ x ∧ x < n3 ∧ x < n2) (fun i _ => H.length - (intOf i).toNat)
  case atStart => exact ⟨0, by omega, rfl, rfl, by simp⟩
  case round =>
    obtain ⟨k, hk, rfl, rfl, hd⟩ := hrel
    by_cases hlt : k < H.length
    · obtain ⟨hp, hr⟩ := hpH.out
      obtain ⟨b, off, rfl, hT, hcell⟩ := hp (by omega)
      obtain ⟨x, hx⟩ : ∃ x, H[k]? = some x := ⟨H[k], by simp [hlt]⟩
      have q0 := cell_at hcell hx
      have hxr := hr x (List.mem_of_getElem? hx)
      have hKH := hid (And.intro hd hx)
      clear hcell hx hp hr hpH hd
      by_cases x0 : x < 0
      · go_wp2
        go_ret
        exact ⟨false, rfl, rfl, fun h => by cases h⟩
      · by_cases x1 : (n3 : Int) ≤ x
        · go_wp2
          go_ret
          exact ⟨false, rfl, rfl, fun h => by cases h⟩
        · by_cases x2 : (n2 : Int) ≤ x
          · go_wp2
            go_ret
            exact ⟨false, rfl, rfl, fun h => by cases h⟩
          · go_wp2
            go_roundw
            case rel =>
              obtain ⟨hd, hx⟩ := hKH.out
              refine ⟨k + 1, by omega, by go_num, trivial, fun u hu => ?_⟩
              rw [List.take_add_one, hx] at hu
              simp only [Option.toList_some, List.mem_append, List.mem_singleton] at hu
              rcases hu with hu | rfl
              · exact hd u hu
              · omega
            case measure => simp [intOf]; omega
    · go_wp2
      go_ret
      refine ⟨true, rfl, rfl, fun _ x hx => hd x ?_⟩
      rw [List.take_of_length_le (by omega)]; exact hx

end Go.Proofs.Qxb6601265a
