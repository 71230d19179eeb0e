/-
  SEAT b6601232a. SLICES OF SLICES: zzNestedStringsSize, zzNestedInt64Size, zzCloneNestedStrings, zzCloneNestedInt64s. By an AI agent.
-/
import Derived.Test.Qxb6601232aClone
import Derived.Test.Qxb6601232aSize
namespace Go.Proofs.Qxb6601232a
open Go.RowKit
set_option linter.unusedVariables false
set_option linter.unusedSimpArgs false

theorem Try.info22 : (Try.prog.info? 22).map (fun i => (i.zero, i.size, i.bytes)) = some (some (.slice none 0 0), 1, 24) := by kernel_rfl
theorem Try.info23 : (Try.prog.info? 23).map (fun i => (i.zero, i.size, i.bytes)) = some (some (.slice none 0 0), 1, 24) := by kernel_rfl

/-- A slice of slices. -/
def Nest {α : Type} (f : α → Value) (T : Nat → Prop) (w : World) (v : Value) (xss : List (List α)) : Prop :=
  ∃ vs, Rd T w v xss.length vs ∧ vs.length = xss.length ∧ ∀ (i : Nat) (u : Value) (xs : List α), vs[i]? = some u → xss[i]? = some xs → Rd T w u xs.length (xs.map f)
theorem Nest.fr {α : Type} {f : α → Value} {T : Nat → Prop} {w w' : World} {v : Value} {xss : List (List α)} (h : Nest f T w v xss) (g : Fr T w w') : Nest f T w' v xss := by
  obtain ⟨vs, h1, h2, h3⟩ := h
  exact ⟨vs, h1.fr g, h2, fun i u xs hi hx => (h3 i u xs hi hx).fr g⟩
theorem Nest.mono {α : Type} {f : α → Value} {T T' : Nat → Prop} {w : World} {v : Value} {xss : List (List α)} (h : Nest f T w v xss) (g : ∀ b, T b → T' b) : Nest f T' w v xss := by
  obtain ⟨vs, h1, h2, h3⟩ := h
  exact ⟨vs, h1.mono g, h2, fun i u xs hi hx => (h3 i u xs hi hx).mono g⟩

/-- A copy of a slice of slices: all of it is there. -/
def ClonedN {α : Type} (f : α → Value) (w : World) (xss : List (List α)) (e : Ending) (w' : World) : Prop := ∃ a c, e = .returned (.slice a xss.length c) ∧ Fr All w w' ∧ Nest f (fun b => b < w'.heap.size) w' (.slice a xss.length c) xss
/-- .. while it is made. -/
def Filling {α : Type} (f : α → Value) (w : World) (t : TypeId) (xss : List (List α)) (k : Nat) (wr : World) : Prop :=
  Fr All w wr ∧ ∃ cur, wr.heap[w.heap.size]? = some (.cells cur t (0, 0)) ∧ cur.size = xss.length ∧ ∀ (i : Nat) (xs : List α), i < k → xss[i]? = some xs → ∃ u, cur[i]? = some u ∧ Rd (fun b => b < wr.heap.size ∧ b ≠ w.heap.size) wr u xs.length (xs.map f)
theorem filling_next {α : Type} {f : α → Value} {w wr w' : World} {t e : TypeId} {xss : List (List α)} {k : Nat} {cur : Array Value} {v : Value} {xs : List α} (h : Filling f w t xss k wr) (hg : wr.heap[w.heap.size]? = some (.cells cur t (0, 0))) (hcs : cur.size = xss.length)
    (f' : Fr All wr w') (o : w'.ownsRow wr.heap.size e 1 v xs.length (xs.map f)) (hx : xss[k]? = some xs) (hlt : k < xss.length) : Filling f w t xss (k + 1) (w'.setCell ⟨w.heap.size, k, none⟩ v) := by
  obtain ⟨hfr, cur', hg', hcs', hfil⟩ := h
  rw [hg] at hg'
  simp only [Option.some.injEq, Obj.cells.injEq, and_true] at hg'
  subst hg'
  have hGl := heap_lt hg
  have fs : Fr (fun b => b ≠ w.heap.size) w' (w'.setCell ⟨w.heap.size, k, none⟩ v) := Fr.setCell _ _ _ (by simp)
  refine ⟨(hfr.tr f').trans fs fun i hi _ => ⟨trivial, by omega⟩, _, heap_setCell_same w' w.heap.size k cur t v (f'.heap hg trivial), by simpa using hcs, fun i ys hi hy => ?_⟩
  by_cases hik : i = k
  · subst hik
    rw [hx] at hy; cases hy
    refine ⟨v, by rw [Array.getElem?_setIfInBounds_self_of_lt (by omega)], ?_⟩
    refine Rd.fr (T := fun b => b < (w'.setCell ⟨w.heap.size, i, none⟩ v).heap.size ∧ b ≠ w.heap.size) ?_ (fs.mono fun _ _ h => h.2)
    exact (Rd.own (T := fun b => wr.heap.size ≤ b ∧ b < w'.heap.size) o (fun b h1 h2 => ⟨h1, own_lt o h2⟩)).mono (fun b hb => ⟨by simpa using hb.2, by omega⟩)
  · obtain ⟨u, hu, hr⟩ := hfil i ys (by omega) hy
    refine ⟨u, by rw [Array.getElem?_setIfInBounds_ne (by omega)]; exact hu, ?_⟩
    have s1 : wr.heap.size ≤ (w'.setCell ⟨w.heap.size, k, none⟩ v).heap.size := by have := f'.size; have := fs.size; omega
    exact ((hr.fr f'.any).fr (fs.mono fun _ _ h => h.2)).mono fun b hb => ⟨by omega, hb.2⟩
theorem filling_done {α : Type} {f : α → Value} {w wr : World} {t : TypeId} {xss : List (List α)} (h : Filling f w t xss xss.length wr) (hn : xss.length ≤ 1048576) : ClonedN f w xss (.returned (.slice (some ⟨w.heap.size, 0, none⟩) xss.length xss.length)) wr := by
  obtain ⟨hfr, cur, hg, hcs, hfil⟩ := h
  refine ⟨_, _, rfl, hfr, cur.toList, Rd.row hg (heap_lt hg) (Nat.le_refl _) (by unfold maxLen; omega) (fun j u hj => by simpa using hj), by simpa using hcs, fun i u xs hi hx => ?_⟩
  obtain ⟨u', hu', hr⟩ := hfil i xs ((List.getElem?_eq_some_iff.1 hx).1) hx
  rw [Array.getElem?_toList, hu'] at hi
  cases hi
  exact hr.mono fun b hb => hb.1

set_option maxRecDepth 100000 in
set_option maxHeartbeats 1000000 in
/-- zzCloneNestedStrings. -/
theorem c38 (w : World) (v : Value) (xss : List (List ByteArray)) (h : Nest Value.string All w v xss) (hn : xss.length ≤ 1048576) (hm : ∀ xs ∈ xss, xs.length ≤ 1048576) :
    Calls Try.prog 38 #[v] w (ClonedN Value.string w xss) := by
  obtain ⟨vs, ⟨ao, c, rfl, _, _, hnil, hp⟩, hvl, hin⟩ := h
  have h1 := Lib.run_eql_slice_nil (P := Try.prog)
  cases ao with
  | none =>
    have hc0 := hnil rfl
    have hb0 : xss = [] := by
      apply List.eq_nil_of_length_eq_zero; omega
    subst hb0 hc0
    clear hnil hp hin hm
    go_enter Try.func38, Try.ntmps38
    go_wp2
    go_ret
    exact ⟨none, 0, rfl, Fr.refl _ _, [], Rd.nil _ _, rfl, fun i u xs hi => by simp at hi⟩
  | some a =>
    have hmk := run_mk (P := Try.prog) Try.underlying61 Try.info22 xss.length (by omega) (by unfold maxLen; omega)
    have hpH := hid (And.intro hp (And.intro hin (And.intro hm hvl)))
    clear hnil hp hin hm hvl
    go_enter Try.func38, Try.ntmps38
    go_wp2
    go_loopw [4] (fun i wr => ∃ k : Nat, k ≤ xss.length ∧ i = .int .i64 k ∧ Filling Value.string w 22 xss k wr) (fun i _ => xss.length - (intOf i).toNat)
    case atStart => exact ⟨0, by omega, rfl, Fr.alloc _ _ _, _, heap_alloc_new _ _, by simpa using size_made _ _, fun i xs hi => by omega⟩
    case round =>
      obtain ⟨k, hk, rfl, hfr, cur, hg, hcs, hfil⟩ := hrel
      by_cases hlt : k < xss.length
      · obtain ⟨hp, hin, hm, hvl⟩ := hpH.out
        obtain ⟨b, off, ea, hT, hcell⟩ := hp (by omega)
        obtain rfl : a = ⟨b, off, none⟩ := by simpa using ea
        clear ea
        obtain ⟨xs, hx⟩ : ∃ x, xss[k]? = some x := ⟨xss[k], by simp [hlt]⟩
        obtain ⟨u, hu⟩ : ∃ x, vs[k]? = some x := ⟨vs[k]'(by omega), by simp⟩
        have hrd := Rd.fr (hin k u xs hu hx) hfr
        have q0 := hfr.cellSome (hcell k u hu) trivial
        obtain ⟨ua, un, uc, rfl⟩ : ∃ a n c, u = .slice a n c := by obtain ⟨a', c', e', _⟩ := hrd; exact ⟨a', _, c', e'⟩
        have hbG : b ≠ w.heap.size := Nat.ne_of_lt (World.block_lt_of_cell? w _ (hcell k _ hu))
        have hGl : w.heap.size < wr.heap.size := heap_lt hg
        have hc := c13 (T := All) wr _ xs hrd (hm xs (List.mem_of_getElem? hx))
        have HID := hid (And.intro hfr (And.intro hg (And.intro hcs (And.intro hfil hx))))
        clear hrd hp hin hm hcell hu hx hfil hpH hfr hvl
        go_wp2_with (go_at_call 13; refine hc.mono ?_; rintro e w' ⟨v', rfl, f', o'⟩; obtain ⟨a', n', c', rfl⟩ := own_shape o'; have hg' := f'.heap hg trivial; have s0 : w'.cell? ⟨w.heap.size, k, none⟩ = some (cur[k]'(by omega)) := (by rw [cell_of_row w' _ _ cur _ _ hg']; simp); have z0 : w'.frozen? ⟨w.heap.size, k, none⟩ = false := frozen_of_row w' _ _ cur _ hg'; have hOH := hid (And.intro f' (And.intro o' hg')); clear f' o' hg' hc)
        go_roundw
        case rel =>
          obtain ⟨hfr, hg, hcs, hfil, hx⟩ := HID.out
          obtain ⟨f', o', hg'⟩ := hOH.out
          exact ⟨k + 1, by omega, by go_num, filling_next ⟨hfr, cur, hg, hcs, hfil⟩ hg hcs f' o' hx hlt⟩
        case measure => simp [intOf]; omega
      · go_wp2
        go_ret
        obtain rfl : k = xss.length := by omega
        exact filling_done ⟨hfr, cur, hg, hcs, hfil⟩ hn

set_option maxRecDepth 100000 in
set_option maxHeartbeats 1000000 in
/-- zzCloneNestedInt64s. -/
theorem c39 (w : World) (v : Value) (xss : List (List Int)) (h : Nest (Value.int .i64) All w v xss) (hn : xss.length ≤ 1048576) (hm : ∀ xs ∈ xss, xs.length ≤ 1048576) :
    Calls Try.prog 39 #[v] w (ClonedN (Value.int .i64) w xss) := by
  obtain ⟨vs, ⟨ao, c, rfl, _, _, hnil, hp⟩, hvl, hin⟩ := h
  have h1 := Lib.run_eql_slice_nil (P := Try.prog)
  cases ao with
  | none =>
    have hc0 := hnil rfl
    have hb0 : xss = [] := by
      apply List.eq_nil_of_length_eq_zero; omega
    subst hb0 hc0
    clear hnil hp hin hm
    go_enter Try.func39, Try.ntmps39
    go_wp2
    go_ret
    exact ⟨none, 0, rfl, Fr.refl _ _, [], Rd.nil _ _, rfl, fun i u xs hi => by simp at hi⟩
  | some a =>
    have hmk := run_mk (P := Try.prog) Try.underlying62 Try.info23 xss.length (by omega) (by unfold maxLen; omega)
    have hpH := hid (And.intro hp (And.intro hin (And.intro hm hvl)))
    clear hnil hp hin hm hvl
    go_enter Try.func39, Try.ntmps39
    go_wp2
    go_loopw [4] (fun i wr => ∃ k : Nat, k ≤ xss.length ∧ i = .int .i64 k ∧ Filling (Value.int .i64) w 23 xss k wr) (fun i _ => xss.length - (intOf i).toNat)
    case atStart => exact ⟨0, by omega, rfl, Fr.alloc _ _ _, _, heap_alloc_new _ _, by simpa using size_made _ _, fun i xs hi => by omega⟩
    case round =>
      obtain ⟨k, hk, rfl, hfr, cur, hg, hcs, hfil⟩ := hrel
      by_cases hlt : k < xss.length
      · obtain ⟨hp, hin, hm, hvl⟩ := hpH.out
        obtain ⟨b, off, ea, hT, hcell⟩ := hp (by omega)
        obtain rfl : a = ⟨b, off, none⟩ := by simpa using ea
        clear ea
        obtain ⟨xs, hx⟩ : ∃ x, xss[k]? = some x := ⟨xss[k], by simp [hlt]⟩
        obtain ⟨u, hu⟩ : ∃ x, vs[k]? = some x := ⟨vs[k]'(by omega), by simp⟩
        have hrd := Rd.fr (hin k u xs hu hx) hfr
        have q0 := hfr.cellSome (hcell k u hu) trivial
        obtain ⟨ua, un, uc, rfl⟩ : ∃ a n c, u = .slice a n c := by obtain ⟨a', c', e', _⟩ := hrd; exact ⟨a', _, c', e'⟩
        have hbG : b ≠ w.heap.size := Nat.ne_of_lt (World.block_lt_of_cell? w _ (hcell k _ hu))
        have hGl : w.heap.size < wr.heap.size := heap_lt hg
        have hc := c14 (T := All) wr _ xs hrd (hm xs (List.mem_of_getElem? hx))
        have HID := hid (And.intro hfr (And.intro hg (And.intro hcs (And.intro hfil hx))))
        clear hrd hp hin hm hcell hu hx hfil hpH hfr hvl
        go_wp2_with (go_at_call 14; refine hc.mono ?_; rintro e w' ⟨v', rfl, f', o'⟩; obtain ⟨a', n', c', rfl⟩ := own_shape o'; have hg' := f'.heap hg trivial; have s0 : w'.cell? ⟨w.heap.size, k, none⟩ = some (cur[k]'(by omega)) := (by rw [cell_of_row w' _ _ cur _ _ hg']; simp); have z0 : w'.frozen? ⟨w.heap.size, k, none⟩ = false := frozen_of_row w' _ _ cur _ hg'; have hOH := hid (And.intro f' (And.intro o' hg')); clear f' o' hg' hc)
        go_roundw
        case rel =>
          obtain ⟨hfr, hg, hcs, hfil, hx⟩ := HID.out
          obtain ⟨f', o', hg'⟩ := hOH.out
          exact ⟨k + 1, by omega, by go_num, filling_next ⟨hfr, cur, hg, hcs, hfil⟩ hg hcs f' o' hx hlt⟩
        case measure => simp [intOf]; omega
      · go_wp2
        go_ret
        obtain rfl : k = xss.length := by omega
        exact filling_done ⟨hfr, cur, hg, hcs, hfil⟩ hn

set_option maxRecDepth 100000 in
/-- zzNestedStringsSize. -/
theorem c36 (w : World) (v : Value) (xss : List (List ByteArray)) (h : Nest Value.string All w v xss) : Calls Try.prog 36 #[v] w (RetSz w) := by
  obtain ⟨vs, ⟨ao, c, rfl, _, _, _, hp⟩, hvl, hin⟩ := h
  have hpH := hid (And.intro hp (And.intro hin hvl))
  clear hp hin hvl
  by_cases h1 : 65536 < xss.length
  · go_enter Try.func36, Try.ntmps36
    go_wp2
    go_ret
    exact ⟨_, rfl, by omega, by omega, rfl⟩
  · go_enter Try.func36, Try.ntmps36
    go_wp2
    go_loopw [3, 4] (fun t i wr => ∃ (k : Nat) (r : Int), k ≤ xss.length ∧ i = .int .i64 k ∧ t = .int .i64 r ∧ 0 ≤ r ∧ r ≤ 2097152 ∧ w = wr) (fun _ i _ => xss.length - (intOf i).toNat)
    case atStart => exact ⟨0, (xss.length : Int) * 24, by omega, rfl, by go_num, by omega, by omega, rfl⟩
    case round =>
      obtain ⟨k, r, hk, rfl, rfl, hr0, hr1, rfl⟩ := hrel
      by_cases hlt : k < xss.length
      · obtain ⟨hp, hin, hvl⟩ := hpH.out
        obtain ⟨b, off, rfl, hT, hcell⟩ := hp (by omega)
        obtain ⟨xs, hx⟩ : ∃ x, xss[k]? = some x := ⟨xss[k], by simp [hlt]⟩
        obtain ⟨u, hu⟩ : ∃ x, vs[k]? = some x := ⟨vs[k]'(by omega), by simp⟩
        have q0 := hcell k u hu
        have hc := c31 w u xs (hin k u xs hu hx)
        clear hcell hx hpH hp hin hu
        go_wp2_with (first | (go_at_call 31; refine hc.mono ?_; rintro e w' ⟨r1, rfl, hr4, hr5, hw⟩; obtain rfl : w = w' := hw.symm) | (go_at_call 9; refine (c9 _ _ _ hr0).mono ?_; rintro e w' ⟨r', rfl, hr2, hr3, hw⟩; obtain rfl : w = w' := hw.symm))
        go_roundw
        case rel => exact ⟨k + 1, r', by omega, by go_num, rfl, hr2, hr3, trivial⟩
        case measure => simp [intOf]; omega
      · go_wp2
        go_ret
        exact ⟨r, rfl, hr0, hr1, rfl⟩

set_option maxRecDepth 100000 in
/-- zzNestedInt64Size. -/
theorem c37 (w : World) (v : Value) (xss : List (List Int)) (h : Nest (Value.int .i64) All w v xss) : Calls Try.prog 37 #[v] w (RetSz w) := by
  obtain ⟨vs, ⟨ao, c, rfl, _, _, _, hp⟩, hvl, hin⟩ := h
  have hpH := hid (And.intro hp (And.intro hin hvl))
  clear hp hin hvl
  by_cases h1 : 65536 < xss.length
  · go_enter Try.func37, Try.ntmps37
    go_wp2
    go_ret
    exact ⟨_, rfl, by omega, by omega, rfl⟩
  · go_enter Try.func37, Try.ntmps37
    go_wp2
    go_loopw [3, 4] (fun t i wr => ∃ (k : Nat) (r : Int), k ≤ xss.length ∧ i = .int .i64 k ∧ t = .int .i64 r ∧ 0 ≤ r ∧ r ≤ 2097152 ∧ w = wr) (fun _ i _ => xss.length - (intOf i).toNat)
    case atStart => exact ⟨0, (xss.length : Int) * 24, by omega, rfl, by go_num, by omega, by omega, rfl⟩
    case round =>
      obtain ⟨k, r, hk, rfl, rfl, hr0, hr1, rfl⟩ := hrel
      by_cases hlt : k < xss.length
      · obtain ⟨hp, hin, hvl⟩ := hpH.out
        obtain ⟨b, off, rfl, hT, hcell⟩ := hp (by omega)
        obtain ⟨xs, hx⟩ : ∃ x, xss[k]? = some x := ⟨xss[k], by simp [hlt]⟩
        obtain ⟨u, hu⟩ : ∃ x, vs[k]? = some x := ⟨vs[k]'(by omega), by simp⟩
        have q0 := hcell k u hu
        obtain ⟨ua, uc, rfl, _⟩ := hin k u xs hu hx
        clear hcell hx hpH hp hin hu
        by_cases hl : 65536 < xs.length
        · go_wp2
          go_ret
          exact ⟨_, rfl, by omega, by omega, rfl⟩
        · go_wp2_with (go_at_call 9; refine (c9 _ _ _ hr0).mono ?_; rintro e w' ⟨r', rfl, hr2, hr3, hw⟩; obtain rfl : w = w' := hw.symm)
          go_roundw
          case rel => exact ⟨k + 1, r', by omega, by go_num, rfl, hr2, hr3, trivial⟩
          case measure => simp [intOf]; omega
      · go_wp2
        go_ret
        exact ⟨r, rfl, hr0, hr1, rfl⟩

end Go.Proofs.Qxb6601232a
