/-
  SEAT b6601265a. THE WALKS OF before, zzqBefore, swap. By an AI agent.
-/
import Derived.Test.Qxb6601265aHeap
import Derived.Test.Qxb6601265aKit
import Derived.BigQuiet
import Derived.BigRegion
namespace Go.Proofs.Qxb6601265a
open Go.RowKit
set_option linter.unusedVariables false
set_option linter.unusedSimpArgs false

def RetBf (w : World) (b : Bool) (e : Ending) (w' : World) : Prop := e = .returned (.bool b) ∧ Qt w w'

set_option maxRecDepth 100000 in
set_option maxHeartbeats 1000000 in
/-- zzqBefore. -/
theorem c7 (w : World) (ab off m c va vb x y : Nat) (ha : va < m) (hb : vb < m) (hm : m ≤ 1048576) (h1 : w.cell? ⟨ab, off + va, none⟩ = some (.float .f64 x)) (h2 : w.cell? ⟨ab, off + vb, none⟩ = some (.float .f64 y)) :
    Calls Try.prog 7 #[.slice (some ⟨ab, off, none⟩) m c, .int .i32 va, .int .i32 vb] w (RetBf w (bfB x y va vb)) := by
  cases g1 : (FloatKind.f64.format.order x y == some .gt)
  · cases g2 : (FloatKind.f64.format.order x y == some .eq)
    · have hr : bfB x y va vb = false := by unfold bfB; rw [g1, g2]; rfl
      rw [hr]
      clear hr
      go_enter Try.func7, Try.ntmps7
      go_wp2
      go_quiet (fail)
      go_wp2
      go_quiet (fail)
      go_wp2
      go_ret
      exact ⟨rfl, (Qt.drewN _ _).trans (Qt.drewN _ _)⟩
    · have hr : bfB x y va vb = decide (va < vb) := by unfold bfB; rw [g1, g2]; simp
      rw [hr]
      clear hr
      go_enter Try.func7, Try.ntmps7
      go_wp2
      go_quiet (fail)
      go_wp2
      go_quiet (fail)
      go_wp2
      go_ret
      exact ⟨rfl, (Qt.drewN _ _).trans (Qt.drewN _ _)⟩
  · have hr : bfB x y va vb = true := by unfold bfB; rw [g1]; rfl
    rw [hr]
    clear hr
    go_enter Try.func7, Try.ntmps7
    go_wp2
    go_quiet (fail)
    go_wp2
    go_ret
    exact ⟨rfl, Qt.drewN _ _⟩

set_option maxRecDepth 100000 in
set_option maxHeartbeats 1000000 in
/-- before. -/
theorem c15 (w : World) (Q ab off m c va vb x y : Nat) (hQ : w.cell? ⟨Q, 2, none⟩ = some (.slice (some ⟨ab, off, none⟩) m c)) (ha : va < m) (hb : vb < m) (hm : m ≤ 1048576) (h1 : w.cell? ⟨ab, off + va, none⟩ = some (.float .f64 x)) (h2 : w.cell? ⟨ab, off + vb, none⟩ = some (.float .f64 y)) :
    Calls Try.prog 15 #[.pointer (some ⟨Q, 0, none⟩), .int .i32 va, .int .i32 vb] w (RetBf w (bfB x y va vb)) := by
  cases g1 : (FloatKind.f64.format.order x y == some .gt)
  · cases g2 : (FloatKind.f64.format.order x y == some .eq)
    · have hr : bfB x y va vb = false := by unfold bfB; rw [g1, g2]; rfl
      rw [hr]
      clear hr
      go_enter Try.func15, Try.ntmps15
      go_wp2
      go_quiet (fail)
      go_wp2
      go_ret
      exact ⟨rfl, Qt.drewN _ _⟩
    · have hr : bfB x y va vb = decide (va < vb) := by unfold bfB; rw [g1, g2]; simp
      rw [hr]
      clear hr
      go_enter Try.func15, Try.ntmps15
      go_wp2
      go_quiet (fail)
      go_wp2
      go_ret
      exact ⟨rfl, Qt.drewN _ _⟩
  · have hr : bfB x y va vb = true := by unfold bfB; rw [g1]; rfl
    rw [hr]
    clear hr
    go_enter Try.func15, Try.ntmps15
    go_wp2
    go_quiet (fail)
    go_wp2
    go_ret
    exact ⟨rfl, Qt.drewN _ _⟩

/-- The queue in memory: heap, place, activity; H: what the heap holds. -/
structure Qu (w : World) (Q hb n hc pb pn pc : Nat) (av : Value) (H : List Int) : Prop where
  row : w.heap[Q]? = some (.cells #[.slice (some ⟨hb, 0, none⟩) n hc, .slice (some ⟨pb, 0, none⟩) pn pc, av] 38 (0, 0))
  len : H.length = n
  heap : ∃ cur : Array Value, w.heap[hb]? = some (.cells cur 35 (0, 0)) ∧ n ≤ cur.size ∧ ∀ (j : Nat) (x : Int), H[j]? = some x → cur[j]? = some (Value.int .i32 x)
  place : ∃ cur : Array Value, w.heap[pb]? = some (.cells cur 3 (0, 0)) ∧ pn ≤ cur.size

theorem Qu.fr {T : Nat → Prop} {w w' : World} {Q hb n hc pb pn pc : Nat} {av : Value} {H : List Int} (h : Qu w Q hb n hc pb pn pc av H) (f : Fr T w w') (h1 : T Q) (h2 : T hb) (h3 : T pb) : Qu w' Q hb n hc pb pn pc av H := by
  obtain ⟨r, l, ⟨c, c1, c2⟩, p, p1, p2⟩ := h
  exact ⟨f.heap r h1, l, ⟨c, f.heap c1 h2, c2⟩, p, f.heap p1 h3, p2⟩

theorem swap_done {w W : World} {Q hb n hc pb pn pc i j vx vy : Nat} {av : Value} {H : List Int} {cur cp : Array Value} (hr : w.heap[Q]? = some (.cells #[.slice (some ⟨hb, 0, none⟩) n hc, .slice (some ⟨pb, 0, none⟩) pn pc, av] 38 (0, 0))) (hl : H.length = n) (hcs : n ≤ cur.size)
    (hcur : ∀ (j : Nat) (x : Int), H[j]? = some x → cur[j]? = some (Value.int .i32 x)) (hps : pn ≤ cp.size) (hi : i < n) (hj : j < n) (hij : i ≠ j) (hQh : Q ≠ hb) (hQp : Q ≠ pb) (hhp : hb ≠ pb) (hfW : Fr (fun b => b ≠ hb) w W)
    (hgW : W.heap[hb]? = some (.cells ((cur.setIfInBounds i (.int .i32 vy)).setIfInBounds j (.int .i32 vx)) 35 (0, 0))) (hpW : W.heap[pb]? = some (.cells cp 3 (0, 0))) (k1 k2 : Nat) (u1 u2 : Value) :
    Qu (((W.setCell ⟨pb, k1, none⟩ u1).setCell ⟨pb, k2, none⟩ u2).drew) Q hb n hc pb pn pc av (swp H i j vx vy) ∧ Fr (fun b => b ≠ hb ∧ b ≠ pb) w (((W.setCell ⟨pb, k1, none⟩ u1).setCell ⟨pb, k2, none⟩ u2).drew) := by
  have f : Fr (fun b => b ≠ pb) W (((W.setCell ⟨pb, k1, none⟩ u1).setCell ⟨pb, k2, none⟩ u2).drew) := ((Fr.setCell _ _ _ (by simp)).tr (Fr.setCell _ _ _ (by simp))).tr (Fr.drew _ _)
  refine ⟨⟨f.heap (hfW.heap hr hQh) hQp, by rw [length_swp]; exact hl, ⟨_, f.heap hgW hhp, by simpa using hcs, fun k x hk => ?_⟩, _, heap_setCell_same _ pb k2 _ 3 _ (heap_setCell_same W pb k1 _ 3 _ hpW), by simpa using hps⟩, hfW.trans f fun i hi hT => hT⟩
  rw [swp_get (by omega) (by omega) (Ne.symm hij)] at hk
  by_cases h1 : k = j
  · subst h1; rw [if_pos rfl] at hk; cases hk
    rw [Array.getElem?_setIfInBounds_self_of_lt (by simp; omega)]
  · rw [if_neg h1] at hk
    rw [Array.getElem?_setIfInBounds_ne (Ne.symm h1)]
    by_cases h2 : k = i
    · subst h2; rw [if_pos rfl] at hk; cases hk
      rw [Array.getElem?_setIfInBounds_self_of_lt (by omega)]
    · rw [if_neg h2] at hk
      rw [Array.getElem?_setIfInBounds_ne (Ne.symm h2)]
      exact hcur k x hk

set_option maxRecDepth 100000 in
set_option maxHeartbeats 4000000 in
/-- swap. -/
theorem c16 (w : World) (Q hb n hc pb pn pc i j vx vy : Nat) (av : Value) (H : List Int) (h : Qu w Q hb n hc pb pn pc av H) (hi : i < n) (hj : j < n) (hij : i ≠ j) (hx : H[i]? = some (vx : Int)) (hy : H[j]? = some (vy : Int)) (hvx : vx < pn) (hvy : vy < pn) (hn : n ≤ 1048576) (hpn : pn ≤ 1048576) :
    Calls Try.prog 16 #[.pointer (some ⟨Q, 0, none⟩), .int .i64 i, .int .i64 j] w fun e w' => e = .returned (.tuple #[]) ∧ Qu w' Q hb n hc pb pn pc av (swp H i j vx vy) ∧ Fr (fun b => b ≠ hb ∧ b ≠ pb) w w' := by
  obtain ⟨hr, hl, ⟨cur, hg, hcs, hcur⟩, cp, hp, hps⟩ := h
  have hQh : Q ≠ hb := by intro e; rw [e, hg] at hr; cases hr
  have hQp : Q ≠ pb := by intro e; rw [e, hp] at hr; cases hr
  have hhp : hb ≠ pb := by intro e; rw [e, hp] at hg; cases hg
  have q0 : w.cell? ⟨Q, 0, none⟩ = some (.slice (some ⟨hb, 0, none⟩) n hc) := by rw [cell_of_row w Q _ _ _ _ hr]; rfl
  have q1 : w.cell? ⟨Q, 1, none⟩ = some (.slice (some ⟨pb, 0, none⟩) pn pc) := by rw [cell_of_row w Q _ _ _ _ hr]; rfl
  have d1 : w.cell? ⟨hb, i, none⟩ = some (.int .i32 vx) := by rw [cell_of_row w hb _ _ _ _ hg]; exact hcur i _ hx
  have d2 : w.cell? ⟨hb, j, none⟩ = some (.int .i32 vy) := by rw [cell_of_row w hb _ _ _ _ hg]; exact hcur j _ hy
  have z1 : w.frozen? ⟨hb, i, none⟩ = false := frozen_of_row w hb _ _ _ hg
  have z2 : w.frozen? ⟨hb, j, none⟩ = false := frozen_of_row w hb _ _ _ hg
  obtain ⟨u1, p1⟩ : ∃ u, w.cell? ⟨pb, vx, none⟩ = some u := ⟨cp[vx]'(by omega), by rw [cell_of_row w pb _ _ _ _ hp]; simp⟩
  obtain ⟨u2, p2⟩ : ∃ u, w.cell? ⟨pb, vy, none⟩ = some u := ⟨cp[vy]'(by omega), by rw [cell_of_row w pb _ _ _ _ hp]; simp⟩
  have y1 : w.frozen? ⟨pb, vx, none⟩ = false := frozen_of_row w pb _ _ _ hp
  have y2 : w.frozen? ⟨pb, vy, none⟩ = false := frozen_of_row w pb _ _ _ hp
  have hH := hid (And.intro hr (And.intro hl (And.intro hg (And.intro hcs (And.intro hcur (And.intro hp (And.intro hps (And.intro hx hy))))))))
  clear hr hl hg hcs hcur hp hps hx hy
  go_enter Try.func16, Try.ntmps16
  go_wp2
  go_region
  obtain ⟨W, hW⟩ : ∃ W, W = ((w.setCell ⟨hb, i, none⟩ (.int .i32 vy)).setCell ⟨hb, j, none⟩ (.int .i32 vx)).drew := ⟨_, rfl⟩
  have hfW : Fr (fun b => b ≠ hb) w W := by rw [hW]; exact ((Fr.setCell _ _ _ (by simp)).tr (Fr.setCell _ _ _ (by simp))).tr (Fr.drew _ _)
  have hgW : W.heap[hb]? = some (.cells ((cur.setIfInBounds i (.int .i32 vy)).setIfInBounds j (.int .i32 vx)) 35 (0, 0)) := by
    rw [hW]; exact heap_setCell_same _ hb j _ 35 _ (heap_setCell_same w hb i _ 35 _ hH.out.2.2.1)
  rw [← hW]
  have e0 := hfW.cellSome q0 hQh
  have e1 := hfW.cellSome q1 hQh
  have hpW := hfW.heap hH.out.2.2.2.2.2.1 (Ne.symm hhp)
  have hcs := hH.out.2.2.2.1
  have f1 : W.cell? ⟨hb, i, none⟩ = some (.int .i32 vy) := by rw [cell_of_row W hb _ _ _ _ hgW, Array.getElem?_setIfInBounds_ne (by omega), Array.getElem?_setIfInBounds_self_of_lt (by omega)]
  have f2 : W.cell? ⟨hb, j, none⟩ = some (.int .i32 vx) := by rw [cell_of_row W hb _ _ _ _ hgW, Array.getElem?_setIfInBounds_self_of_lt (by simp; omega)]
  have r1 := hfW.cellSome p1 (Ne.symm hhp)
  have r2 := hfW.cellSome p2 (Ne.symm hhp)
  have s1 : W.frozen? ⟨pb, vx, none⟩ = false := frozen_of_row W pb _ _ _ hpW
  have s2 : W.frozen? ⟨pb, vy, none⟩ = false := frozen_of_row W pb _ _ _ hpW
  have hWH := hid (And.intro hfW (And.intro hgW hpW))
  clear hW hfW hgW hpW q0 q1 d1 d2 z1 z2 p1 p2 y1 y2 hcs
  by_cases hv : vx = vy
  · subst hv
    go_wp2
    go_region
    all_goals go_wp2
    all_goals go_end0
    all_goals exact ⟨rfl, swap_done hH.out.1 hH.out.2.1 hH.out.2.2.2.1 hH.out.2.2.2.2.1 hH.out.2.2.2.2.2.2.1 hi hj hij hQh hQp hhp hWH.out.1 hWH.out.2.1 hWH.out.2.2 _ _ _ _⟩
  · go_wp2
    go_region
    all_goals go_wp2
    all_goals go_end0
    all_goals exact ⟨rfl, swap_done hH.out.1 hH.out.2.1 hH.out.2.2.2.1 hH.out.2.2.2.2.1 hH.out.2.2.2.2.2.2.1 hi hj hij hQh hQp hhp hWH.out.1 hWH.out.2.1 hWH.out.2.2 _ _ _ _⟩

end Go.Proofs.Qxb6601265a
