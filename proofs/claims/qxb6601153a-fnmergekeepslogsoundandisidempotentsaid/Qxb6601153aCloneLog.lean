import Derived.Test.Qxb6601153aZZ
import Derived.Deep.DeepCutAuto
import Derived.BigRegion
import Derived.Laws.Cover3
namespace Go.Proofs.Qxb6601153a
open Go.RowKit
set_option linter.unusedVariables false
theorem ltRd {T : Nat → Prop} {w : World} {v : Value} {n : Nat} {xs : List Value} (h : Rd T w v n xs) (hx : 0 < n → xs ≠ []) : Rd (Lt w.heap.size) w v n xs := h.mono' hx (fun i hi _ => hi)
theorem ltU64 {T : Nat → Prop} {w : World} {v : Value} {ns : List Int} (h : U64s T w v ns) : U64s (Lt w.heap.size) w v ns := ltRd h (fun h0 e => by rw [List.map_eq_nil_iff] at e; rw [e] at h0; simp at h0)

set_option maxRecDepth 100000 in
set_option maxHeartbeats 2000000 in
/-- cloneLog. -/
theorem c23 {T : Nat → Prop} (w : World) (si st off un sb : Int) (vo le ev cv : Value) (vs ls ns : List Int) (rs : List Raw)
    (h1 : U64s T w vo vs) (h2 : U64s T w le ls) (h3 : Rd T w ev rs.length (flat rs)) (h4 : U64s T w cv ns) (hone : ∀ u ∈ flat rs, u.oneCell' = true) (l1 : vs.length ≤ 1048576) (l2 : ls.length ≤ 1048576) (l3 : rs.length ≤ 1048576) (l4 : ns.length ≤ 1048576) :
    Calls Try.prog 23 #[.agg #[.int .u64 si, .int .u64 st, vo, le, .int .u64 off, ev, cv, .int .u64 un, .int .u64 sb]] w fun e w' => ∃ vo' le' ev' cv', e = .returned (.agg #[.int .u64 si, .int .u64 st, vo', le', .int .u64 off, ev', cv', .int .u64 un, .int .u64 sb]) ∧ Fr All w w' ∧
      U64s All w' vo' vs ∧ U64s All w' le' ls ∧ w'.ownsRow w.heap.size 61 4 ev' rs.length (flat rs) ∧ w'.ownsRow w.heap.size 22 1 cv' ns.length (ns.map (Value.int .u64)) := by
  obtain ⟨a1, k1, e1⟩ : ∃ ao c, vo = .slice ao vs.length c := by obtain ⟨ao, c, rfl, _⟩ := h1; exact ⟨_, _, rfl⟩
  obtain ⟨a2, k2, e2⟩ : ∃ ao c, le = .slice ao ls.length c := by obtain ⟨ao, c, rfl, _⟩ := h2; exact ⟨_, _, rfl⟩
  obtain ⟨a3, k3, e3⟩ : ∃ ao c, ev = .slice ao rs.length c := by obtain ⟨ao, c, rfl, _⟩ := h3; exact ⟨_, _, rfl⟩
  obtain ⟨a4, k4, e4⟩ : ∃ ao c, cv = .slice ao ns.length c := by obtain ⟨ao, c, rfl, _⟩ := h4; exact ⟨_, _, rfl⟩
  subst e1 e2 e3 e4
  have H : Hid (U64s (Lt w.heap.size) w (.slice a1 vs.length k1) vs ∧ U64s (Lt w.heap.size) w (.slice a2 ls.length k2) ls ∧ Rd (Lt w.heap.size) w (.slice a3 rs.length k3) rs.length (flat rs) ∧ U64s (Lt w.heap.size) w (.slice a4 ns.length k4) ns ∧ (∀ u ∈ flat rs, u.oneCell' = true)) := ⟨ltU64 h1, ltU64 h2, ltRd h3 (fun h0 e => by have := congrArg List.length e; rw [length_flat] at this; simp at this; omega), ltU64 h4, hone⟩
  clear h1 h2 h3 h4 hone
  go_enter Try.func23, Try.ntmps23
  go_wp2_with fail
  obtain ⟨W, hW⟩ : ∃ W, W = ((w.alloc (.cells #[.int .u64 si, .int .u64 st, .slice a1 vs.length k1, .slice a2 ls.length k2, .int .u64 off, .slice a3 rs.length k3, .slice a4 ns.length k4, .int .u64 un, .int .u64 sb] 38)).alloc (.cells #[.int .u64 0, .int .u64 0, .slice none 0 0, .slice none 0 0, .int .u64 0, .slice none 0 0, .slice none 0 0, .int .u64 0, .int .u64 0] 38)).alloc (.cells #[.int .u64 si, .int .u64 st, .slice a1 vs.length k1, .slice a2 ls.length k2, .int .u64 off, .slice a3 rs.length k3, .slice a4 ns.length k4, .int .u64 un, .int .u64 sb] 38) := ⟨_, rfl⟩
  have fW : Fr All w W := by rw [hW]; exact ((Fr.alloc _ _ _).tr (Fr.alloc _ _ _)).tr (Fr.alloc _ _ _)
  have hA : W.heap[w.heap.size]? = some (.cells #[.int .u64 si, .int .u64 st, .slice a1 vs.length k1, .slice a2 ls.length k2, .int .u64 off, .slice a3 rs.length k3, .slice a4 ns.length k4, .int .u64 un, .int .u64 sb] 38 (0, 0)) := by
    rw [hW]; exact ((Fr.alloc All _ _).tr (Fr.alloc All _ _)).heap (heap_alloc_new _ _) trivial
  have hZ : W.heap[w.heap.size + 1]? = some (.cells #[.int .u64 0, .int .u64 0, .slice none 0 0, .slice none 0 0, .int .u64 0, .slice none 0 0, .slice none 0 0, .int .u64 0, .int .u64 0] 38 (0, 0)) := by
    rw [hW]; have := (Fr.alloc All _ (.cells #[.int .u64 si, .int .u64 st, .slice a1 vs.length k1, .slice a2 ls.length k2, .int .u64 off, .slice a3 rs.length k3, .slice a4 ns.length k4, .int .u64 un, .int .u64 sb] 38)).heap (heap_alloc_new (w.alloc (.cells #[.int .u64 si, .int .u64 st, .slice a1 vs.length k1, .slice a2 ls.length k2, .int .u64 off, .slice a3 rs.length k3, .slice a4 ns.length k4, .int .u64 un, .int .u64 sb] 38)) (.cells #[.int .u64 0, .int .u64 0, .slice none 0 0, .slice none 0 0, .int .u64 0, .slice none 0 0, .slice none 0 0, .int .u64 0, .int .u64 0] 38)) trivial; simp only [World.size_alloc] at this; exact this
  have hO : W.heap[w.heap.size + 1 + 1]? = some (.cells #[.int .u64 si, .int .u64 st, .slice a1 vs.length k1, .slice a2 ls.length k2, .int .u64 off, .slice a3 rs.length k3, .slice a4 ns.length k4, .int .u64 un, .int .u64 sb] 38 (0, 0)) := by
    rw [hW]; have := heap_alloc_new ((w.alloc (.cells #[.int .u64 si, .int .u64 st, .slice a1 vs.length k1, .slice a2 ls.length k2, .int .u64 off, .slice a3 rs.length k3, .slice a4 ns.length k4, .int .u64 un, .int .u64 sb] 38)).alloc (.cells #[.int .u64 0, .int .u64 0, .slice none 0 0, .slice none 0 0, .int .u64 0, .slice none 0 0, .slice none 0 0, .int .u64 0, .int .u64 0] 38)) (.cells #[.int .u64 si, .int .u64 st, .slice a1 vs.length k1, .slice a2 ls.length k2, .int .u64 off, .slice a3 rs.length k3, .slice a4 ns.length k4, .int .u64 un, .int .u64 sb] 38); simp only [World.size_alloc] at this; exact this
  rw [← hW]
  clear hW
  refine (c39 (T := Lt w.heap.size) _ _ vs (Rd.fr H.out.1 fW.any) l1).mono ?_
  rintro e w1 ⟨v1, rfl, f1, o1⟩
  obtain ⟨b1, n1, j1, rfl⟩ := own_shape o1
  have hA1 := f1.heap hA trivial
  have hO1 := f1.heap hO trivial
  have p2 : w1.cell? ⟨w.heap.size + 1 + 1, 2, none⟩ = some (.slice a1 vs.length k1) := by rw [cell_of_row w1 _ _ _ _ _ hO1]; rfl
  have z2 : w1.frozen? ⟨w.heap.size + 1 + 1, 2, none⟩ = false := frozen_of_row w1 _ _ _ _ hO1
  have x3 : w1.cell? ⟨w.heap.size, 3, none⟩ = some (.slice a2 ls.length k2) := by rw [cell_of_row w1 _ _ _ _ _ hA1]; rfl
  go_wp2_with fail
  have hO2 := heap_setCell_same w1 (w.heap.size + 1 + 1) 2 _ _ (.slice b1 n1 j1) hO1
  have fs : Fr (fun b => b ≠ w.heap.size + 1 + 1) w1 (w1.setCell ⟨w.heap.size + 1 + 1, 2, none⟩ (.slice b1 n1 j1)) := Fr.setCell _ _ _ (by simp)
  have hne1 : ∀ b, (Value.slice b1 n1 j1).ownBlock = some b → b ≠ w.heap.size + 1 + 1 := fun b hb e => own_ne o1 hO1 (by decide) (e ▸ hb)
  have F2 : Fr (Lt w.heap.size) w (w1.setCell ⟨w.heap.size + 1 + 1, 2, none⟩ (.slice b1 n1 j1)) := ((fW.tr f1).any).trans fs (fun i hi h => ⟨h, by unfold Lt at h; omega⟩)
  have hA2 := fs.heap hA1 (by omega)
  have hZ2 := fs.heap (f1.heap hZ trivial) (by omega)
  have o12 := own_fr o1 fs hne1
  obtain ⟨W2, hW2⟩ : ∃ W2, W2 = (w1.setCell ⟨w.heap.size + 1 + 1, 2, none⟩ (.slice b1 n1 j1)) := ⟨_, rfl⟩
  rw [← hW2] at hA2 hZ2 F2 o12 ⊢
  have hO2' : W2.heap[w.heap.size + 1 + 1]? = some (.cells #[.int .u64 si, .int .u64 st, (.slice b1 n1 j1), (.slice a2 ls.length k2), .int .u64 off, (.slice a3 rs.length k3), (.slice a4 ns.length k4), .int .u64 un, .int .u64 sb] 38 (0, 0)) := by rw [hW2]; exact hO2
  have hsz2 : w.heap.size ≤ W.heap.size := fW.size
  have o13 : W2.ownsRow w.heap.size 71 1 (.slice b1 n1 j1) vs.length (vs.map (Value.int .u64)) := own_mono o12 hsz2
  clear hW2 hO2 fs hA1 hO1 p2 z2 x3 o1 o12 hne1 f1 hA hZ hO fW
  refine (c39 (T := Lt w.heap.size) _ _ ls (Rd.fr H.out.2.1 F2) l2).mono ?_
  rintro e w3 ⟨v3, rfl, f3, o3⟩
  obtain ⟨b3, n3, j3, rfl⟩ := own_shape o3
  have hA3 := f3.heap hA2 trivial
  have hZ3 := f3.heap hZ2 trivial
  have hO3 := f3.heap hO2' trivial
  have o1 := own_fr o13 f3 (fun _ _ => trivial)
  have p2 : w3.cell? ⟨w.heap.size + 1 + 1, 3, none⟩ = some (.slice a2 ls.length k2) := by rw [cell_of_row w3 _ _ _ _ _ hO3]; rfl
  have z2 : w3.frozen? ⟨w.heap.size + 1 + 1, 3, none⟩ = false := frozen_of_row w3 _ _ _ _ hO3
  have x3 : w3.cell? ⟨w.heap.size, 5, none⟩ = some (.slice a3 rs.length k3) := by rw [cell_of_row w3 _ _ _ _ _ hA3]; rfl
  have hO4 := heap_setCell_same w3 (w.heap.size + 1 + 1) 3 _ _ (.slice b3 n3 j3) hO3
  have fs : Fr (fun b => b ≠ w.heap.size + 1 + 1) w3 (w3.setCell ⟨w.heap.size + 1 + 1, 3, none⟩ (.slice b3 n3 j3)) := Fr.setCell _ _ _ (by simp)
  have hne1 : ∀ b, (Value.slice b1 n1 j1).ownBlock = some b → b ≠ w.heap.size + 1 + 1 := fun b hb e => own_ne o1 hO3 (by decide) (e ▸ hb)
  have hne3 : ∀ b, (Value.slice b3 n3 j3).ownBlock = some b → b ≠ w.heap.size + 1 + 1 := fun b hb e => own_ne o3 hO3 (by decide) (e ▸ hb)
  obtain ⟨W4, hW4⟩ : ∃ W4, W4 = (w3.setCell ⟨w.heap.size + 1 + 1, 3, none⟩ (.slice b3 n3 j3)) := ⟨_, rfl⟩
  have hH4 : Hid (Fr (Lt w.heap.size) w W4 ∧ W4.heap[w.heap.size]? = some (.cells #[.int .u64 si, .int .u64 st, (.slice a1 vs.length k1), (.slice a2 ls.length k2), .int .u64 off, (.slice a3 rs.length k3), (.slice a4 ns.length k4), .int .u64 un, .int .u64 sb] 38 (0, 0)) ∧ W4.heap[w.heap.size + 1]? = some (.cells #[.int .u64 0, .int .u64 0, .slice none 0 0, .slice none 0 0, .int .u64 0, .slice none 0 0, .slice none 0 0, .int .u64 0, .int .u64 0] 38 (0, 0)) ∧ W4.heap[w.heap.size + 1 + 1]? = some (.cells #[.int .u64 si, .int .u64 st, (.slice b1 n1 j1), (.slice b3 n3 j3), .int .u64 off, (.slice a3 rs.length k3), (.slice a4 ns.length k4), .int .u64 un, .int .u64 sb] 38 (0, 0)) ∧ W4.ownsRow w.heap.size 71 1 (.slice b1 n1 j1) vs.length (vs.map (Value.int .u64)) ∧ W4.ownsRow w.heap.size 71 1 (.slice b3 n3 j3) ls.length (ls.map (Value.int .u64))) := by
    rw [hW4]
    exact ⟨(F2.tr f3.any).trans fs (fun i hi h => ⟨h, by unfold Lt at h; omega⟩), fs.heap hA3 (by omega), fs.heap hZ3 (by omega), hO4, own_fr o1 fs hne1, own_mono (own_fr o3 fs hne3) F2.size⟩
  go_upto_region 4 with fail
  rw [← hW4]
  have hH4' := hH4.out
  obtain ⟨F4, hA4, hZ4, hO4', o14, o34⟩ := hH4'
  clear hW4 hne3 hne1 fs hO4 x3 z2 p2 o1 hO3 hZ3 hA3 f3 o3 o13 hsz2 hO2' F2 hZ2 hA2
  have xA : W4.cell? ⟨w.heap.size, 5, none⟩ = some (.slice a3 rs.length k3) := by rw [cell_of_row W4 _ _ _ _ _ hA4]; rfl
  have pO : W4.cell? ⟨w.heap.size + 1 + 1, 5, none⟩ = some (.slice a3 rs.length k3) := by rw [cell_of_row W4 _ _ _ _ _ hO4']; rfl
  have zO : W4.frozen? ⟨w.heap.size + 1 + 1, 5, none⟩ = false := frozen_of_row W4 _ _ _ _ hO4'
  have lA : w.heap.size < W4.heap.size := World.block_lt_of_cell? W4 _ xA
  have lO : w.heap.size + 1 + 1 < W4.heap.size := World.block_lt_of_cell? W4 _ pO
  have hE4 : Rd (Lt w.heap.size) W4 (.slice a3 rs.length k3) rs.length (flat rs) := Rd.fr H.out.2.2.1 F4
  have h1 := fun w l c => run_neq_slice_nil (P := Try.prog) w 36 61 a3 l c Try.underlying36
  clear F4 hA4 hZ4 hO4' o14 o34
  go_upto_if 24 with fail
  go_cut [] (fun wx => ∃ a n c, Fr (Lt w.heap.size) w wx ∧ wx.heap[w.heap.size]? = some (.cells #[.int .u64 si, .int .u64 st, (.slice a1 vs.length k1), (.slice a2 ls.length k2), .int .u64 off, (.slice a3 rs.length k3), (.slice a4 ns.length k4), .int .u64 un, .int .u64 sb] 38 (0, 0)) ∧ wx.heap[w.heap.size + 1]? = some (.cells #[.int .u64 0, .int .u64 0, .slice none 0 0, .slice none 0 0, .int .u64 0, .slice none 0 0, .slice none 0 0, .int .u64 0, .int .u64 0] 38 (0, 0)) ∧ wx.heap[w.heap.size + 1 + 1]? = some (.cells #[.int .u64 si, .int .u64 st, (.slice b1 n1 j1), (.slice b3 n3 j3), .int .u64 off, (.slice a n c), (.slice a4 ns.length k4), .int .u64 un, .int .u64 sb] 38 (0, 0)) ∧ wx.ownsRow w.heap.size 71 1 (.slice b1 n1 j1) vs.length (vs.map (Value.int .u64)) ∧ wx.ownsRow w.heap.size 71 1 (.slice b3 n3 j3) ls.length (ls.map (Value.int .u64)) ∧ wx.ownsRow w.heap.size 61 4 (.slice a n c) rs.length (flat rs))
  case first =>
    cases a3 with
    | none =>
      obtain ⟨ao, c, eq, _, _, hnil, _⟩ := hE4
      simp only [Value.slice.injEq, true_and] at eq
      obtain ⟨rfl, rfl⟩ := eq
      have hc0 := hnil rfl
      have hb0 : rs = [] := by apply List.eq_nil_of_length_eq_zero; omega
      subst hb0 hc0
      go_wp2_with fail
      go_meet
      exact ⟨_, _, _, hH4.out.1, hH4.out.2.1, hH4.out.2.2.1, hH4.out.2.2.2.1, hH4.out.2.2.2.2.1, hH4.out.2.2.2.2.2, World.ownsRow_nil _ _ _ _⟩
    | some a =>
      have hmk := run_mk (P := Try.prog) Try.underlying36 Try.info61 rs.length (by omega) (by unfold maxLen; omega)
      have hcp := run_cp (P := Try.prog) (sT := 36) (ty := 3) Try.underlying36 Try.info61 W4 rs.length k3 (some a) (flat rs) (made (.agg #[.int .u64 0, .int .u64 0, .slice none 0 0, .pointer none]) (rs.length * 4)) (size_made _ _) (length_flat rs) H.out.2.2.2.2 hE4
      clear hE4
      go_wp2_with fail
      go_meet
      obtain ⟨W5, hW5⟩ : ∃ W5, W5 = W4.setCell ⟨w.heap.size + 1 + 1, 5, none⟩ (.slice (some ⟨W4.heap.size, 0, none⟩) rs.length rs.length) := ⟨_, rfl⟩
      have hs : W5.heap.size = W4.heap.size := by rw [hW5]; simp
      have fs : Fr (fun b => b ≠ w.heap.size + 1 + 1) W4 W5 := by rw [hW5]; exact Fr.setCell _ _ _ (by simp)
      have hO5 := heap_setCell_same W4 (w.heap.size + 1 + 1) 5 _ _ (.slice (some ⟨W4.heap.size, 0, none⟩) rs.length rs.length) hH4.out.2.2.2.1
      rw [← hW5] at hO5 ⊢
      have fa : Fr All W5 (W5.alloc (.cells (flat rs).toArray 61)) := Fr.alloc _ _ _
      have on := own_new W5 61 4 rs.length (flat rs) (length_flat rs) (by unfold maxLen; omega)
      rw [hs] at on
      have q1 := own_fr hH4.out.2.2.2.2.1 fs (fun b hb e => own_ne hH4.out.2.2.2.2.1 hH4.out.2.2.2.1 (by decide) (e ▸ hb))
      have q2 := own_fr hH4.out.2.2.2.2.2 fs (fun b hb e => own_ne hH4.out.2.2.2.2.2 hH4.out.2.2.2.1 (by decide) (e ▸ hb))
      exact ⟨_, _, _, (hH4.out.1.trans fs (fun i hi h => ⟨h, by unfold Lt at h; omega⟩)).tr fa.any, fa.heap (fs.heap hH4.out.2.1 (by omega)) trivial, fa.heap (fs.heap hH4.out.2.2.1 (by omega)) trivial, fa.heap hO5 trivial, own_fr q1 fa (fun _ _ => trivial), own_fr q2 fa (fun _ _ => trivial), own_mono on (Nat.le_of_lt lA)⟩
  case rest =>
    obtain ⟨a, n, c, F5, hA5, hZ5, hO5, o15, o35, oE⟩ := hcut
    have xA5 : wc.cell? ⟨w.heap.size, 6, none⟩ = some (.slice a4 ns.length k4) := by rw [cell_of_row wc _ _ _ _ _ hA5]; rfl
    clear xA pO zO lA lO hE4 h1
    go_wp2_with fail
    refine (c10 (T := Lt w.heap.size) _ _ ns (Rd.fr H.out.2.2.2.1 F5) l4).mono ?_
    rintro e w6 ⟨v6, rfl, f6, o6⟩
    obtain ⟨b6, n6, j6, rfl⟩ := own_shape o6
    have hO6 := f6.heap hO5 trivial
    have hZ6 := f6.heap hZ5 trivial
    have pO : w6.cell? ⟨w.heap.size + 1 + 1, 6, none⟩ = some (.slice a4 ns.length k4) := by rw [cell_of_row w6 _ _ _ _ _ hO6]; rfl
    have zO : w6.frozen? ⟨w.heap.size + 1 + 1, 6, none⟩ = false := frozen_of_row w6 _ _ _ _ hO6
    have o16 := own_fr o15 f6 (fun _ _ => trivial)
    have o36 := own_fr o35 f6 (fun _ _ => trivial)
    have oE6 := own_fr oE f6 (fun _ _ => trivial)
    have o66 := own_mono o6 F5.size
    obtain ⟨W7, hW7⟩ : ∃ W7, W7 = w6.setCell ⟨w.heap.size + 1 + 1, 6, none⟩ (.slice b6 n6 j6) := ⟨_, rfl⟩
    have fs : Fr (fun b => b ≠ w.heap.size + 1 + 1) w6 W7 := by rw [hW7]; exact Fr.setCell _ _ _ (by simp)
    have hO7 : W7.heap[w.heap.size + 1 + 1]? = some (.cells #[.int .u64 si, .int .u64 st, .slice b1 n1 j1, .slice b3 n3 j3, .int .u64 off, .slice a n c, .slice b6 n6 j6, .int .u64 un, .int .u64 sb] 38 (0, 0)) := by rw [hW7]; exact heap_setCell_same _ _ 6 _ _ _ hO6
    have hZ7 := fs.heap hZ6 (by omega)
    have o17 := own_fr o16 fs (fun b hb e => own_ne o16 hO6 (by decide) (e ▸ hb))
    have o37 := own_fr o36 fs (fun b hb e => own_ne o36 hO6 (by decide) (e ▸ hb))
    have oE7 := own_fr oE6 fs (fun b hb e => own_ne oE6 hO6 (by decide) (e ▸ hb))
    have o67 := own_fr o66 fs (fun b hb e => own_ne o66 hO6 (by decide) (e ▸ hb))
    have F7 : Fr (Lt w.heap.size) w W7 := (F5.tr f6.any).trans fs (fun i hi h => ⟨h, by unfold Lt at h; omega⟩)
    have h1c : (#[.int .u64 si, .int .u64 st, .slice b1 n1 j1, .slice b3 n3 j3, .int .u64 off, .slice a n c, .slice b6 n6 j6, .int .u64 un, .int .u64 sb] : Array Value).all (·.oneCell') = true := by simp [Value.oneCell']
    have HH : Hid (W7.ownsRow w.heap.size 71 1 (.slice b1 n1 j1) vs.length (vs.map (Value.int .u64)) ∧ W7.ownsRow w.heap.size 71 1 (.slice b3 n3 j3) ls.length (ls.map (Value.int .u64)) ∧ W7.ownsRow w.heap.size 61 4 (.slice a n c) rs.length (flat rs) ∧ W7.ownsRow w.heap.size 22 1 (.slice b6 n6 j6) ns.length (ns.map (Value.int .u64)) ∧ Fr (Lt w.heap.size) w W7) := ⟨o17, o37, oE7, o67, F7⟩
    clear o17 o37 oE7 o67 F7 fs o66 oE6 o36 o16 F5 hA5 hZ5 hO5 o15 o35 oE hO6 hZ6 f6 o6 xA5
    go_upto_region 9 with fail
    rw [← hW7]
    clear hW7 pO zO
    go_wp2_with (first | (refine wpList_load_row rfl 38 (.tmp 3) rfl (w.heap.size + 1 + 1) rfl 38 _ (0, 0) _ hO7 Try.underlying38 rfl Try.size38 ?_) | (refine wpList_store_row rfl 38 (.tmp 2) (.tmp 39) rfl (w.heap.size + 1) #[.int .u64 si, .int .u64 st, .slice b1 n1 j1, .slice b3 n3 j3, .int .u64 off, .slice a n c, .slice b6 n6 j6, .int .u64 un, .int .u64 sb] rfl rfl 38 _ hZ7 Try.size38 rfl h1c ?_))
    have hR := setRow_heap W7 (w.heap.size + 1) _ #[.int .u64 si, .int .u64 st, .slice b1 n1 j1, .slice b3 n3 j3, .int .u64 off, .slice a n c, .slice b6 n6 j6, .int .u64 un, .int .u64 sb] 38 _ hZ7
    have fR : Fr (fun b => b ≠ w.heap.size + 1) W7 (W7.setRow (w.heap.size + 1) #[.int .u64 si, .int .u64 st, .slice b1 n1 j1, .slice b3 n3 j3, .int .u64 off, .slice a n c, .slice b6 n6 j6, .int .u64 un, .int .u64 sb]) := Fr.setRow _ _ _ (by simp)
    refine bodyPost_ret (v := .agg #[.int .u64 si, .int .u64 st, .slice b1 n1 j1, .slice b3 n3 j3, .int .u64 off, .slice a n c, .slice b6 n6 j6, .int .u64 un, .int .u64 sb]) (results_cell_row Try.results23 _ _ (w.heap.size + 1) 38 _ (0, 0) _ rfl hR Try.underlying38 rfl Try.size38) rfl ⟨_, _, _, _, rfl, ?_, ?_, ?_, ?_, ?_⟩
    · exact HH.out.2.2.2.2.trans fR (fun i hi _ => ⟨hi, by omega⟩)
    · exact Rd.own (own_fr HH.out.1 fR (fun b hb e => own_ne HH.out.1 hZ7 (by decide) (e ▸ hb))) (fun _ _ _ => trivial)
    · exact Rd.own (own_fr HH.out.2.1 fR (fun b hb e => own_ne HH.out.2.1 hZ7 (by decide) (e ▸ hb))) (fun _ _ _ => trivial)
    · exact own_fr HH.out.2.2.1 fR (fun b hb e => own_ne HH.out.2.2.1 hZ7 (by decide) (e ▸ hb))
    · exact own_fr HH.out.2.2.2.1 fR (fun b hb e => own_ne HH.out.2.2.2.1 hZ7 (by decide) (e ▸ hb))
end Go.Proofs.Qxb6601153a
