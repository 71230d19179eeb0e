import Derived.Test.Qxb6601153aLogIs
namespace Go.Proofs.Qxb6601153a
open Go.RowKit
set_option linter.unusedVariables false
theorem run_equalIn_pointer_self {P : Program} (w : World) (d : Nat) (t : TypeId) (a : Addr) (h : P.underlying t = some (.pointer (P.pointee t))) {n : Nat} (hi : (P.info? (P.pointee t)).map (fun i => i.size) = some n) :
    (Op.equalIn (d + 1) t (.pointer (some a)) (.pointer (some a))).run P w = .ok true w := by
  obtain ⟨i0, hi0, hi1⟩ : ∃ i, P.info? (P.pointee t) = some i ∧ i.size = n := by simpa [Option.map_eq_some_iff] using hi
  simp [Op.equalIn, run_underlying h, sizeOf, typeInfo, hi0, hi1]
  intro _
  simp [sameAddr]
theorem run_neq_pointer_self {P : Program} (t : TypeId) (h : P.underlying t = some (.pointer (P.pointee t))) {n : Nat} (hi : (P.info? (P.pointee t)).map (fun i => i.size) = some n) (p : Option Addr) (w : World) :
    (binOp .neq t (.pointer p) (.pointer p)).run P w = .ok (.bool false) w := by
  cases p with
  | none => simpa using run_neq_pointer_nil w t none h
  | some a =>
  have : (Op.equal t (.pointer (some a)) (.pointer (some a))).run P w = .ok true w := run_equalIn_pointer_self w 9999 t a h hi
  simp only [binOp]
  simp [this]
theorem neq59 (p : Option Addr) (w : World) : (binOp .neq 59 (.pointer p) (.pointer p)).run Try.prog w = .ok (.bool false) w :=
  run_neq_pointer_self 59 (by kernel_rfl) (n := 5) (by kernel_rfl) p w

set_option maxRecDepth 100000 in
set_option maxHeartbeats 2000000 in
/-- sameLog, at two logs that read the same. -/
theorem c24 {T : Nat → Prop} (w : World) (si st off un sb : Int) (vo1 le1 ev1 cv1 vo2 le2 ev2 cv2 : Value) (vs ls ns : List Int) (rs : List Raw)
    (hvs : ∀ x ∈ vs, 0 ≤ x ∧ x ≤ 18446744073709551615) (hls : ∀ x ∈ ls, 0 ≤ x ∧ x ≤ 18446744073709551615)
    (h1 : U64s T w vo1 vs) (h2 : U64s T w vo2 vs) (h3 : U64s T w le1 ls) (h4 : U64s T w le2 ls) (h5 : Ents T w ev1 rs) (h6 : Ents T w ev2 rs) (h7 : U64s T w cv1 ns) (h8 : U64s T w cv2 ns) (hptr : ∀ r ∈ rs, ∃ p, r.ch = .pointer p) (hn : rs.length ≤ 1099511627776) (hm : ns.length ≤ 1099511627776) :
    Calls Try.prog 24 #[.agg #[.int .u64 si, .int .u64 st, vo1, le1, .int .u64 off, ev1, cv1, .int .u64 un, .int .u64 sb], .agg #[.int .u64 si, .int .u64 st, vo2, le2, .int .u64 off, ev2, cv2, .int .u64 un, .int .u64 sb]] w (RetTrueF w) := by
  obtain ⟨ao1, c1, e1⟩ : ∃ ao c, vo1 = .slice ao vs.length c := by obtain ⟨ao, c, rfl, _⟩ := h1; exact ⟨_, _, rfl⟩
  obtain ⟨ao2, c2, e2⟩ : ∃ ao c, vo2 = .slice ao vs.length c := by obtain ⟨ao, c, rfl, _⟩ := h2; exact ⟨_, _, rfl⟩
  obtain ⟨ao3, c3, e3⟩ : ∃ ao c, le1 = .slice ao ls.length c := by obtain ⟨ao, c, rfl, _⟩ := h3; exact ⟨_, _, rfl⟩
  obtain ⟨ao4, c4, e4⟩ : ∃ ao c, le2 = .slice ao ls.length c := by obtain ⟨ao, c, rfl, _⟩ := h4; exact ⟨_, _, rfl⟩
  obtain ⟨ao5, c5, e5⟩ : ∃ ao c, ev1 = .slice ao rs.length c := by obtain ⟨⟨ao, c, rfl, _⟩, _⟩ := h5; exact ⟨_, _, rfl⟩
  obtain ⟨ao6, c6, e6⟩ : ∃ ao c, ev2 = .slice ao rs.length c := by obtain ⟨⟨ao, c, rfl, _⟩, _⟩ := h6; exact ⟨_, _, rfl⟩
  obtain ⟨ao7, c7, e7⟩ : ∃ ao c, cv1 = .slice ao ns.length c := by obtain ⟨ao, c, rfl, _⟩ := h7; exact ⟨_, _, rfl⟩
  obtain ⟨ao8, c8, e8⟩ : ∃ ao c, cv2 = .slice ao ns.length c := by obtain ⟨ao, c, rfl, _⟩ := h8; exact ⟨_, _, rfl⟩
  subst e1 e2 e3 e4 e5 e6 e7 e8
  have H : Hid (U64s T w (.slice ao1 vs.length c1) vs ∧ U64s T w (.slice ao2 vs.length c2) vs ∧ U64s T w (.slice ao3 ls.length c3) ls ∧ U64s T w (.slice ao4 ls.length c4) ls ∧ Ents T w (.slice ao5 rs.length c5) rs ∧ Ents T w (.slice ao6 rs.length c6) rs ∧ U64s T w (.slice ao7 ns.length c7) ns ∧ U64s T w (.slice ao8 ns.length c8) ns ∧ (∀ r ∈ rs, ∃ p, r.ch = .pointer p) ∧ (∀ x ∈ vs, 0 ≤ x ∧ x ≤ 18446744073709551615) ∧ (∀ x ∈ ls, 0 ≤ x ∧ x ≤ 18446744073709551615)) :=
    ⟨h1, h2, h3, h4, h5, h6, h7, h8, hptr, hvs, hls⟩
  clear h1 h2 h3 h4 h5 h6 h7 h8 hptr hvs hls
  go_enter Try.func24, Try.ntmps24
  go_wp2_with fail
  obtain ⟨W, hW⟩ : ∃ W, W = (w.alloc (.cells #[.int .u64 si, .int .u64 st, .slice ao1 vs.length c1, .slice ao3 ls.length c3, .int .u64 off, .slice ao5 rs.length c5, .slice ao7 ns.length c7, .int .u64 un, .int .u64 sb] 38)).alloc (.cells #[.int .u64 si, .int .u64 st, .slice ao2 vs.length c2, .slice ao4 ls.length c4, .int .u64 off, .slice ao6 rs.length c6, .slice ao8 ns.length c8, .int .u64 un, .int .u64 sb] 38) := ⟨_, rfl⟩
  have fW : Fr All w W := by rw [hW]; exact (Fr.alloc _ _ _).tr (Fr.alloc _ _ _)
  have hA : Hid (W.heap[w.heap.size]? = some (.cells #[.int .u64 si, .int .u64 st, .slice ao1 vs.length c1, .slice ao3 ls.length c3, .int .u64 off, .slice ao5 rs.length c5, .slice ao7 ns.length c7, .int .u64 un, .int .u64 sb] 38 (0, 0))) := by
    rw [hW]; exact (Fr.alloc All _ _).heap (heap_alloc_new _ _) trivial
  have hB : Hid (W.heap[w.heap.size + 1]? = some (.cells #[.int .u64 si, .int .u64 st, .slice ao2 vs.length c2, .slice ao4 ls.length c4, .int .u64 off, .slice ao6 rs.length c6, .slice ao8 ns.length c8, .int .u64 un, .int .u64 sb] 38 (0, 0))) := by
    rw [hW]; have := heap_alloc_new (w.alloc (.cells #[.int .u64 si, .int .u64 st, .slice ao1 vs.length c1, .slice ao3 ls.length c3, .int .u64 off, .slice ao5 rs.length c5, .slice ao7 ns.length c7, .int .u64 un, .int .u64 sb] 38)) (.cells #[.int .u64 si, .int .u64 st, .slice ao2 vs.length c2, .slice ao4 ls.length c4, .int .u64 off, .slice ao6 rs.length c6, .slice ao8 ns.length c8, .int .u64 un, .int .u64 sb] 38); simp only [World.size_alloc] at this; exact this
  rw [← hW]
  clear hW
  refine (c40 (T := T) _ _ _ vs H.out.2.2.2.2.2.2.2.2.2.1 (Rd.fr H.out.1 fW.any) (Rd.fr H.out.2.1 fW.any)).mono ?_
  rintro e w' ⟨rfl, nq, rfl⟩
  have x1 : W.cell? ⟨w.heap.size, 3, none⟩ = some (.slice ao3 ls.length c3) := by rw [cell_of_row W _ _ _ _ _ hA.out]; rfl
  have y1 : W.cell? ⟨w.heap.size + 1, 3, none⟩ = some (.slice ao4 ls.length c4) := by rw [cell_of_row W _ _ _ _ _ hB.out]; rfl
  go_wp2_with fail
  refine (c40 (T := T) _ _ _ ls H.out.2.2.2.2.2.2.2.2.2.2 (Rd.fr H.out.2.2.1 (fW.any.tr (Fr.drewN _ _ _))) (Rd.fr H.out.2.2.2.1 (fW.any.tr (Fr.drewN _ _ _)))).mono ?_
  rintro e w' ⟨rfl, nq2, rfl⟩
  have x2 : W.cell? ⟨w.heap.size, 5, none⟩ = some (.slice ao5 rs.length c5) := by rw [cell_of_row W _ _ _ _ _ hA.out]; rfl
  have y2 : W.cell? ⟨w.heap.size + 1, 5, none⟩ = some (.slice ao6 rs.length c6) := by rw [cell_of_row W _ _ _ _ _ hB.out]; rfl
  have x3 : W.cell? ⟨w.heap.size, 6, none⟩ = some (.slice ao7 ns.length c7) := by rw [cell_of_row W _ _ _ _ _ hA.out]; rfl
  have y3 : W.cell? ⟨w.heap.size + 1, 6, none⟩ = some (.slice ao8 ns.length c8) := by rw [cell_of_row W _ _ _ _ _ hB.out]; rfl
  go_wp2_with fail
  go_loopw [5] (fun i wr => ∃ k : Nat, k ≤ rs.length ∧ i = .int .i64 k ∧ Fr All W wr) (fun i _ => rs.length - (intOf i).toNat)
  case atStart => exact ⟨0, by omega, rfl, (by first | exact Fr.drewN _ _ _ | exact (Fr.drewN _ _ _).tr (Fr.drewN _ _ _))⟩
  case round =>
    obtain ⟨k, hk, rfl, hfr⟩ := hrel
    have z2 := hfr.cellSome x2 trivial
    have t2 := hfr.cellSome y2 trivial
    have z3 := hfr.cellSome x3 trivial
    have t3 := hfr.cellSome y3 trivial
    clear x1 y1 x2 y2 x3 y3
    by_cases hlt : k < rs.length
    · obtain ⟨_, _, _, _, ⟨⟨ao5', c5', x5, _, _, _, hp5⟩, hc5⟩, ⟨⟨ao6', c6', x6, _, _, _, hp6⟩, hc6⟩, _, _, hptr, _, _⟩ := H.out
      simp only [Value.slice.injEq] at x5 x6
      obtain ⟨rfl, -, rfl⟩ := x5
      obtain ⟨rfl, -, rfl⟩ := x6
      obtain ⟨b5, o5, rfl, _, hcell5⟩ := hp5 (by omega)
      obtain ⟨b6, o6, rfl, _, hcell6⟩ := hp6 (by omega)
      obtain ⟨r, hr⟩ : ∃ r, rs[k]? = some r := ⟨rs[k]'(by omega), by simp⟩
      obtain ⟨p, hp⟩ := hptr r (List.mem_of_getElem? hr)
      obtain ⟨f0, f1, f2, f3⟩ := ents_cells hcell5 hr
      obtain ⟨g0, g1, g2, g3⟩ := ents_cells hcell6 hr
      rw [hp] at f3 g3
      have fA : Fr All w wr := fW.tr hfr
      have u1 : Hid (U8s T wr r.cv r.cmd) := Rd.fr (hc5 r (List.mem_of_getElem? hr)) fA.any
      obtain ⟨xa, xc, hcv, _⟩ := hc5 r (List.mem_of_getElem? hr)
      rw [hcv] at f2 g2 u1
      have q0 := fA.cellSome f0 trivial
      have q1 := fA.cellSome f1 trivial
      have q2 := fA.cellSome f2 trivial
      have q3 := fA.cellSome f3 trivial
      have p0 := fA.cellSome g0 trivial
      have p1 := fA.cellSome g1 trivial
      have p2 := fA.cellSome g2 trivial
      have p3 := fA.cellSome g3 trivial
      have l5 : b5 < wr.heap.size := World.block_lt_of_cell? wr _ q0
      have l6 : b6 < wr.heap.size := World.block_lt_of_cell? wr _ p0
      have l7 : w.heap.size < wr.heap.size := World.block_lt_of_cell? wr _ z2
      have l8 : w.heap.size + 1 < wr.heap.size := World.block_lt_of_cell? wr _ t2
      clear hcell5 hcell6 hr hp f0 f1 f2 f3 g0 g1 g2 g3 hp5 hp6 hc5 hc6 hptr hcv z3 t3
      go_wp2_with fail
      refine (c41 (T := T) _ _ _ r.cmd (Rd.fr u1.out ((Fr.alloc _ _ _).tr (Fr.alloc _ _ _))) (Rd.fr u1.out ((Fr.alloc _ _ _).tr (Fr.alloc _ _ _)))).mono ?_
      rintro e w2 ⟨rfl, nq5, rfl⟩
      have hne := neq59 p
      go_wp2
      go_roundw
      case rel => exact ⟨k + 1, by omega, by go_num, hfr.tr (((Fr.alloc _ _ _).tr (Fr.alloc _ _ _)).tr (Fr.drewN _ _ _))⟩
      case measure => simp [intOf]; omega
    · obtain ⟨wo, hwo⟩ : ∃ wo : World, wo = wr := ⟨_, rfl⟩
      subst hwo
      have HF : Hid (Fr All w wo) := fW.tr hfr
      clear hfr
      go_wp2_with fail
      go_loopw [8] (fun i wr => ∃ k : Nat, k ≤ ns.length ∧ i = .int .i64 k ∧ Qt wo wr) (fun i _ => ns.length - (intOf i).toNat)
      case atStart => exact ⟨0, by omega, rfl, Qt.refl _⟩
      case round =>
        obtain ⟨j, hj, rfl, nq7, rfl⟩ := hrel
        by_cases hjl : j < ns.length
        · obtain ⟨_, _, _, _, _, _, ⟨ao7', c7', x5, _, _, _, hp5⟩, ⟨ao8', c8', x6, _, _, _, hp6⟩, _⟩ := H.out
          simp only [Value.slice.injEq] at x5 x6
          obtain ⟨rfl, -, rfl⟩ := x5
          obtain ⟨rfl, -, rfl⟩ := x6
          obtain ⟨b5, o5, rfl, _, hcell5⟩ := hp5 (by omega)
          obtain ⟨b6, o6, rfl, _, hcell6⟩ := hp6 (by omega)
          obtain ⟨x, hx⟩ : ∃ x, ns[j]? = some x := ⟨ns[j], by simp⟩
          have q := HF.out.cellSome (nums_cell hcell5 hx) trivial
          have q2 := HF.out.cellSome (nums_cell hcell6 hx) trivial
          clear hcell5 hcell6 hx hp5 hp6
          go_wp2
          go_quiet (fail)
          go_wp2
          go_roundw
          case rel => exact ⟨j + 1, by omega, by go_num, Qt.drewN _ _⟩
          case measure => simp [intOf]; omega
        · go_wp2
          go_ret
          exact ⟨rfl, HF.out.tr (Fr.drewN _ _ _)⟩
end Go.Proofs.Qxb6601153a
