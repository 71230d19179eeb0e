import Derived.Test.Qxb6601153aRest
import Derived.Deep.DeepCutAuto
import Derived.BigRegion
namespace Go.Proofs.Qxb6601153a
open Go.RowKit
set_option linter.unusedVariables false
/-- Behind the if. -/
def Mid (T : Nat → Prop) (W : World) (L : Nat) (si st : Int) (vo le : Value) (off : Int) (cv : Value) (U S : Int) (rs' : List Raw) (wx : World) : Prop :=
  ∃ a n c, Lg wx L si st vo le off (.slice a n c) cv U S ∧ Rd T wx (.slice a n c) rs'.length (flat rs') ∧ Fr (fun b => b ≠ L) W wx
theorem mid_close {T : Nat → Prop} {W w2 : World} {L B : Nat} {si st : Int} {vo le : Value} {off : Int} {ev : Value} {a : Option Addr} {n c : Nat} {cv : Value} {un sb : Int} {rs' : List Raw} (hT : ¬ T L) (hN : ∀ b, B ≤ b → T b) (hL : Lg w2 L si st vo le off ev cv un sb) (f : Fr All W w2) (o : w2.ownsRow B 61 4 (.slice a n c) rs'.length (flat rs')) :
    Mid T W L si st vo le off cv un sb rs' (w2.setCell ⟨L, 5, none⟩ (.slice a n c)) := by
  have f3 : Fr (fun b => b ≠ L) w2 (w2.setCell ⟨L, 5, none⟩ (.slice a n c)) := Fr.setCell _ _ _ (by simp)
  refine ⟨a, n, c, heap_setCell_same _ L 5 _ _ _ hL, ?_, f.trans f3 (fun i hi h => ⟨trivial, h⟩)⟩
  exact Rd.own (own_fr o (Fr.of_ne hT f3) (fun b hb => hN b (o.lt b hb).1)) (fun b hb _ => hN b hb)
theorem mid_un {T : Nat → Prop} {W wc : World} {L : Nat} {si st : Int} {vo le : Value} {off : Int} {a : Option Addr} {n c : Nat} {cv : Value} {un sb U : Int} {rs0 rs' : List Raw} {U' S' : Int} (hT : ¬ T L) (hL : Lg wc L si st vo le off (.slice a n c) cv un sb) (hE : Rd T wc (.slice a n c) rs0.length (flat rs0)) (f : Fr (fun b => b ≠ L) W wc) (hR : rs' = rs0) (hU : U' = U) (hS : S' = sb) :
    Mid T W L si st vo le off cv U' S' rs' (wc.setCell ⟨L, 7, none⟩ (.int .u64 U)).drew := by
  subst hR hU hS
  have f3 : Fr (fun b => b ≠ L) wc (wc.setCell ⟨L, 7, none⟩ (.int .u64 U')).drew := (Fr.setCell _ _ _ (by simp)).tr (Fr.drew _ _)
  exact ⟨a, n, c, heap_setCell_same _ L 7 _ _ _ hL, Rd.fr hE (Fr.of_ne hT f3), f.tr f3⟩
theorem mid_nil {T : Nat → Prop} {W : World} {L nq : Nat} {si st : Int} {vo le : Value} {off : Int} {ev cv : Value} {un sb X S : Int} {rs' : List Raw} {U' S' : Int} (hT : ¬ T L) (hL : Lg W L si st vo le off ev cv un sb) (hR : rs' = []) (hU : U' = X) (hS : S' = S) :
    Mid T W L si st vo le off cv U' S' rs' ((((W.drewN nq).setCell ⟨L, 5, none⟩ (.slice none 0 0)).setCell ⟨L, 7, none⟩ (.int .u64 X)).setCell ⟨L, 8, none⟩ (.int .u64 S)) := by
  subst hR hU hS
  refine ⟨none, 0, 0, ?_, ?_, ?_⟩
  · exact heap_setCell_same _ L 8 _ _ _ (heap_setCell_same _ L 7 _ _ _ (heap_setCell_same _ L 5 _ _ _ ((Fr.drewN All _ _).heap hL trivial)))
  · exact ⟨none, 0, rfl, by simp, by simp [maxLen], by simp, by simp⟩
  · exact (((Fr.drewN _ _ _).tr (Fr.setCell _ _ _ (by simp))).tr (Fr.setCell _ _ _ (by simp))).tr (Fr.setCell _ _ _ (by simp))

theorem termF_rng {si st off : Int} {rs : List Raw} {i t : Int} (h1 : off ≤ si) (h2 : si ≤ off + rs.length) (hk : termF si st off rs i = some t) : off ≤ i ∧ i ≤ off + rs.length := by
  unfold termF at hk
  split at hk
  · omega
  · split at hk
    · omega
    · cases hk
theorem rsR_len {si st off : Int} {rs : List Raw} {i t : Int} : (rsR si st off rs i t).length ≤ rs.length := by
  unfold rsR; split <;> simp
theorem rsR_len2 {si st off : Int} {rs : List Raw} {i t : Int} (h1 : off ≤ si) (h2 : si ≤ off + rs.length) (h3 : off + rs.length ≤ 18446744073709551615) (h4 : i ≤ 18446744073709551615) : i + (rsR si st off rs i t).length ≤ 18446744073709551615 := by
  unfold rsR
  by_cases hk : termF si st off rs i = some t
  · rw [if_pos hk]
    have := termF_rng h1 h2 hk
    simp; omega
  · rw [if_neg hk]; simp; omega
theorem rs_succ_le {si st off : Int} {rs : List Raw} {i t : Int} (h1 : off ≤ si) (h2 : si ≤ off + rs.length) (h3 : off + rs.length < 18446744073709551615 ∨ rs = []) (h0 : 0 ≤ i) : succU i ≤ succU (i + (rsR si st off rs i t).length) := by
  unfold rsR
  by_cases hk : termF si st off rs i = some t
  · rw [if_pos hk]
    have := termF_rng h1 h2 hk
    rcases h3 with h3 | rfl
    · rw [succU_lt h0 (by omega), succU_lt (by omega) (by simp; omega)]
      omega
    · simp
  · rw [if_neg hk]; simp
theorem rest_fin {T : Nat → Prop} {w W3 : World} {L : Nat} {si st off : Int} {rs : List Raw} {i t cm : Int} {vo le : Value} {a' : Option Addr} {n' c' : Nat} {ac : Option Addr} {cc : Nat} {un sb U S : Int} {lo hi : Nat} (hr : Runs off rs) (h1 : off ≤ si) (h2 : si ≤ off + rs.length) (h3 : off + rs.length < 18446744073709551615 ∨ rs = []) (i0 : 0 ≤ i) (i1 : i ≤ 18446744073709551615)
    (hlo : Cut (chgs rs) (succU i) lo) (hhi : Cut (chgs rs) (succU (i + (rsR si st off rs i t).length)) hi) (hle : lo ≤ hi) (hL : Lg W3 L i t vo le i (.slice a' n' c') (.slice (cutA ac cc lo 1) (hi - lo) (cc - lo)) U S) (hU : U = rsU si st off rs un i t) (hS : S = rsS si st off rs sb i t cm)
    (hE : Rd T W3 (.slice a' n' c') (rsR si st off rs i t).length (flat (rsR si st off rs i t))) (hC : U64s T W3 (.slice ac (chgs rs).length cc) (chgs rs)) (f : Fr (fun b => b ≠ L) w W3) :
    Restored T w L i t vo le (rsU si st off rs un i t) (rsS si st off rs sb i t cm) (rsR si st off rs i t) (.returned (.tuple #[])) W3 := by
  subst hU hS
  obtain ⟨g1, g2⟩ := rs_between hr lo hi h1 h2 h3 i0 i1 hlo hhi
  refine ⟨rfl, _, _, hL, hE, ?_, f⟩
  have := Rd.cut (l := lo) (h := hi) (size := 1) hC hle hhi.1 (by simp)
  simp only [Nat.mul_one, ← List.map_drop, ← List.map_take] at this
  rw [g1] at this
  unfold U64s
  rw [← g2]
  exact this

set_option maxRecDepth 100000 in
set_option maxHeartbeats 2000000 in
/-- restore. -/
theorem c42 {T : Nat → Prop} (w : World) (L : Nat) (si st : Int) (vo0 le0 : Value) (off : Int) (ev cv : Value) (un sb : Int) (rs : List Raw) (i t cm : Int) (a1 a2 : Option Addr) (n1 n2 k1 k2 : Nat) (hT : ¬ T L) (hN : ∀ b, w.heap.size ≤ b → T b) (hL : Lg w L si st vo0 le0 off ev cv un sb)
    (hE : Rd T w ev rs.length (flat rs)) (hC : U64s T w cv (chgs rs)) (b0 : 0 ≤ off) (b1 : off + rs.length < 18446744073709551615 ∨ rs = []) (b2 : rs.length ≤ 1048576) (b3 : off ≤ si) (b4 : si ≤ off + rs.length) (b5 : off ≤ 18446744073709551615) (i0 : 0 ≤ i) (i1 : i ≤ 18446744073709551615) (hone : ∀ u ∈ flat rs, u.oneCell' = true) (hidx : Runs off rs) :
    Calls Try.prog 42 #[.pointer (some ⟨L, 0, none⟩), .agg #[.int .u64 i, .int .u64 t, .slice a1 n1 k1, .slice a2 n2 k2], .int .u64 cm] w (Restored T w L i t (.slice a1 n1 k1) (.slice a2 n2 k2) (rsU si st off rs un i t) (rsS si st off rs sb i t cm) (rsR si st off rs i t)) := by
  obtain ⟨ae, ce, rfl, hce, hcem, hen, hep⟩ := hE
  obtain ⟨ac, cc, rfl, hcc, hccm, hcn, hcp⟩ := hC
  have hE : Rd T w (.slice ae rs.length ce) rs.length (flat rs) := ⟨_, _, rfl, hce, hcem, hen, hep⟩
  have hC : U64s T w (.slice ac (chgs rs).length cc) (chgs rs) := ⟨_, _, rfl, hcc, hccm, hcn, hcp⟩
  have b1' : off + rs.length ≤ 18446744073709551615 := by
    rcases b1 with h | h
    · omega
    · subst h; simp; omega
  have hH : Hid (Lg w L si st vo0 le0 off (.slice ae rs.length ce) (.slice ac (chgs rs).length cc) un sb ∧ Rd T w (.slice ae rs.length ce) rs.length (flat rs) ∧ U64s T w (.slice ac (chgs rs).length cc) (chgs rs) ∧ (∀ u ∈ flat rs, u.oneCell' = true) ∧ Runs off rs ∧ (off + rs.length < 18446744073709551615 ∨ rs = []) ∧ off ≤ si ∧ si ≤ off + rs.length ∧ off ≤ 18446744073709551615 ∧ 0 ≤ i ∧ i ≤ 18446744073709551615 ∧ off + rs.length ≤ 18446744073709551615 ∧ 0 ≤ off) := ⟨hL, hE, hC, hone, hidx, b1, b3, b4, b5, i0, i1, b1', b0⟩
  clear hL hE hC hone hidx b1 b3 b4 b5 i0 i1 b1' b0 hce hcem hen hep hcc hccm hcn hcp
  obtain ⟨X, hX⟩ : ∃ X, X = succU i := ⟨_, rfl⟩
  have hXr : IntKind.u64.wrap (i + 1) = X := hX.symm
  have hXH : Hid (X = succU i) := hX
  clear hX
  go_enter Try.func42, Try.ntmps42
  go_wp2_with fail
  obtain ⟨W, hW⟩ : ∃ W, W = w.alloc (.cells #[.int .u64 i, .int .u64 t, .slice a1 n1 k1, .slice a2 n2 k2] 35) := ⟨_, rfl⟩
  have fW : Fr All w W := by rw [hW]; exact Fr.alloc _ _ _
  have hBX : Hid (W.heap[w.heap.size]? = some (.cells #[.int .u64 i, .int .u64 t, .slice a1 n1 k1, .slice a2 n2 k2] 35 (0, 0))) := by rw [hW]; exact heap_alloc_new _ _
  rw [← hW]
  clear hW
  have hLW : Hid (Lg W L si st vo0 le0 off (.slice ae rs.length ce) (.slice ac (chgs rs).length cc) un sb) := fW.heap hH.out.1 trivial
  have hEW : Hid (Rd T W (.slice ae rs.length ce) rs.length (flat rs)) := Rd.fr hH.out.2.1 fW.any
  have hneB : T w.heap.size := hN _ (Nat.le_refl _)
  refine (c44 (T := T) _ L si st vo0 le0 off _ _ un sb i t rs hLW.out hEW.out hH.out.2.2.2.2.2.2.2.2.2.2.2.2 hH.out.2.2.2.2.2.2.2.2.2.2.2.1 (by omega) hH.out.2.2.2.2.2.2.2.2.2.1 hH.out.2.2.2.2.2.2.2.2.2.2.1).mono ?_
  rintro e w' ⟨rfl, nq, rfl⟩
  have q4 : W.cell? ⟨L, 4, none⟩ = some (.int .u64 off) := by rw [cell_of_row W L _ _ _ _ hLW.out]; rfl
  have q5 : W.cell? ⟨L, 5, none⟩ = some (.slice ae rs.length ce) := by rw [cell_of_row W L _ _ _ _ hLW.out]; rfl
  have q7 : W.cell? ⟨L, 7, none⟩ = some (.int .u64 un) := by rw [cell_of_row W L _ _ _ _ hLW.out]; rfl
  have q8 : W.cell? ⟨L, 8, none⟩ = some (.int .u64 sb) := by rw [cell_of_row W L _ _ _ _ hLW.out]; rfl
  have z5 : W.frozen? ⟨L, 5, none⟩ = false := frozen_of_row W L _ _ _ hLW.out
  have z7 : W.frozen? ⟨L, 7, none⟩ = false := frozen_of_row W L _ _ _ hLW.out
  have z8 : W.frozen? ⟨L, 8, none⟩ = false := frozen_of_row W L _ _ _ hLW.out
  have bx : W.cell? ⟨w.heap.size, 0, none⟩ = some (.int .u64 i) := by rw [cell_of_row W _ _ _ _ _ hBX.out]; rfl
  go_upto_if 11 with fail
  go_cut [] (Mid T W L si st vo0 le0 off (.slice ac (chgs rs).length cc) (rsU si st off rs un i t) (rsS si st off rs sb i t cm) (rsR si st off rs i t))
  case first =>
    by_cases hk : termF si st off rs i = some t
    · have hkb : (termF si st off rs i == some t) = true := by simp [hk]
      rw [hkb]
      clear hkb
      have hrng : off ≤ i ∧ i ≤ off + rs.length := by
        have h1 := hH.out.2.2.2.2.2.2.1
        have h2 := hH.out.2.2.2.2.2.2.2.1
        unfold termF at hk
        split at hk
        · omega
        · split at hk
          · omega
          · cases hk
      obtain ⟨m, hm⟩ : ∃ m : Nat, i = off + m := ⟨(i - off).toNat, by omega⟩
      have hmn : m ≤ rs.length := by omega
      have hR : rsR si st off rs i t = rs.drop m := by
        unfold rsR; rw [if_pos hk]; congr 1; omega
      have hU : rsU si st off rs un i t = max un X := by unfold rsU; rw [if_pos hk, hXH.out]
      have hS : rsS si st off rs sb i t cm = sb := by unfold rsS; rw [if_pos hk]
      have hwr := wrap_off off i m hm (by omega)
      have hsl := run_cut_l (P := Try.prog) Try.underlying36 Try.size61 ae rs.length ce m hmn .u64
      have hRd : Hid (Rd T W (.slice (cutA ae ce m 4) (rs.length - m) (ce - m)) (rs.length - m) (flat (rs.drop m))) := by
        have := Rd.cut (l := m) (h := rs.length) (size := 4) hEW.out hmn (Nat.le_refl _) (length_flat rs)
        rw [flat_drop, List.take_of_length_le (by rw [length_flat]; simp)] at this
        exact this
      have honeD : Hid (∀ u ∈ flat (rs.drop m), u.oneCell' = true) := by
        intro u hu
        rw [← flat_drop] at hu
        exact hH.out.2.2.2.1 u (List.mem_of_mem_drop hu)
      have hPost : Hid (rsR si st off rs i t = rs.drop m ∧ rsU si st off rs un i t = max un X ∧ rsS si st off rs sb i t cm = sb) := ⟨hR, hU, hS⟩
      clear hR hU hS hk hrng hm
      go_upto_region 12 with fail
      go_cut [] (Mid T W L si st vo0 le0 off (.slice ac (chgs rs).length cc) un sb (rs.drop m))
      case first =>
        go_region_with (go_at_call 48; refine (c48n (T := T) _ _ _ _ (rs.drop m) (by simp) (by exact Rd.fr hRd.out (by first | exact (Fr.drewN _ _ _).tr (Fr.drew _ _) | exact Fr.drewN _ _ _)) honeD.out (by omega)).mono ?_; rintro e w2 ⟨v2, rfl, g2, o2⟩; obtain ⟨a', n', c', rfl⟩ := own_shape o2; have gf := ((Fr.drewN All W (nq + 1)).tr g2); have hL2 := gf.heap hLW.out trivial; have g5 := cell5_of hL2; have gz := frozen5_of hL2)
        all_goals (go_wp2_with fail; go_meet)
        all_goals exact mid_close hT (fun b hb => hN b (Nat.le_trans (Nat.le_trans fW.size (Fr.drewN All W (nq + 1)).size) hb)) hL2 gf (by simpa using o2)
      case rest =>
        obtain ⟨a', n', c', hL1, hE1, f1⟩ := hcut
        have bx1 : wc.cell? ⟨w.heap.size, 0, none⟩ = some (.int .u64 i) := f1.cellSome bx (fun e => hT (e ▸ hneB))
        have p7 : wc.cell? ⟨L, 7, none⟩ = some (.int .u64 un) := by rw [cell_of_row wc L _ _ _ _ hL1]; rfl
        have y7 : wc.frozen? ⟨L, 7, none⟩ = false := frozen_of_row wc L _ _ _ hL1
        have hHc : Hid (Lg wc L si st vo0 le0 off (.slice a' n' c') (.slice ac (chgs rs).length cc) un sb ∧ Rd T wc (.slice a' n' c') (rs.drop m).length (flat (rs.drop m)) ∧ Fr (fun b => b ≠ L) W wc) := ⟨hL1, hE1, f1⟩
        clear hL1 hE1 f1 q4 q5 q7 q8 z5 z7 z8 bx hwr hsl
        go_wp2
        go_region
        go_wp2_with fail
        all_goals go_meet
        all_goals exact mid_un hT hHc.out.1 hHc.out.2.1 hHc.out.2.2 hPost.out.1 (by rw [hPost.out.2.1]; omega) hPost.out.2.2
    · have hkb : (termF si st off rs i == some t) = false := by simp [hk]
      rw [hkb]
      clear hkb
      have hR : rsR si st off rs i t = [] := by unfold rsR; rw [if_neg hk]
      have hU : rsU si st off rs un i t = X := by unfold rsU; rw [if_neg hk, hXH.out]
      have hS : rsS si st off rs sb i t cm = min sb cm := by unfold rsS; rw [if_neg hk]
      have hPost : Hid (rsR si st off rs i t = [] ∧ rsU si st off rs un i t = X ∧ rsS si st off rs sb i t cm = min sb cm) := ⟨hR, hU, hS⟩
      clear hR hU hS hk
      go_wp2_with fail
      all_goals go_meet
      all_goals exact mid_nil hT hLW.out hPost.out.1 hPost.out.2.1 (by rw [hPost.out.2.2]; omega)
  case rest =>
    obtain ⟨a', n', c', hL1, hE1, f1⟩ := hcut
    obtain ⟨U, hU⟩ : ∃ U, U = rsU si st off rs un i t := ⟨_, rfl⟩
    obtain ⟨S, hS⟩ : ∃ S, S = rsS si st off rs sb i t cm := ⟨_, rfl⟩
    rw [← hU, ← hS] at hL1
    obtain ⟨ee1, ee2, ee3⟩ : n' = (rsR si st off rs i t).length ∧ n' ≤ 1048576 ∧ i + n' ≤ 18446744073709551615 := by
      obtain ⟨_, _, he, _⟩ := hE1
      simp only [Value.slice.injEq] at he
      have h1 := rsR_len (si := si) (st := st) (off := off) (rs := rs) (i := i) (t := t)
      have h2 := rsR_len2 (si := si) (st := st) (off := off) (rs := rs) (i := i) (t := t) hH.out.2.2.2.2.2.2.1 hH.out.2.2.2.2.2.2.2.1 hH.out.2.2.2.2.2.2.2.2.2.2.2.1 hH.out.2.2.2.2.2.2.2.2.2.2.1
      refine ⟨he.2.1, by omega, by rw [he.2.1]; exact h2⟩
    have hbx1 := f1.heap hBX.out (fun e => hT (e ▸ hneB))
    have hHc : Hid (Lg wc L si st vo0 le0 off (.slice a' n' c') (.slice ac (chgs rs).length cc) U S ∧ Rd T wc (.slice a' n' c') (rsR si st off rs i t).length (flat (rsR si st off rs i t)) ∧ Fr (fun b => b ≠ L) W wc ∧ wc.heap[w.heap.size]? = some (.cells #[.int .u64 i, .int .u64 t, .slice a1 n1 k1, .slice a2 n2 k2] 35 (0, 0)) ∧ n' = (rsR si st off rs i t).length) := ⟨hL1, hE1, f1, hbx1, ee1⟩
    have bx1 : wc.cell? ⟨w.heap.size, 0, none⟩ = some (.int .u64 i) := f1.cellSome bx (fun e => hT (e ▸ hneB))
    have bx2 : wc.cell? ⟨w.heap.size, 1, none⟩ = some (.int .u64 t) := by rw [cell_of_row wc _ _ _ _ _ hbx1]; rfl
    have bx3 : wc.cell? ⟨w.heap.size, 2, none⟩ = some (.slice a1 n1 k1) := by rw [cell_of_row wc _ _ _ _ _ hbx1]; rfl
    have bx4 : wc.cell? ⟨w.heap.size, 3, none⟩ = some (.slice a2 n2 k2) := by rw [cell_of_row wc _ _ _ _ _ hbx1]; rfl
    have p0 : wc.cell? ⟨L, 0, none⟩ = some (.int .u64 si) := by rw [cell_of_row wc L _ _ _ _ hL1]; rfl
    have p1 : wc.cell? ⟨L, 1, none⟩ = some (.int .u64 st) := by rw [cell_of_row wc L _ _ _ _ hL1]; rfl
    have p2 : wc.cell? ⟨L, 2, none⟩ = some vo0 := by rw [cell_of_row wc L _ _ _ _ hL1]; rfl
    have p3 : wc.cell? ⟨L, 3, none⟩ = some le0 := by rw [cell_of_row wc L _ _ _ _ hL1]; rfl
    have p4 : wc.cell? ⟨L, 4, none⟩ = some (.int .u64 off) := by rw [cell_of_row wc L _ _ _ _ hL1]; rfl
    have y0 : wc.frozen? ⟨L, 0, none⟩ = false := frozen_of_row wc L _ _ _ hL1
    have y1 : wc.frozen? ⟨L, 1, none⟩ = false := frozen_of_row wc L _ _ _ hL1
    have y2 : wc.frozen? ⟨L, 2, none⟩ = false := frozen_of_row wc L _ _ _ hL1
    have y3 : wc.frozen? ⟨L, 3, none⟩ = false := frozen_of_row wc L _ _ _ hL1
    have y4 : wc.frozen? ⟨L, 4, none⟩ = false := frozen_of_row wc L _ _ _ hL1
    have hXY : Hid (U = rsU si st off rs un i t ∧ S = rsS si st off rs sb i t cm) := ⟨hU, hS⟩
    clear hL1 hE1 f1 q4 q5 q7 q8 z5 z7 z8 bx hbx1 ee1 hU hS
    go_wp2
    obtain ⟨W2, hW2⟩ : ∃ W2, W2 = (((((wc.setCell ⟨L, 4, none⟩ (.int .u64 i)).setCell ⟨L, 0, none⟩ (.int .u64 i)).setCell ⟨L, 1, none⟩ (.int .u64 t)).setCell ⟨L, 2, none⟩ (.slice a1 n1 k1)).setCell ⟨L, 3, none⟩ (.slice a2 n2 k2)) := ⟨_, rfl⟩
    rw [← hW2]
    have f2 : Fr (fun b => b ≠ L) wc W2 := by
      rw [hW2]
      exact ((((Fr.setCell _ _ _ (by simp)).tr (Fr.setCell _ _ _ (by simp))).tr (Fr.setCell _ _ _ (by simp))).tr (Fr.setCell _ _ _ (by simp))).tr (Fr.setCell _ _ _ (by simp))
    have hL2 : Hid (Lg W2 L i t (.slice a1 n1 k1) (.slice a2 n2 k2) i (.slice a' n' c') (.slice ac (chgs rs).length cc) U S) := by
      rw [hW2]
      exact heap_setCell_same _ L 3 _ _ _ (heap_setCell_same _ L 2 _ _ _ (heap_setCell_same _ L 1 _ _ _ (heap_setCell_same _ L 0 _ _ _ (heap_setCell_same _ L 4 _ _ _ hHc.out.1))))
    have bx5 : W2.cell? ⟨w.heap.size, 0, none⟩ = some (.int .u64 i) := f2.cellSome bx1 (fun e => hT (e ▸ hneB))
    have hC2 : Hid (U64s T W2 (.slice ac (chgs rs).length cc) (chgs rs)) := Rd.fr hH.out.2.2.1 (Fr.of_ne hT ((fW.any.tr hHc.out.2.2.1).tr f2))
    have hf2 : Hid (Fr (fun b => b ≠ L) wc W2) := f2
    obtain ⟨Y, hY⟩ : ∃ Y, Y = succU (i + n') := ⟨_, rfl⟩
    have hYr : IntKind.u64.wrap (i + n' + 1) = Y := hY.symm
    have hYH : Hid (Y = succU (i + n') ∧ X ≤ Y) := ⟨hY, by rw [hXH.out, hY, hHc.out.2.2.2.2]; exact rs_succ_le hH.out.2.2.2.2.2.2.1 hH.out.2.2.2.2.2.2.2.1 hH.out.2.2.2.2.2.1 hH.out.2.2.2.2.2.2.2.2.2.1⟩
    have hcl : (chgs rs).length ≤ rs.length := chgs_len rs
    clear hW2 f2 bx1 bx2 bx3 bx4 p0 p1 p2 p3 p4 y0 y1 y2 y3 y4 hY
    go_region_with (first | (go_at_call 45; refine (c45 _ L i t _ _ i a' n' c' _ U S (by exact (Fr.drewN All _ _).heap hL2.out trivial) hH.out.2.2.2.2.2.2.2.2.2.1 (by omega) (by omega)).mono ?_; rintro e w2 ⟨rfl, nr, rfl⟩) | (go_at_call 46; refine (c46 (T := T) _ L i t _ _ i (.slice a' n' c') ac cc (chgs rs) U S X Y (by exact (Fr.drewN All _ _).heap hL2.out trivial) (by exact Rd.fr hC2.out (Fr.drewN _ _ _)) hH.out.2.2.2.2.1.sorted (by omega) hYH.out.2).mono ?_; rintro e w3 ⟨rfl, lo, hi, hlo, hhi, hle, hL3, f3⟩; have hfin := (Fr.drewN (fun b => b ≠ L) W2 _).tr (f3)))
    all_goals go_end0
    all_goals exact rest_fin hH.out.2.2.2.2.1 hH.out.2.2.2.2.2.2.1 hH.out.2.2.2.2.2.2.2.1 hH.out.2.2.2.2.2.1 hH.out.2.2.2.2.2.2.2.2.2.1 hH.out.2.2.2.2.2.2.2.2.2.2.1 (hXH.out ▸ hlo) (hHc.out.2.2.2.2 ▸ hYH.out.1 ▸ hhi) hle hL3 (hXY.out.1) hXY.out.2 (Rd.fr hHc.out.2.1 (Fr.of_ne hT (hf2.out.tr hfin))) (Rd.fr hC2.out (Fr.of_ne hT hfin)) (((fW.any.tr hHc.out.2.2.1).tr hf2.out).tr hfin)
end Go.Proofs.Qxb6601153a
