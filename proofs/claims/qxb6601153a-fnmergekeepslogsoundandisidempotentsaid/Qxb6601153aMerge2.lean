/-
  SEAT b6601153a. THE WALK OF merge where the entries go on behind the log's last. By an AI agent.
-/
import Derived.Test.Qxb6601153aMerge
import Derived.BigRegion
namespace Go.Proofs.Qxb6601153a
open Go.RowKit
set_option linter.unusedVariables false

set_option maxRecDepth 100000 in
set_option maxHeartbeats 4000000 in
/-- merge, where the first entry that the log lacks comes right behind its last. -/
theorem c35_beyond {T : Nat → Prop} (w : World) (base L : Nat) (si st : Int) (vo le : Value) (off : Int) (ev cv : Value) (un sb : Int) (rs ap : List Raw) (av : Value) (k : Nat) (x : Raw) (hL : Lg w L si st vo le off ev cv un sb)
    (hE : w.ownsRow base 61 4 ev rs.length (flat rs)) (hC : w.ownsRow base 22 1 cv (chgs rs).length ((chgs rs).map (Value.int .u64))) (hb : base ≤ w.heap.size) (b0 : 0 ≤ off) (b1 : off + rs.length < 18446744073709551615) (b2 : rs.length ≤ 1048576) (ha : Rd T w av ap.length (flat ap)) (hix : IdxOk ap) (hptr : ∀ r ∈ ap, ∃ p, r.ch = .pointer p) (hcv : ∀ r ∈ ap, ∃ a n c, r.cv = .slice a n c)
    (hT : ∀ b, T b → b ≠ L ∧ ev.ownBlock ≠ some b ∧ cv.ownBlock ≠ some b) (hidx : Runs off rs)
    (hall : ∀ (j : Nat) (r : Raw), j < k → ap[j]? = some r → termF si st off rs r.idx = some r.term) (hx : ap[k]? = some x) (hno : termF si st off rs x.idx ≠ some x.term) (hxm : x.idx = off + rs.length + 1) (hn : ap.length ≤ 1048576) :
    Calls Try.prog 35 #[.pointer (some ⟨L, 0, none⟩), av] w (Merged T w base L si st vo le off un sb rs (rs ++ ap.drop k) rs.length) := by
  obtain ⟨ao, c, rfl, hnc, hcm, _, hp⟩ := ha
  have hkn : k < ap.length := (List.getElem?_eq_some_iff.1 hx).1
  obtain ⟨ba, oa, rfl, hTb, hcell⟩ := hp (by omega)
  have hcellH : Hid (∀ j u, (flat ap)[j]? = some u → w.cell? ⟨ba, oa + j, none⟩ = some u) := hcell
  have hH : Hid (Lg w L si st vo le off ev cv un sb ∧ w.ownsRow base 61 4 ev rs.length (flat rs) ∧ w.ownsRow base 22 1 cv (chgs rs).length ((chgs rs).map (Value.int .u64)) ∧ (∀ b, T b → b ≠ L ∧ ev.ownBlock ≠ some b ∧ cv.ownBlock ≠ some b) ∧ IdxOk ap ∧ (∀ r ∈ ap, ∃ p, r.ch = .pointer p) ∧ (∀ r ∈ ap, ∃ a n c, r.cv = .slice a n c) ∧ T ba) := ⟨hL, hE, hC, hT, hix, hptr, hcv, hTb⟩
  have hI : Hid (Runs off rs ∧ (∀ (j : Nat) (r : Raw), j < k → ap[j]? = some r → termF si st off rs r.idx = some r.term) ∧ ap[k]? = some x ∧ termF si st off rs x.idx ≠ some x.term ∧ x.idx = off + rs.length + 1) := ⟨hidx, hall, hx, hno, hxm⟩
  have hcmH : Hid (c ≤ maxLen) := hcm
  clear hp hL hE hC hix hptr hcv hall hT hcell hidx hx hno hcm hxm hTb
  go_enter Try.func35, Try.ntmps35
  go_wp2
  go_loopw [11] (fun i wr => ∃ j : Nat, j ≤ k ∧ i = .int .i64 j ∧ Fr All w wr) (fun i _ => k - (intOf i).toNat)
  case atStart => exact ⟨0, by omega, rfl, Fr.refl _ _⟩
  case round =>
    obtain ⟨j, hj, rfl, hfr⟩ := hrel
    have hjn : j < ap.length := by omega
    obtain ⟨r, hr⟩ : ∃ r, ap[j]? = some r := ⟨ap[j], by simp [hjn]⟩
    obtain ⟨e0, e1, e2, e3⟩ := ents_cells hcellH.out hr
    have rm := List.mem_of_getElem? hr
    obtain ⟨p, hp⟩ := hH.out.2.2.2.2.2.1 r rm
    obtain ⟨a2, n2, c2, hv2⟩ := hH.out.2.2.2.2.2.2.1 r rm
    obtain ⟨⟨i0, i1⟩, _⟩ := hH.out.2.2.2.2.1 r rm
    rw [hp] at e3
    rw [hv2] at e2
    have q0 := hfr.cellSome e0 trivial
    have q1 := hfr.cellSome e1 trivial
    have q2 := hfr.cellSome e2 trivial
    have q3 := hfr.cellSome e3 trivial
    have hbl : ba < wr.heap.size := World.block_lt_of_cell? wr _ q0
    have hrH : Hid (ap[j]? = some r) := hr
    clear hr hp e0 e1 e2 e3 hv2 rm
    go_wp2_with fail
    have hfx : Fr All w (wr.alloc (.cells #[.int .u64 r.idx, .int .u64 r.term, .slice a2 n2 c2, .pointer p] 61)) := hfr.tr (Fr.alloc _ _ _)
    refine (c44 (T := All) _ L si st vo le off ev cv un sb r.idx r.term rs (hfx.heap hH.out.1 trivial) (Rd.fr (Rd.own hH.out.2.1 (fun _ _ _ => trivial)) hfx) b0 (by omega) (by omega) i0 i1).mono ?_
    rintro e w' ⟨rfl, nq, rfl⟩
    by_cases hjk : j < k
    · rw [hI.out.2.1 j r hjk hrH.out]
      go_wp2
      go_roundw
      case rel => exact ⟨j + 1, by omega, by go_num, hfx.tr (Fr.drewN _ _ _)⟩
      case measure => simp [intOf]; omega
    · obtain rfl : j = k := by omega
      have hrx : r = x := by have := hrH.out; rw [hI.out.2.2.1] at this; injection this with h; exact h.symm
      subst hrx
      have hno : (termF si st off rs r.idx == some r.term) = false := by simpa using hI.out.2.2.2.1
      rw [hno]
      have hixm : r.idx = off + rs.length + 1 := hI.out.2.2.2.2
      rw [hixm]
      obtain ⟨W, hW⟩ : ∃ W, W = (wr.alloc (.cells #[.int .u64 (off + rs.length + 1), .int .u64 r.term, .slice a2 n2 c2, .pointer p] 61)).drewN nq := ⟨_, rfl⟩
      have fW : Fr All w W := by rw [hW, ← hixm]; exact hfx.tr (Fr.drewN _ _ _)
      have hBX : Hid (W.heap[wr.heap.size]? = some (.cells #[.int .u64 (off + rs.length + 1), .int .u64 r.term, .slice a2 n2 c2, .pointer p] 61 (0, 0))) := by rw [hW]; exact heap_alloc_new wr _
      have bx : W.cell? ⟨wr.heap.size, 0, none⟩ = some (.int .u64 (off + rs.length + 1)) := by rw [cell_of_row W _ _ _ _ _ hBX.out]; rfl
      rw [← hW]
      clear hW
      obtain ⟨ae, ne, ce, hev⟩ := own_shape hH.out.2.1
      obtain ⟨ac, nc, cc, hcvv⟩ := own_shape hH.out.2.2.1
      subst hev hcvv
      have hLW : Hid (Lg W L si st vo le off (.slice ae ne ce) (.slice ac nc cc) un sb) := fW.heap hH.out.1 trivial
      have q4 : W.cell? ⟨L, 4, none⟩ = some (.int .u64 off) := by rw [cell_of_row W L _ _ _ _ hLW.out]; rfl
      have q5 : W.cell? ⟨L, 5, none⟩ = some (.slice ae ne ce) := by rw [cell_of_row W L _ _ _ _ hLW.out]; rfl
      have q6 : W.cell? ⟨L, 6, none⟩ = some (.slice ac nc cc) := by rw [cell_of_row W L _ _ _ _ hLW.out]; rfl
      have z5 : W.frozen? ⟨L, 5, none⟩ = false := frozen_of_row W L _ _ _ hLW.out
      have hlL : L < W.heap.size := lt_of_block hLW.out
      have hnlen : ne = rs.length := own_len hH.out.2.1
      have hclen : nc = (chgs rs).length := own_len hH.out.2.2.1
      subst hnlen hclen
      clear q0 q1 q2 q3 hfx i0 i1
      go_wp2
      go_quiet ((go_at_call 45; exact quiet_of_qt (c45 _ L si st vo le off ae rs.length ce _ un sb (by exact (Fr.drewN All _ _).heap hLW.out trivial) b0 (by omega) (by omega))))
      have hcd : decide (off + (rs.length : Int) + 1 ≤ off + (rs.length : Int)) = false := by simp; omega
      go_wp2_with fail
      obtain ⟨W4, hW4⟩ : ∃ W4, W4 = W.drewN nq := ⟨_, rfl⟩
      rw [← hW4]
      have hH4 : Hid (Lg W4 L si st vo le off (.slice ae rs.length ce) (.slice ac (chgs rs).length cc) un sb ∧ Fr (fun b => b ≠ L) W W4) := by rw [hW4]; exact ⟨(Fr.drewN All _ _).heap hLW.out trivial, Fr.drewN _ _ _⟩
      clear hW4 q4 q5 q6 z5 bx
      have q5 : W4.cell? ⟨L, 5, none⟩ = some (.slice ae rs.length ce) := by rw [cell_of_row W4 L _ _ _ _ hH4.out.1]; rfl
      have q6 : W4.cell? ⟨L, 6, none⟩ = some (.slice ac (chgs rs).length cc) := by rw [cell_of_row W4 L _ _ _ _ hH4.out.1]; rfl
      have hsl2 := run_cut_some (P := Try.prog) Try.underlying36 Try.size61 ba oa ap.length c j (by omega) hjn .i64
      have hE4 : Hid (W4.ownsRow base 61 4 (.slice ae rs.length ce) rs.length (flat rs)) := by
        have h1 := own_fr hH.out.2.1 fW (fun _ _ => trivial)
        exact own_fr h1 hH4.out.2 (fun b hb e => own_ne h1 hLW.out (by decide) (e ▸ hb))
      have hC4 : Hid (W4.ownsRow base 22 1 (.slice ac (chgs rs).length cc) (chgs (rs)).length ((chgs (rs)).map (Value.int .u64))) := by
        have h1 := own_fr hH.out.2.2.1 fW (fun _ _ => trivial)
        exact own_fr h1 hH4.out.2 (fun b hb e => own_ne h1 hLW.out (by decide) (e ▸ hb))
      have hsz : base ≤ W4.heap.size := Nat.le_trans hb (Nat.le_trans fW.size hH4.out.2.size)
      have hone : Hid (∀ u ∈ flat (ap.drop j), u.oneCell' = true) := flat_one (fun r hr => ⟨hH.out.2.2.2.2.2.2.1 r (List.mem_of_mem_drop hr), hH.out.2.2.2.2.2.1 r (List.mem_of_mem_drop hr)⟩)
      have hTba := hH.out.2.2.2.1 ba hH.out.2.2.2.2.2.2.2
      have hnw0 : ∀ i u, (flat (ap.drop j))[i]? = some u → W4.cell? ⟨ba, oa + j * 4 + i, none⟩ = some u := by
        intro i u hu
        rw [← flat_drop, List.getElem?_drop] at hu
        have h1 := hcellH.out _ _ hu
        rw [← Nat.add_assoc] at h1
        exact hH4.out.2.cellSome (fW.cellSome h1 trivial) hTba.1
      have hnw : Hid (∀ i u, (flat (ap.drop j))[i]? = some u → W4.drew.cell? ⟨ba, oa + j * 4 + i, none⟩ = some u) := hnw0
      have hap : Hid (Rd T W4 (.slice (some ⟨ba, oa + j * 4, none⟩) (ap.length - j) (c - j)) (ap.drop j).length (flat (ap.drop j))) :=
        ⟨some ⟨ba, oa + j * 4, none⟩, c - j, by simp, by simp; omega, by have := hcmH.out; omega, (by intro h; cases h), fun _ => ⟨ba, oa + j * 4, rfl, hH.out.2.2.2.2.2.2.2, hnw0⟩⟩
      clear hnw0 hTba
      go_wp2
      go_region_law (first | (refine step_app rfl (.tmp 82) (.tmp 85) 36 rfl base 61 (.agg #[.int .u64 0, .int .u64 0, .slice none 0 0, .pointer none]) 4 48 Try.underlying36 Try.info61 rfl (by omega) _ _ _ rfl hE4.out.drew ba (oa + j * 4) (ap.length - j) (c - j) (flat (ap.drop j)) rfl (by rw [length_flat]; simp) (by exact hnw.out) (by exact hone.out) (by unfold maxLen; omega) (by omega) (by exact hsz) ?_; intro v' w' hown' hgrow hblk'; obtain ⟨a', n', c', rfl⟩ := own_shape hown'; have hL6 := grow_L1 hgrow (hH4.out.1) (own_ne hE4.out hH4.out.1 (by decide)); have g6 := cell5_of hL6; have gz := frozen5_of hL6))
      go_wp2_with fail
      have hL5 : Lg (w'.setCell ⟨L, 5, none⟩ (.slice a' n' c')) L si st vo le off (.slice a' n' c') (.slice ac (chgs rs).length cc) un sb := heap_setCell_same _ L 5 _ _ _ hL6
      have hneEL := own_ne hown' hL6 (by decide)
      have hE5 := ownsRow_setCell_other (a := ⟨L, 5, none⟩) hown' hneEL (.slice a' n' c')
      have g4 : Fr (fun b => (Value.slice ae rs.length ce).ownBlock ≠ some b) W4 w' := (Fr.drew _ _).tr (Fr.grown hgrow (fun k hk h => h hk))
      have g5 : Fr (fun b => (Value.slice ae rs.length ce).ownBlock ≠ some b ∧ b ≠ L) W4 (w'.setCell ⟨L, 5, none⟩ (.slice a' n' c')) := g4.trans (Fr.setCell (T := fun b => b ≠ L) _ _ _ (by simp)) (fun i _ h => h)
      have hC5 := own_fr hC4.out g5 (fun b hb => ⟨own_ne2 hC4.out hE4.out (by decide) b hb, fun e => own_ne hC4.out hH4.out.1 (by decide) (e ▸ hb)⟩)
      have hT5 : ∀ b, T b → b ≠ L ∧ (Value.slice ae rs.length ce).ownBlock ≠ some b ∧ (Value.slice ac (chgs rs).length cc).ownBlock ≠ some b := hH.out.2.2.2.1
      have hap5 := Rd.fr hap.out (g5.mono (T' := T) (fun i _ h => ⟨(hT5 i h).2.1, (hT5 i h).1⟩))
      have hap5' : Rd T (w'.setCell ⟨L, 5, none⟩ (.slice a' n' c')) (.slice (some ⟨ba, oa + j * 4, none⟩) (ap.length - j) (c - j)) (ap.drop j).length (flat (ap.drop j)) := hap5
      have hsz5 : base ≤ (w'.setCell ⟨L, 5, none⟩ (.slice a' n' c')).heap.size := Nat.le_trans hsz g5.size
      have hctl : (chgs (rs)).length ≤ rs.length := chgs_len rs
      refine (c47 (T := T) _ base L si st vo le off (.slice a' n' c') (.slice ac (chgs rs).length cc) un sb (chgs (rs)) _ (ap.drop j) hL5 hC5 hsz5 hap5' (fun b h => ⟨(hT5 b h).1, (hT5 b h).2.2⟩)
        (fun r hr => hH.out.2.2.2.2.2.1 r (List.mem_of_mem_drop hr)) (fun r hr => hH.out.2.2.2.2.2.2.1 r (List.mem_of_mem_drop hr)) (by simp; omega)).mono ?_
      rintro e W6 ⟨rfl, cv6, hL66, hC6, f56, hblk6⟩
      obtain ⟨a6, n6, c6, rfl⟩ := own_shape hC6
      obtain rfl := own_len hC6
      have g6' : W6.cell? ⟨L, 6, none⟩ = some (.slice a6 (chgs (rs) ++ chgs (ap.drop j)).length c6) := cell6_of hL66
      have hlen' : (rs ++ ap.drop j).length = rs.length + (ap.length - j) := by simp
      have hfin : Hid (∃ ev' cv', Lg W6 L si st vo le off ev' cv' (if rs.length < rs.length then min un (off + rs.length + 1) else un) (if rs.length < rs.length then min sb (off + rs.length) else sb) ∧
          W6.ownsRow base 61 4 ev' (rs ++ ap.drop j).length (flat (rs ++ ap.drop j)) ∧ W6.ownsRow base 22 1 cv' (chgs (rs ++ ap.drop j)).length ((chgs (rs ++ ap.drop j)).map (Value.int .u64)) ∧ Fr T w W6) := by
        refine ⟨.slice a' n' c', .slice a6 (chgs (rs) ++ chgs (ap.drop j)).length c6, ?_, ?_, ?_, ?_⟩
        · rw [if_neg (by omega), if_neg (by omega)]; exact hL66
        · rw [hlen', flat_append]
          exact own_fr hE5 f56 (fun b hb => ⟨fun e => hneEL (e ▸ hb), own_ne2 hE5 hC5 (by decide) b hb⟩)
        · rw [chgs_append]; exact hC6
        · have t1 : Fr T w W4 := fW.trans hH4.out.2 (fun i _ h => ⟨trivial, (hT5 i h).1⟩)
          have t2 : Fr T w _ := t1.trans g5 (fun i _ h => ⟨h, (hT5 i h).2.1, (hT5 i h).1⟩)
          exact t2.trans f56 (fun i _ h => ⟨h, (hT5 i h).1, (hT5 i h).2.2⟩)
      obtain ⟨N6, hN6⟩ : ∃ N6, N6 = (chgs (rs) ++ chgs (ap.drop j)).length := ⟨_, rfl⟩
      rw [← hN6] at g6'
      have hN6H : Hid (N6 = (chgs (rs) ++ chgs (ap.drop j)).length) := hN6
      have hN6l : N6 ≤ 2097152 := by rw [hN6]; simp; have := chgs_len (ap.drop j); simp at this; omega
      have hrl : (chgs rs).length ≤ 1048576 := by have := chgs_len rs; omega
      clear hN6 hL66 hC6 f56 hblk6 hL5 hneEL hE5 g4 g5 hC5 hT5 hap5 hap5' hsz5 hctl hlen' hown' hgrow hblk' hL6 g6 gz q5 q6 hsl2 hE4 hC4 hap hone hnw hsz
      have hkd : decide (((chgs rs).length : Int) < ((chgs rs).length : Int)) = false := by simp
      go_wp2
      go_ret
      refine ⟨?_, hfin.out⟩
      rw [chgs_append, ← hN6H.out, List.take_length]
      simp
end Go.Proofs.Qxb6601153a
