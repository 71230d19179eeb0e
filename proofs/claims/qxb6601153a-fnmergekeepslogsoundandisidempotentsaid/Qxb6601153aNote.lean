/-
  SEAT b6601153a. THE WALK OF noteChanges. By an AI agent.
-/
import Derived.Test.Qxb6601153aApp
import Derived.Test.Qxb6601153aClone
import Derived.Deep.RegionLaw
namespace Go.Proofs.Qxb6601153a
open Go.RowKit
set_option linter.unusedVariables false

/-- What noteChanges leaves. -/
def Notes (w : World) (base L : Nat) (si st : Int) (vo le : Value) (off : Int) (ev cv : Value) (un sb : Int) (ms : List Int) (e : Ending) (w' : World) : Prop :=
  e = .returned (.tuple #[]) ∧ ∃ cv', Lg w' L si st vo le off ev cv' un sb ∧ w'.ownsRow base 22 1 cv' ms.length (ms.map (Value.int .u64)) ∧ Fr (fun b => b ≠ L ∧ cv.ownBlock ≠ some b) w w' ∧ (cv'.ownBlock = cv.ownBlock ∨ ∀ b, cv'.ownBlock = some b → w.heap.size ≤ b)

theorem own_ne {w : World} {base : Nat} {e : TypeId} {size : Nat} {v : Value} {n : Nat} {xs : List Value} (h : w.ownsRow base e size v n xs) {L : Nat} {cs : Array Value} {t : TypeId} {fz : Nat × Nat} (hL : w.heap[L]? = some (.cells cs t fz)) (hne : t ≠ e) : v.ownBlock ≠ some L := by
  intro hb
  obtain ⟨_, h⟩ := h
  rcases h with ⟨rfl, _⟩ | ⟨g, cap, cur, rfl, _, hg, _⟩
  · cases hb
  · simp only [Value.ownBlock, Option.some.injEq] at hb
    subst hb
    rw [hL] at hg
    simp at hg
    exact hne hg.2.1

theorem grow_L {w w' : World} {row : Option Nat} {B1 B2 : Obj} {L : Nat} {o : Obj} (hg : (((w.alloc B1).alloc B2).drew).grownBy w' row) (h : w.heap[L]? = some o) (hne : row ≠ some L) : w'.heap[L]? = some o := by
  have h1 : (((w.alloc B1).alloc B2).drew).heap[L]? = some o := ((((Fr.alloc All w B1).tr (Fr.alloc _ _ B2)).tr (Fr.drew _ _)).heap h trivial)
  rw [hg.block L (lt_of_block h1) (fun e => hne e.symm)]; exact h1
theorem cell6_of {w : World} {L : Nat} {si st : Int} {vo le : Value} {off : Int} {ev cv : Value} {un sb : Int} (h : w.heap[L]? = some (.cells #[.int .u64 si, .int .u64 st, vo, le, .int .u64 off, ev, cv, .int .u64 un, .int .u64 sb] 82 (0, 0))) : w.cell? ⟨L, 6, none⟩ = some cv := by rw [cell_of_row w L _ _ _ _ h]; rfl
theorem frozen6_of {w : World} {L : Nat} {si st : Int} {vo le : Value} {off : Int} {ev cv : Value} {un sb : Int} (h : w.heap[L]? = some (.cells #[.int .u64 si, .int .u64 st, vo, le, .int .u64 off, ev, cv, .int .u64 un, .int .u64 sb] 82 (0, 0))) : w.frozen? ⟨L, 6, none⟩ = false := frozen_of_row w L _ _ _ h
theorem notes_step {w wr w' : World} {base L : Nat} {si st : Int} {vo le : Value} {off : Int} {ev cv : Value} {un sb : Int} {v v' : Value} {ns cs cs' : List Int} {x : Int} {B1 B2 : Obj} (hst : cs' = cs ++ (if (some ()).isSome then [x] else []))
    (hL : Lg wr L si st vo le off ev v un sb) (hown : wr.ownsRow base 22 1 v (ns ++ cs).length ((ns ++ cs).map (Value.int .u64))) (hfr : Fr (fun b => b ≠ L ∧ cv.ownBlock ≠ some b) w wr) (hblk : v.ownBlock = cv.ownBlock ∨ ∀ b, v.ownBlock = some b → w.heap.size ≤ b)
    (hown' : w'.ownsRow base 22 1 v' ((ns ++ cs).length + 1) ((ns ++ cs).map (Value.int .u64) ++ [.int .u64 x])) (hgrow : (((wr.alloc B1).alloc B2).drew).grownBy w' v.ownBlock) (hblk' : v'.ownBlock = v.ownBlock ∨ v'.ownBlock = some (((wr.alloc B1).alloc B2).drew).heap.size)
    (hL6 : w'.heap[L]? = some (.cells #[.int .u64 si, .int .u64 st, vo, le, .int .u64 off, ev, v, .int .u64 un, .int .u64 sb] 82 (0, 0))) :
    Lg (w'.setCell ⟨L, 6, none⟩ v') L si st vo le off ev v' un sb ∧ (w'.setCell ⟨L, 6, none⟩ v').ownsRow base 22 1 v' (ns ++ cs').length ((ns ++ cs').map (Value.int .u64)) ∧ Fr (fun b => b ≠ L ∧ cv.ownBlock ≠ some b) w (w'.setCell ⟨L, 6, none⟩ v') ∧ (v'.ownBlock = cv.ownBlock ∨ ∀ b, v'.ownBlock = some b → w.heap.size ≤ b) := by
  subst hst
  refine ⟨heap_setCell_same _ L 6 _ _ _ hL6, ?_, ?_, ?_⟩
  · have := ownsRow_setCell_other (a := ⟨L, 6, none⟩) hown' (own_ne hown' hL6 (by decide)) v'
    simpa [← List.append_assoc, Nat.add_assoc] using this
  · have f1 : Fr (fun b => b ≠ L ∧ cv.ownBlock ≠ some b) w (((wr.alloc B1).alloc B2).drew) := hfr.tr (((Fr.alloc _ _ _).tr (Fr.alloc _ _ _)).tr (Fr.drew _ _))
    have f2 : Fr (fun b => v.ownBlock ≠ some b) (((wr.alloc B1).alloc B2).drew) w' := Fr.grown hgrow (fun k hk h => h hk)
    have f3 : Fr (fun b => b ≠ L) w' (w'.setCell ⟨L, 6, none⟩ v') := Fr.setCell _ _ _ (by simp)
    have f4 : Fr (fun b => b ≠ L ∧ cv.ownBlock ≠ some b) w w' := f1.trans f2 (fun i hi hT => ⟨hT, fun e => by
      rcases hblk with hb | hb
      · exact hT.2 (hb ▸ e)
      · have := hb i e; omega⟩)
    exact f4.trans f3 (fun i hi hT => ⟨hT, hT.1⟩)
  · have hs : w.heap.size ≤ wr.heap.size := hfr.size
    rcases hblk' with h | h
    · rw [h]; exact hblk
    · right; intro b hb; rw [h] at hb; simp at hb; omega
theorem arr1 (w : World) (x : Value) {B : Obj} : ∀ j u, [x][j]? = some u → (((w.alloc B).alloc (.cells #[x] 22)).drew).cell? ⟨w.heap.size + 1, 0 + j, none⟩ = some u := by
  intro j u h
  cases j with
  | zero => simpa using h
  | succ j => simp at h
set_option maxRecDepth 100000 in
set_option maxHeartbeats 2000000 in
/-- noteChanges. -/
theorem c47 {T : Nat → Prop} (w : World) (base L : Nat) (si st : Int) (vo le : Value) (off : Int) (ev cv : Value) (un sb : Int) (ns : List Int) (av : Value) (ap : List Raw) (h : Lg w L si st vo le off ev cv un sb)
    (ho : w.ownsRow base 22 1 cv ns.length (ns.map (Value.int .u64))) (hb : base ≤ w.heap.size) (ha : Rd T w av ap.length (flat ap)) (hT : ∀ b, T b → b ≠ L ∧ cv.ownBlock ≠ some b) (hptr : ∀ r ∈ ap, ∃ p, r.ch = .pointer p) (hcv : ∀ r ∈ ap, ∃ a n c, r.cv = .slice a n c)
    (hn : ns.length + ap.length ≤ 1099511627776) :
    Calls Try.prog 47 #[.pointer (some ⟨L, 0, none⟩), av] w (Notes w base L si st vo le off ev cv un sb (ns ++ chgs ap)) := by
  obtain ⟨ao, c, rfl, hnc, hcm, _, hp⟩ := ha
  have hpH : Hid (0 < ap.length → ∃ b off, ao = some ⟨b, off, none⟩ ∧ T b ∧ ∀ j u, (flat ap)[j]? = some u → w.cell? ⟨b, off + j, none⟩ = some u) := hp
  have hH : Hid (Lg w L si st vo le off ev cv un sb ∧ w.ownsRow base 22 1 cv ns.length (ns.map (Value.int .u64)) ∧ (∀ b, T b → b ≠ L ∧ cv.ownBlock ≠ some b) ∧ (∀ r ∈ ap, ∃ p, r.ch = .pointer p) ∧ (∀ r ∈ ap, ∃ a n c, r.cv = .slice a n c)) := ⟨h, ho, hT, hptr, hcv⟩
  clear hp h ho hT hptr hcm hcv
  go_enter Try.func47, Try.ntmps47
  go_wp2
  go_loopw [8] (fun i wr => ∃ (k : Nat) (cvk : Value), k ≤ ap.length ∧ i = .int .i64 k ∧ Lg wr L si st vo le off ev cvk un sb ∧ wr.ownsRow base 22 1 cvk (ns ++ chgs (ap.take k)).length ((ns ++ chgs (ap.take k)).map (Value.int .u64)) ∧ Fr (fun b => b ≠ L ∧ cv.ownBlock ≠ some b) w wr ∧ (cvk.ownBlock = cv.ownBlock ∨ ∀ b, cvk.ownBlock = some b → w.heap.size ≤ b)) (fun i _ => ap.length - (intOf i).toNat)
  case atStart => exact ⟨0, cv, by omega, rfl, hH.out.1, by simpa [chgs] using hH.out.2.1, Fr.refl _ _, .inl rfl⟩
  case round =>
    obtain ⟨k, cvk, hk, rfl, hL, hown, hfr, hblk⟩ := hrel
    obtain ⟨aok, nk, ck, rfl⟩ := own_shape hown
    have hKH : Hid (Lg wr L si st vo le off ev (Value.slice aok nk ck) un sb ∧ wr.ownsRow base 22 1 (Value.slice aok nk ck) (ns ++ chgs (ap.take k)).length ((ns ++ chgs (ap.take k)).map (Value.int .u64)) ∧ Fr (fun b => b ≠ L ∧ cv.ownBlock ≠ some b) w wr ∧ ((Value.slice aok nk ck).ownBlock = cv.ownBlock ∨ ∀ b, (Value.slice aok nk ck).ownBlock = some b → w.heap.size ≤ b)) := ⟨hL, hown, hfr, hblk⟩
    by_cases hlt : k < ap.length
    · obtain ⟨b, o, rfl, hTb, hcell⟩ := hpH.out (by omega)
      obtain ⟨r, hr⟩ : ∃ r, ap[k]? = some r := ⟨ap[k], by simp [hlt]⟩
      obtain ⟨e0, e1, e2, e3⟩ := ents_cells hcell hr
      obtain ⟨p, hp⟩ := hH.out.2.2.2.1 r (List.mem_of_getElem? hr)
      obtain ⟨a2, n2, c2, hv2⟩ := hH.out.2.2.2.2 r (List.mem_of_getElem? hr)
      rw [hp] at e3
      rw [hv2] at e2
      have hTT := hH.out.2.2.1 b hTb
      have q0 := hfr.cellSome e0 hTT
      have q1 := hfr.cellSome e1 hTT
      have q2 := hfr.cellSome e2 hTT
      have q3 := hfr.cellSome e3 hTT
      have hbl : b < wr.heap.size := World.block_lt_of_cell? wr _ q0
      have hst := chgs_step hr
      have hfl : r.flag = p.isSome := by simp only [Raw.flag, hp]; cases p <;> rfl
      rw [hfl] at hst
      have hstH : Hid (chgs (ap.take (k + 1)) = chgs (ap.take k) ++ (if p.isSome then [r.idx] else [])) := hst
      clear hcell hr hp hTT hst hfl hL hown hfr hblk e0 e1 e2 e3 hpH hv2 hTb
      cases p with
      | none =>
        go_wp2
        go_roundw
        case rel =>
          obtain ⟨hL, hown, hfr, hblk⟩ := hKH.out
          refine ⟨k + 1, (Value.slice aok nk ck), by omega, by go_num, (Fr.alloc All _ _).heap hL trivial, ?_, hfr.tr (Fr.alloc _ _ _), hblk⟩
          rw [hstH.out]; simpa using hown.alloc _
        case measure => simp [intOf]; omega
      | some pa =>
        have q6 : wr.cell? ⟨L, 6, none⟩ = some (Value.slice aok nk ck) := by rw [cell_of_row wr L _ _ _ _ hKH.out.1]; rfl
        have hLl : L < wr.heap.size := World.block_lt_of_cell? wr _ q6
        have z6 : wr.frozen? ⟨L, 6, none⟩ = false := frozen_of_row wr L _ _ _ hKH.out.1
        have hne : (Value.slice aok nk ck).ownBlock ≠ some L := own_ne hKH.out.2.1 hKH.out.1 (by decide)
        have hkl : (ns ++ chgs (ap.take k)).length ≤ ns.length + ap.length := by
          simp only [List.length_append, chgs, List.length_map]
          have := List.length_filter_le Raw.flag (ap.take k)
          simp at this
          omega
        go_wp2
        go_region_law (first | (refine step_app rfl (.tmp 19) (.tmp 22) 24 rfl base 22 (.int .u64 0) 1 8 Try.underlying24 Try.info22 rfl (by omega) _ _ _ rfl (((hKH.out.2.1.alloc _).alloc _).drew) (wr.heap.size + 1) 0 1 1 [.int .u64 r.idx] rfl rfl (by exact arr1 _ _) (by simp [Value.oneCell']) (by unfold maxLen; omega) (by omega) (by have := hKH.out.2.2.1.size; simp; omega) ?_; intro v' w' hown' hgrow hblk'; obtain ⟨a', n', c', rfl⟩ := own_shape hown'; have hL6 := grow_L hgrow (hKH.out.1) hne; have g6 := cell6_of hL6; have gz := frozen6_of hL6))
        all_goals
          go_wp2
          go_roundw
          case rel =>
            obtain ⟨hL, hown, hfr, hblk⟩ := hKH.out
            exact ⟨k + 1, Value.slice a' n' c', by omega, by go_num, notes_step hstH.out hL hown hfr hblk hown' hgrow hblk' hL6⟩
          case measure => simp [intOf]; omega
    · go_wp2
      go_end0
      obtain ⟨hL, hown, hfr, hblk⟩ := hKH.out
      rw [List.take_of_length_le (by omega)] at hown
      exact ⟨rfl, (Value.slice aok nk ck), hL, hown, hfr, hblk⟩
end Go.Proofs.Qxb6601153a
