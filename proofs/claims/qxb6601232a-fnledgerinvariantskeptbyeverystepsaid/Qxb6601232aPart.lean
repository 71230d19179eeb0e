/-
  SEAT b6601232a. THE WALKS OF takePart, ZZTakePart. By an AI agent.
-/
import Derived.Test.Qxb6601232aNode
namespace Go.Proofs.Qxb6601232a
open Go.RowKit
set_option linter.unusedVariables false

theorem pair_inj {qs : List (Nat × St)} (hn : (names (qs.map Prod.snd)).Nodup) {p q : Nat × St} (hp : p ∈ qs) (hq : q ∈ qs) (h : p.2.name = q.2.name) : p = q := by
  unfold names List.Nodup at hn
  rw [List.map_map, List.pairwise_map] at hn
  induction qs with
  | nil => cases hp
  | cons a qs ih =>
    rw [List.pairwise_cons] at hn
    rcases List.mem_cons.1 hp with rfl | hp' <;> rcases List.mem_cons.1 hq with rfl | hq'
    · rfl
    · exact absurd h (hn.1 q hq')
    · exact absurd h.symm (hn.1 p hp')
    · exact ih hn.2 hp' hq'
theorem cells_name {s t : St} (h : s.cells = t.cells) : s.name = t.name := by
  have := congrArg (fun a => a[0]?) h
  simpa [St.cells] using this
theorem MapW.congr {w : World} {mb : Nat} {qs qs' : List (Nat × St)} {D : DataW Unit} (h : MapW w mb qs D) (he : qs'.map (fun q => (q.1, q.2.name)) = qs.map fun q => (q.1, q.2.name)) : MapW w mb qs' D := by
  have hl : qs'.length = qs.length := by simpa using congrArg List.length he
  have hnm : names (qs'.map Prod.snd) = names (qs.map Prod.snd) := by
    have := congrArg (List.map Prod.snd) he
    simpa [names, List.map_map, Function.comp_def] using this
  obtain ⟨h1, h2, h3, h4⟩ := h
  refine ⟨by rw [hl]; exact h1, fun s => ?_, fun hn => ?_, fun hs => ?_⟩
  · rw [h2]
    rw [Bool.eq_iff_iff, getS_isSome, getS_isSome]
    change s ∈ names _ ↔ s ∈ names _
    rw [hnm]
  · rw [hnm] at hn
    obtain ⟨a, b⟩ := h3 hn
    refine ⟨by rw [hl]; exact a, fun q hq => ?_⟩
    have : (q.1, q.2.name) ∈ qs.map fun q => (q.1, q.2.name) := by rw [← he]; exact List.mem_map.2 ⟨q, hq, rfl⟩
    obtain ⟨p, hp, e⟩ := List.mem_map.1 this
    simp only [Prod.mk.injEq] at e
    rw [← e.1, ← e.2]; exact b p hp
  · rw [hnm]; exact h4 (by rw [← hl]; exact hs)

/-- A standing is written. -/
theorem led_upd {w w' : World} {S : Nat → Prop} {L : Nat} {qs : List (Nat × St)} {srt : Int} {lv t3 t4 : Value} (h : LedV w S L qs srt lv t3 t4) (hn : (names (qs.map Prod.snd)).Nodup) {b : Nat} {s s' : St} (hb : (b, s) ∈ qs) (he : s'.name = s.name)
    (hw : w'.heap[b]? = some (.cells s'.cells 48 (0, 0))) (hf : Fr (fun x => x ≠ b) w w') :
    LedV w' S L (qs.map fun q => if q.1 = b then (b, s') else q) srt lv t3 t4 ∧ (qs.map fun q => if q.1 = b then (b, s') else q).map Prod.snd = (qs.map Prod.snd).map fun t => if t.name = s.name then s' else t := by
  obtain ⟨sL, ⟨mb, D, hr, sM, hm⟩, own, sB, st⟩ := h
  obtain ⟨sb, hbb, hbl⟩ := st _ hb
  have key : ∀ q ∈ qs, q.1 = b → q = (b, s) := by
    intro q hq e
    refine pair_inj hn hq hb ?_
    have := (st q hq).2.1
    rw [e] at this
    change w.heap[b]? = _ at hbb
    rw [hbb] at this
    simp only [Option.some.injEq, Obj.cells.injEq, and_true] at this
    exact (cells_name this).symm
  refine ⟨⟨sL, ⟨mb, D, hf.heap hr ?_, sM, (hm.fr hf ?_).congr ?_⟩, ?_, sB, ?_⟩, ?_⟩
  · intro e; rw [e] at hr; change w.heap[b]? = _ at hbb; rw [hbb] at hr; cases hr
  · intro e; obtain ⟨es, clock, hh, _⟩ := hm.1; change w.heap[b]? = _ at hbb; rw [e, hbb] at hh; cases hh
  · rw [List.map_map]
    refine List.map_congr_left fun q hq => ?_
    simp only [Function.comp]
    split
    · rename_i e; rw [key q hq e]; simp [he]
    · rfl
  · have := own_fr own hf (fun g hg e => own_ne own hbb (by decide) (by rw [← e]; exact hg))
    rw [List.length_map, List.map_map]
    have e2 : qs.map ((fun q => ptr q.fst) ∘ fun q => if q.1 = b then (b, s') else q) = qs.map fun q => ptr q.1 := by
      refine List.map_congr_left fun q hq => ?_
      simp only [Function.comp]
      split
      · rename_i e; rw [e]
      · rfl
    rw [e2]; exact this
  · intro q hq
    obtain ⟨p, hp, rfl⟩ := List.mem_map.1 hq
    split
    · rename_i e; exact ⟨sb, hw, by rw [he]; exact hbl⟩
    · rename_i e; exact ⟨(st p hp).1, hf.heap (st p hp).2.1 e, (st p hp).2.2⟩
  · rw [List.map_map, List.map_map]
    refine List.map_congr_left fun q hq => ?_
    simp only [Function.comp]
    by_cases e : q.1 = b
    · rw [key q hq e]; simp
    · have : ¬ q.2.name = s.name := fun e' => e (by rw [pair_inj hn hq hb e'])
      simp [e, this]

/-- .. as a step of the plain law. -/
theorem step_of {ss : List St} {k : Kd} {nm : ByteArray} {s : St} (hn : (names (touch ss nm)).Nodup) (hs : s ∈ touch ss nm) (he : s.name = nm) : ((touch ss nm).map fun t => if t.name = s.name then eff k s else t) = step ss (k, nm) := by
  unfold step
  refine List.map_congr_left fun t ht => ?_
  simp only
  rw [he]
  split
  · rename_i e
    have : t = s := by
      have h1 := (mem_getS hn t).1 ht
      have h2 := (mem_getS hn s).1 hs
      rw [e] at h1; rw [he] at h2
      rw [h1] at h2; exact Option.some.inj h2
    rw [this]
  · rfl
/-- A loop's state behind k names. -/
def Loop (w1 : World) (S : Nat → Prop) (L : Nat) (ss : List St) (srt : Int) (t3 t4 : Value) (wr : World) : Prop :=
  ∃ qs lv, LedV wr (fun x => S x ∨ w1.heap.size ≤ x) L qs srt lv t3 t4 ∧ qs.map Prod.snd = ss ∧ (names ss).Nodup ∧ Fr (fun x => ¬ S x) w1 wr

theorem foldk {k : Kd} {ns : List ByteArray} {ss : List St} {i : Nat} {nm : ByteArray} (h : ns[i]? = some nm) : ((ns.take (i + 1)).map (k, ·)).foldl step ss = step (((ns.take i).map (k, ·)).foldl step ss) (k, nm) := by
  rw [List.take_add_one, h]; simp

theorem Loop.next {w1 wr w' w'' : World} {S : Nat → Prop} {L : Nat} {ss : List St} {srt : Int} {t3 t4 : Value} {qs' : List (Nat × St)} {lv' : Value} {b : Nat} {s : St} {nm : ByteArray} (k : Kd) (hs : (names ss).Nodup) (hw1 : w1.heap.size ≤ wr.heap.size)
    (hfr0 : Fr (fun x => ¬ S x) w1 wr) (hled : LedV w' (fun x => (S x ∨ w1.heap.size ≤ x) ∨ wr.heap.size ≤ x) L qs' srt lv' t3 t4) (hqs : qs'.map Prod.snd = touch ss nm) (hb : (b, s) ∈ qs') (hn : s.name = nm) (hfr : Fr (fun x => ¬ (S x ∨ w1.heap.size ≤ x)) wr w')
    (hw : w''.heap[b]? = some (.cells (eff k s).cells 48 (0, 0))) (hf : Fr (fun x => x ≠ b) w' w'') : Loop w1 S L (step ss (k, nm)) srt t3 t4 w'' := by
  have hnd : (names (qs'.map Prod.snd)).Nodup := by rw [hqs]; exact nodup_touch hs nm
  have hled : LedV w' (fun x => S x ∨ w1.heap.size ≤ x) L qs' srt lv' t3 t4 := hled.mono fun x hx => by rcases hx with h | h; exact h; exact Or.inr (Nat.le_trans hw1 h)
  obtain ⟨h1, h2⟩ := led_upd hled hnd hb (eff_name k s) hw hf
  refine ⟨_, lv', h1, ?_, nodup_step hs _, ?_⟩
  · rw [h2, hqs]
    rw [hqs] at hnd
    exact step_of hnd (by rw [← hqs]; exact List.mem_map.2 ⟨_, hb, rfl⟩) hn
  · have hSb := (hled.st _ hb).1
    refine hfr0.trans (hfr.trans hf (T := fun x => ¬ (S x ∨ w1.heap.size ≤ x)) fun i hi hT => ⟨hT, fun e => by subst e; exact hT hSb⟩) fun i hi hT => ⟨hT, fun h => ?_⟩
    rcases h with h | h
    · exact hT h
    · omega

theorem upd_h {w : World} {b : Nat} {n : ByteArray} {c a : Int} {bn : Bool} (h : w.heap[b]? = some (.cells (St.mk n c a false bn).cells 48 (0, 0))) : (w.setCell ⟨b, 1, none⟩ (.int .i64 (wrap64 (c + 1)))).heap[b]? = some (.cells (eff .h (St.mk n c a false bn)).cells 48 (0, 0)) := by
  rw [heap_setCell_same w b 1 _ 48 _ h]; rfl
theorem upd_a {w : World} {b : Nat} {n : ByteArray} {c a : Int} {bn : Bool} (h : w.heap[b]? = some (.cells (St.mk n c a false bn).cells 48 (0, 0))) : (w.setCell ⟨b, 1, none⟩ (.int .i64 (wrap64 (c - 1)))).heap[b]? = some (.cells (eff .a (St.mk n c a false bn)).cells 48 (0, 0)) := by
  rw [heap_setCell_same w b 1 _ 48 _ h]; rfl
theorem upd_m {w : World} {b : Nat} {n : ByteArray} {c a : Int} {bn : Bool} (h : w.heap[b]? = some (.cells (St.mk n c a false bn).cells 48 (0, 0))) :
    ((((w.setCell ⟨b, 1, none⟩ (.int .i64 0)).setCell ⟨b, 2, none⟩ (.int .i64 (wrap64 (a + 1)))).setCell ⟨b, 3, none⟩ (.bool true)).setCell ⟨b, 4, none⟩ (.bool (decide (2 ≤ wrap64 (a + 1))))).heap[b]? = some (.cells (eff .m (St.mk n c a false bn)).cells 48 (0, 0)) := by
  have h1 := heap_setCell_same w b 1 _ 48 (.int .i64 0) h
  have h2 := heap_setCell_same _ b 2 _ 48 (.int .i64 (wrap64 (a + 1))) h1
  have h3 := heap_setCell_same _ b 3 _ 48 (.bool true) h2
  rw [heap_setCell_same _ b 4 _ 48 _ h3]; rfl
theorem fr_h (w : World) (b : Nat) {v : Value} : Fr (fun x => x ≠ b) w (w.setCell ⟨b, 1, none⟩ v) := Fr.setCell _ _ _ (by simp)
theorem fr_a (w : World) (b : Nat) {v : Value} : Fr (fun x => x ≠ b) w (w.setCell ⟨b, 1, none⟩ v) := Fr.setCell _ _ _ (by simp)
theorem fr_m (w : World) (b : Nat) {v1 v2 v3 v4 : Value} : Fr (fun x => x ≠ b) w ((((w.setCell ⟨b, 1, none⟩ v1).setCell ⟨b, 2, none⟩ v2).setCell ⟨b, 3, none⟩ v3).setCell ⟨b, 4, none⟩ v4) :=
  (((Fr.setCell _ _ _ (by simp)).tr (Fr.setCell _ _ _ (by simp))).tr (Fr.setCell _ _ _ (by simp))).tr (Fr.setCell _ _ _ (by simp))

/-- What takePart leaves. -/
def Parted (w : World) (S : Nat → Prop) (L : Nat) (ss : List St) (srt : Int) (t3 t4 : Value) (H A M : List ByteArray) (e : Ending) (w' : World) : Prop :=
  e = .returned (.tuple #[]) ∧ ∃ qs' lv', LedV w' (fun x => S x ∨ w.heap.size ≤ x) L qs' srt lv' t3 t4 ∧ qs'.map Prod.snd = part ss H A M ∧ Fr (fun x => ¬ S x) w w'
def PartedW (w1 : World) (S : Nat → Prop) (L : Nat) (ss : List St) (srt : Int) (t3 t4 : Value) (H A M : List ByteArray) (e : Ending) (w' : World) : Prop :=
  e = .returned (.tuple #[]) ∧ ∃ qs' lv', LedV w' (fun x => S x ∨ w1.heap.size ≤ x) L qs' srt lv' t3 t4 ∧ qs'.map Prod.snd = part ss H A M ∧ Fr (fun x => ¬ S x) w1 w'

set_option maxRecDepth 100000 in
set_option maxHeartbeats 4000000 in
/-- takePart. -/
theorem c49 {T : Nat → Prop} (w : World) (S : Nat → Prop) (L : Nat) (qs : List (Nat × St)) (ss : List St) (srt num : Int) (lv t3 t4 hv av mv : Value) (H A M : List ByteArray) (h : LedV w S L qs srt lv t3 t4) (hqs : qs.map Prod.snd = ss) (hn : (names ss).Nodup) (hS : ∀ b, S b → b < w.heap.size)
    (hT : ∀ b, T b → ¬ S b) (h1 : Strs T w hv H) (h2 : Strs T w av A) (h3 : Strs T w mv M) (hsz : ∀ n ∈ H ++ A ++ M, n.size ≤ maxLen) (hlen : ss.length + H.length + A.length + M.length ≤ 1099511627776) :
    Calls Try.prog 49 #[.pointer (some ⟨L, 0, none⟩), .agg #[.int .u64 num, hv, av, mv]] w (Parted w S L ss srt t3 t4 H A M) := by
  obtain ⟨a1, k1, rfl, _, _, _, hp1⟩ := h1
  obtain ⟨a2, k2, rfl, _, _, _, hp2⟩ := h2
  obtain ⟨a3, k3, rfl, _, _, _, hp3⟩ := h3
  have hp1 := hid hp1
  have hp2 := hid hp2
  have hp3 := hid hp3
  have bH : H.length ≤ 1099511627776 := by omega
  have bA : A.length ≤ 1099511627776 := by omega
  have bM : M.length ≤ 1099511627776 := by omega
  have hle : w.heap.size ≤ (w.alloc (.cells #[.int .u64 num, .slice a1 H.length k1, .slice a2 A.length k2, .slice a3 M.length k3] 58)).heap.size := by simp
  suffices hmain : Calls Try.prog 49 #[.pointer (some ⟨L, 0, none⟩), .agg #[.int .u64 num, .slice a1 H.length k1, .slice a2 A.length k2, .slice a3 M.length k3]] w (PartedW (w.alloc (.cells #[.int .u64 num, .slice a1 H.length k1, .slice a2 A.length k2, .slice a3 M.length k3] 58)) S L ss srt t3 t4 H A M) by
    refine hmain.mono ?_
    rintro e w' ⟨rfl, qs', lv', r1, r2, r3⟩
    exact ⟨rfl, qs', lv', r1.mono (fun x hx => hx.imp id fun h => Nat.le_trans hle h), r2, (Fr.alloc _ _ _).tr r3⟩
  have hBn : ¬ S w.heap.size := fun h => Nat.lt_irrefl _ (hS _ h)
  have hA0 := Fr.alloc All w (.cells #[.int .u64 num, .slice a1 H.length k1, .slice a2 A.length k2, .slice a3 M.length k3] 58)
  have hL0 := hid (show Loop (w.alloc (.cells #[.int .u64 num, .slice a1 H.length k1, .slice a2 A.length k2, .slice a3 M.length k3] 58)) S L ss srt t3 t4 (w.alloc (.cells #[.int .u64 num, .slice a1 H.length k1, .slice a2 A.length k2, .slice a3 M.length k3] 58)) from
    ⟨qs, lv, (h.fr hA0 fun _ _ => trivial).mono (fun _ hx => Or.inl hx), hqs, hn, Fr.refl _ _⟩)
  have hb0 : (w.alloc (.cells #[.int .u64 num, .slice a1 H.length k1, .slice a2 A.length k2, .slice a3 M.length k3] 58)).heap[w.heap.size]? = some (.cells #[.int .u64 num, .slice a1 H.length k1, .slice a2 A.length k2, .slice a3 M.length k3] 58 (0, 0)) := heap_alloc_new w _
  go_enter Try.func49, Try.ntmps49
  go_wp2
  obtain ⟨W, hW⟩ : ∃ W, W = w.alloc (.cells #[.int .u64 num, .slice a1 H.length k1, .slice a2 A.length k2, .slice a3 M.length k3] 58) := ⟨_, rfl⟩
  rw [← hW] at hL0 hb0 hA0 hle ⊢
  have hWH := hid hW
  obtain ⟨B, hBe⟩ : ∃ B, B = w.heap.size := ⟨_, rfl⟩
  rw [← hBe] at hBn hb0 ⊢
  have hB : Hid (¬ S B ∧ W.cell? ⟨B, 2, none⟩ = some (.slice a2 A.length k2) ∧ W.cell? ⟨B, 3, none⟩ = some (.slice a3 M.length k3)) := ⟨hBn, by rw [cell_of_row W B _ _ _ _ hb0]; rfl, by rw [cell_of_row W B _ _ _ _ hb0]; rfl⟩
  have b1 : ss.length + H.length ≤ 1099511627776 := by omega
  have b2 : ∀ l : List St, l.length ≤ ss.length + H.length → l.length + A.length ≤ 1099511627776 := fun l hl => by omega
  have hA : Hid (Fr All w W ∧ (∀ b, T b → ¬ S b) ∧ (∀ n ∈ H ++ A ++ M, n.size ≤ maxLen) ∧ (ss.length + H.length ≤ 1099511627776) ∧ (((H.map (Kd.h, ·)).foldl step ss).length + A.length ≤ 1099511627776) ∧ (((A.map (Kd.a, ·)).foldl step ((H.map (Kd.h, ·)).foldl step ss)).length + M.length ≤ 1099511627776)) := by
    have f1 := length_fold (H.map (Kd.h, ·)) ss
    have f2 := length_fold (A.map (Kd.a, ·)) ((H.map (Kd.h, ·)).foldl step ss)
    simp only [List.length_map] at f1 f2
    exact ⟨hA0, hT, hsz, by omega, by omega, by omega⟩
  have hL0 := hL0.out
  clear hW hBe hb0 hA0 hT hsz hlen b1 b2 hBn h hqs hn hS
  go_loopw [16] (fun i wr => ∃ k : Nat, k ≤ H.length ∧ i = .int .i64 k ∧ Loop W S L (((H.take k).map (Kd.h, ·)).foldl step ss) srt t3 t4 wr) (fun i _ => H.length - (intOf i).toNat)
  case atStart => exact ⟨0, by omega, rfl, by simpa using hL0⟩
  case round =>
    obtain ⟨k, hk, rfl, hlp⟩ := hrel
    by_cases hlt : k < H.length
    · obtain ⟨b, o, rfl, hTb, hcell⟩ := hp1.out (by omega)
      obtain ⟨nm, hnm⟩ : ∃ nm, H[k]? = some nm := ⟨H[k], by simp [hlt]⟩
      obtain ⟨qs, lv, hled, hqs, hnd, hfr⟩ := hlp
      have q0 : wr.cell? ⟨b, o + k, none⟩ = some (.string nm) := hfr.cellSome (hA.out.1.cellSome (cell_at hcell hnm) trivial) (hA.out.2.1 b hTb)
      have hlen : qs.length ≤ 1099511627776 := by
        have e1 : qs.length = (qs.map Prod.snd).length := by simp
        rw [e1, hqs]
        have e2 := length_fold ((H.take k).map (Kd.h, ·)) (ss)
        have e3 := hA.out.2.2.2.1
        simp only [List.length_map, List.length_take] at e2; omega
      have hc := c55 wr _ L qs srt lv t3 t4 nm hled (by rw [hqs]; exact hnd) (hA.out.2.2.1 nm (by simp [List.mem_of_getElem? hnm])) hlen
      have hKH := hid (And.intro hqs (And.intro hnd (And.intro hfr hnm)))
      clear hcell hnm hqs hnd hfr hled
      go_wp2_with (go_at_call 55; refine hc.mono ?_; rintro e w' ⟨bb, qs', lv', rfl, hled', hqs', ⟨s, hbs, hsn⟩, hfr'⟩; have hb0 : w'.heap[bb]? = some (.cells s.cells 48 (0, 0)) := (hled'.st _ hbs).2.1; have x1 : w'.cell? ⟨bb, 1, none⟩ = some (.int .i64 s.cr) := (by rw [cell_of_row w' bb _ _ _ _ hb0]; rfl); have x2 : w'.cell? ⟨bb, 2, none⟩ = some (.int .i64 s.acts) := (by rw [cell_of_row w' bb _ _ _ _ hb0]; rfl); have x3 : w'.cell? ⟨bb, 3, none⟩ = some (.bool s.ex) := (by rw [cell_of_row w' bb _ _ _ _ hb0]; rfl); have x4 : w'.cell? ⟨bb, 4, none⟩ = some (.bool s.bn) := (by rw [cell_of_row w' bb _ _ _ _ hb0]; rfl); have z0 : ∀ j, w'.frozen? ⟨bb, j, none⟩ = false := (fun j => frozen_of_row w' bb _ _ _ hb0); have hNH := hid (And.intro hled' (And.intro hqs' (And.intro hbs (And.intro hsn (And.intro hfr' hb0))))); clear hled' hqs' hbs hsn hfr' hb0 hc; obtain ⟨sn, scr, sac, sex, sbn⟩ := s; cases sex)
      · go_roundw
        case rel =>
          obtain ⟨hqs, hnd, hfr, hnm⟩ := hKH.out
          obtain ⟨hled', hqs', hbs, hsn, hfr', hb0⟩ := hNH.out
          rw [hqs] at hqs'
          refine ⟨k + 1, by omega, by go_num, ?_⟩
          rw [foldk hnm]
          exact Loop.next .h hnd hfr.size hfr hled' hqs' hbs hsn hfr' (upd_h hb0) (fr_h _ _)
        case measure => simp [intOf]; omega
      · go_roundw
        case rel =>
          obtain ⟨hqs, hnd, hfr, hnm⟩ := hKH.out
          obtain ⟨hled', hqs', hbs, hsn, hfr', hb0⟩ := hNH.out
          rw [hqs] at hqs'
          refine ⟨k + 1, by omega, by go_num, ?_⟩
          rw [foldk hnm]
          exact Loop.next .h hnd hfr.size hfr hled' hqs' hbs hsn hfr' hb0 (Fr.refl _ _)
        case measure => simp [intOf]; omega
    · obtain rfl : k = H.length := by omega
      rw [List.take_length] at hlp
      obtain ⟨w1, hw1⟩ : ∃ w1 : World, w1 = wr := ⟨_, rfl⟩
      subst hw1
      have hL1 := hlp
      have hfx := (let ⟨_, _, _, _, _, h⟩ := hlp; h : Fr (fun x => ¬ S x) W w1)
      have y2 : w1.cell? ⟨B, 2, none⟩ = some (.slice a2 A.length k2) := hfx.cellSome hB.out.2.1 hB.out.1
      clear hfx hlp
      go_wp2
      go_loopw [39] (fun i wr => ∃ k : Nat, k ≤ A.length ∧ i = .int .i64 k ∧ Loop W S L (((A.take k).map (Kd.a, ·)).foldl step ((H.map (Kd.h, ·)).foldl step ss)) srt t3 t4 wr) (fun i _ => A.length - (intOf i).toNat)
      case atStart => exact ⟨0, by omega, rfl, by simpa using hL1⟩
      case round =>
        obtain ⟨k, hk, rfl, hlp⟩ := hrel
        by_cases hlt : k < A.length
        · obtain ⟨b, o, rfl, hTb, hcell⟩ := hp2.out (by omega)
          obtain ⟨nm, hnm⟩ : ∃ nm, A[k]? = some nm := ⟨A[k], by simp [hlt]⟩
          obtain ⟨qs, lv, hled, hqs, hnd, hfr⟩ := hlp
          have q0 : wr.cell? ⟨b, o + k, none⟩ = some (.string nm) := hfr.cellSome (hA.out.1.cellSome (cell_at hcell hnm) trivial) (hA.out.2.1 b hTb)
          have hlen : qs.length ≤ 1099511627776 := by
            have e1 : qs.length = (qs.map Prod.snd).length := by simp
            rw [e1, hqs]
            have e2 := length_fold ((A.take k).map (Kd.a, ·)) (((H.map (Kd.h, ·)).foldl step ss))
            have e3 := hA.out.2.2.2.2.1
            simp only [List.length_map, List.length_take] at e2; omega
          have hc := c55 wr _ L qs srt lv t3 t4 nm hled (by rw [hqs]; exact hnd) (hA.out.2.2.1 nm (by simp [List.mem_of_getElem? hnm])) hlen
          have hKH := hid (And.intro hqs (And.intro hnd (And.intro hfr hnm)))
          clear hcell hnm hqs hnd hfr hled
          go_wp2_with (go_at_call 55; refine hc.mono ?_; rintro e w' ⟨bb, qs', lv', rfl, hled', hqs', ⟨s, hbs, hsn⟩, hfr'⟩; have hb0 : w'.heap[bb]? = some (.cells s.cells 48 (0, 0)) := (hled'.st _ hbs).2.1; have x1 : w'.cell? ⟨bb, 1, none⟩ = some (.int .i64 s.cr) := (by rw [cell_of_row w' bb _ _ _ _ hb0]; rfl); have x2 : w'.cell? ⟨bb, 2, none⟩ = some (.int .i64 s.acts) := (by rw [cell_of_row w' bb _ _ _ _ hb0]; rfl); have x3 : w'.cell? ⟨bb, 3, none⟩ = some (.bool s.ex) := (by rw [cell_of_row w' bb _ _ _ _ hb0]; rfl); have x4 : w'.cell? ⟨bb, 4, none⟩ = some (.bool s.bn) := (by rw [cell_of_row w' bb _ _ _ _ hb0]; rfl); have z0 : ∀ j, w'.frozen? ⟨bb, j, none⟩ = false := (fun j => frozen_of_row w' bb _ _ _ hb0); have hNH := hid (And.intro hled' (And.intro hqs' (And.intro hbs (And.intro hsn (And.intro hfr' hb0))))); clear hled' hqs' hbs hsn hfr' hb0 hc; obtain ⟨sn, scr, sac, sex, sbn⟩ := s; cases sex)
          · go_roundw
            case rel =>
              obtain ⟨hqs, hnd, hfr, hnm⟩ := hKH.out
              obtain ⟨hled', hqs', hbs, hsn, hfr', hb0⟩ := hNH.out
              rw [hqs] at hqs'
              refine ⟨k + 1, by omega, by go_num, ?_⟩
              rw [foldk hnm]
              exact Loop.next .a hnd hfr.size hfr hled' hqs' hbs hsn hfr' (upd_a hb0) (fr_a _ _)
            case measure => simp [intOf]; omega
          · go_roundw
            case rel =>
              obtain ⟨hqs, hnd, hfr, hnm⟩ := hKH.out
              obtain ⟨hled', hqs', hbs, hsn, hfr', hb0⟩ := hNH.out
              rw [hqs] at hqs'
              refine ⟨k + 1, by omega, by go_num, ?_⟩
              rw [foldk hnm]
              exact Loop.next .a hnd hfr.size hfr hled' hqs' hbs hsn hfr' hb0 (Fr.refl _ _)
            case measure => simp [intOf]; omega
        · obtain rfl : k = A.length := by omega
          rw [List.take_length] at hlp
          obtain ⟨w2, hw2⟩ : ∃ w2 : World, w2 = wr := ⟨_, rfl⟩
          subst hw2
          have hL2 := hlp
          have hfx := (let ⟨_, _, _, _, _, h⟩ := hlp; h : Fr (fun x => ¬ S x) W w2)
          have y3 : w2.cell? ⟨B, 3, none⟩ = some (.slice a3 M.length k3) := hfx.cellSome hB.out.2.2 hB.out.1
          clear hfx hlp
          go_wp2
          go_loopw [62] (fun i wr => ∃ k : Nat, k ≤ M.length ∧ i = .int .i64 k ∧ Loop W S L (((M.take k).map (Kd.m, ·)).foldl step ((A.map (Kd.a, ·)).foldl step ((H.map (Kd.h, ·)).foldl step ss))) srt t3 t4 wr) (fun i _ => M.length - (intOf i).toNat)
          case atStart => exact ⟨0, by omega, rfl, by simpa using hL2⟩
          case round =>
            obtain ⟨k, hk, rfl, hlp⟩ := hrel
            by_cases hlt : k < M.length
            · obtain ⟨b, o, rfl, hTb, hcell⟩ := hp3.out (by omega)
              obtain ⟨nm, hnm⟩ : ∃ nm, M[k]? = some nm := ⟨M[k], by simp [hlt]⟩
              obtain ⟨qs, lv, hled, hqs, hnd, hfr⟩ := hlp
              have q0 : wr.cell? ⟨b, o + k, none⟩ = some (.string nm) := hfr.cellSome (hA.out.1.cellSome (cell_at hcell hnm) trivial) (hA.out.2.1 b hTb)
              have hlen : qs.length ≤ 1099511627776 := by
                have e1 : qs.length = (qs.map Prod.snd).length := by simp
                rw [e1, hqs]
                have e2 := length_fold ((M.take k).map (Kd.m, ·)) (((A.map (Kd.a, ·)).foldl step ((H.map (Kd.h, ·)).foldl step ss)))
                have e3 := hA.out.2.2.2.2.2
                simp only [List.length_map, List.length_take] at e2; omega
              have hc := c55 wr _ L qs srt lv t3 t4 nm hled (by rw [hqs]; exact hnd) (hA.out.2.2.1 nm (by simp [List.mem_of_getElem? hnm])) hlen
              have hKH := hid (And.intro hqs (And.intro hnd (And.intro hfr hnm)))
              clear hcell hnm hqs hnd hfr hled
              go_wp2_with (go_at_call 55; refine hc.mono ?_; rintro e w' ⟨bb, qs', lv', rfl, hled', hqs', ⟨s, hbs, hsn⟩, hfr'⟩; have hb0 : w'.heap[bb]? = some (.cells s.cells 48 (0, 0)) := (hled'.st _ hbs).2.1; have x1 : w'.cell? ⟨bb, 1, none⟩ = some (.int .i64 s.cr) := (by rw [cell_of_row w' bb _ _ _ _ hb0]; rfl); have x2 : w'.cell? ⟨bb, 2, none⟩ = some (.int .i64 s.acts) := (by rw [cell_of_row w' bb _ _ _ _ hb0]; rfl); have x3 : w'.cell? ⟨bb, 3, none⟩ = some (.bool s.ex) := (by rw [cell_of_row w' bb _ _ _ _ hb0]; rfl); have x4 : w'.cell? ⟨bb, 4, none⟩ = some (.bool s.bn) := (by rw [cell_of_row w' bb _ _ _ _ hb0]; rfl); have z0 : ∀ j, w'.frozen? ⟨bb, j, none⟩ = false := (fun j => frozen_of_row w' bb _ _ _ hb0); have hNH := hid (And.intro hled' (And.intro hqs' (And.intro hbs (And.intro hsn (And.intro hfr' hb0))))); clear hled' hqs' hbs hsn hfr' hb0 hc; obtain ⟨sn, scr, sac, sex, sbn⟩ := s; cases sex)
              · go_roundw
                case rel =>
                  obtain ⟨hqs, hnd, hfr, hnm⟩ := hKH.out
                  obtain ⟨hled', hqs', hbs, hsn, hfr', hb0⟩ := hNH.out
                  rw [hqs] at hqs'
                  refine ⟨k + 1, by omega, by go_num, ?_⟩
                  rw [foldk hnm]
                  exact Loop.next .m hnd hfr.size hfr hled' hqs' hbs hsn hfr' (upd_m hb0) (fr_m _ _)
                case measure => simp [intOf]; omega
              · go_roundw
                case rel =>
                  obtain ⟨hqs, hnd, hfr, hnm⟩ := hKH.out
                  obtain ⟨hled', hqs', hbs, hsn, hfr', hb0⟩ := hNH.out
                  rw [hqs] at hqs'
                  refine ⟨k + 1, by omega, by go_num, ?_⟩
                  rw [foldk hnm]
                  exact Loop.next .m hnd hfr.size hfr hled' hqs' hbs hsn hfr' hb0 (Fr.refl _ _)
                case measure => simp [intOf]; omega
            · obtain rfl : k = M.length := by omega
              rw [List.take_length] at hlp
              obtain ⟨w3, hw3⟩ : ∃ w3 : World, w3 = wr := ⟨_, rfl⟩
              subst hw3
              have hL3 := hlp
              have hfx := (let ⟨_, _, _, _, _, h⟩ := hlp; h : Fr (fun x => ¬ S x) W w3)
              go_wp2
              go_end0
              obtain ⟨qs, lv, hled, hqs, hnd, hfr⟩ := hL3
              have hWw := hWH.out
              rw [hWw] at hled hfr
              exact ⟨rfl, qs, lv, hled, by rw [hqs]; simp [part, opsOf, List.foldl_append], hfr⟩

set_option maxRecDepth 100000 in
set_option maxHeartbeats 1000000 in
/-- ZZTakePart. -/
theorem c32 {T : Nat → Prop} (w : World) (S : Nat → Prop) (L : Nat) (qs : List (Nat × St)) (ss : List St) (srt num : Int) (lv t3 t4 hv av mv : Value) (H A M : List ByteArray) (h : LedV w S L qs srt lv t3 t4) (hqs : qs.map Prod.snd = ss) (hn : (names ss).Nodup) (hS : ∀ b, S b → b < w.heap.size)
    (hT : ∀ b, T b → ¬ S b) (h1 : Strs T w hv H) (h2 : Strs T w av A) (h3 : Strs T w mv M) (hsz : ∀ n ∈ H ++ A ++ M, n.size ≤ maxLen) (hlen : ss.length + H.length + A.length + M.length ≤ 1099511627776) :
    Calls Try.prog 32 #[.pointer (some ⟨L, 0, none⟩), .agg #[.int .u64 num, hv, av, mv]] w (Parted w S L ss srt t3 t4 H A M) := by
  have hc := c49 (T := T) (w.alloc (.cells #[.int .u64 num, hv, av, mv] 58)) S L qs ss srt num lv t3 t4 hv av mv H A M (h.fr (Fr.alloc All _ _) (fun _ _ => trivial)) hqs hn (fun b hb => by have := hS b hb; simp; omega) hT (Rd.fr h1 (Fr.alloc _ _ _)) (Rd.fr h2 (Fr.alloc _ _ _)) (Rd.fr h3 (Fr.alloc _ _ _)) hsz hlen
  obtain ⟨a1, k1, rfl, _, _, _, _⟩ := h1
  obtain ⟨a2, k2, rfl, _, _, _, _⟩ := h2
  obtain ⟨a3, k3, rfl, _, _, _, _⟩ := h3
  clear h hqs hn hS hT hsz
  go_enter Try.func32, Try.ntmps32
  go_wp2_with (go_at_call 49; refine hc.mono ?_; rintro e w' ⟨rfl, hpp⟩)
  go_end0
  obtain ⟨qs', lv', r1, r2, r3⟩ := hpp
  exact ⟨rfl, qs', lv', r1.mono (fun x hx => hx.imp id fun h => by simp at h; omega), r2, (Fr.alloc _ _ _).tr r3⟩

end Go.Proofs.Qxb6601232a
