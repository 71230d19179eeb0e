/-
  SEAT b6601265a. THE WALKS OF down, ZZQueueDown. By an AI agent.
-/
import Derived.Test.Qxb6601265aBef
import Derived.Deep.DeepCutAuto
namespace Go.Proofs.Qxb6601265a
open Go.RowKit
set_option linter.unusedVariables false
set_option linter.unusedSimpArgs false

theorem run_idx0 (w : World) (a b : Int) : (Instr.index 40 (.agg #[.int .i64 a, .int .i64 b]) (.int .i64 0)).run Try.prog w = .ok (.int .i64 a) w := by
  have h1 : ∀ w, (sizeOf 3).run Try.prog w = .ok 1 w := fun w => by kernel_rfl
  have h2 : ∀ w, (isAgg 3).run Try.prog w = .ok false w := fun w => by kernel_rfl
  simp [Instr.index, run_underlying Try.underlying40, asIntOf, h1, part, h2]
theorem run_idx1 (w : World) (a b : Int) : (Instr.index 40 (.agg #[.int .i64 a, .int .i64 b]) (.int .i64 1)).run Try.prog w = .ok (.int .i64 b) w := by
  have h1 : ∀ w, (sizeOf 3).run Try.prog w = .ok 1 w := fun w => by kernel_rfl
  have h2 : ∀ w, (isAgg 3).run Try.prog w = .ok false w := fun w => by kernel_rfl
  simp [Instr.index, run_underlying Try.underlying40, asIntOf, h1, part, h2]
theorem quiet_of_qt {P : Program} {f : FuncId} {args : Array Value} {w : World} {n : Nat} {v : Value}
    (h : Calls P f args (w.drewN n) fun e w' => e = .returned v ∧ Qt (w.drewN n) w') : Calls P f args (w.drewN n) fun e w'' => e = .returned v ∧ ∃ m, w'' = w.drewN m :=
  h.mono fun _ _ ⟨he, m, hm⟩ => ⟨he, n + m, by rw [hm, drewN_drewN]⟩

/-- The queue's order over the activities. -/
def bfA (A : List Nat) (a b : Int) : Bool := bfB (A.getD a.toNat 0) (A.getD b.toNat 0) a b
theorem bfA_asymm {A : List Nat} {a b : Int} (h : bfA A a b = true) : bfA A b a = false := bfB_asymm h
theorem bfA_trans {A : List Nat} {a b c : Int} (h : bfA A a b = true) (k : bfA A b c = true) : bfA A a c = true := bfB_trans h k
section
variable {A : List Nat}
theorem asyA {a b : Int} (h : bfA A a b = true) : bfA A b a = false := bfA_asymm h
theorem trsA {a b c : Int} (h : bfA A a b = true) (k : bfA A b c = true) : bfA A a c = true := bfA_trans h k
theorem sStart {H : List Int} {i : Nat} (hi : i < H.length) : Sel (bfA A) H i i 0 := ⟨hi, Or.inl rfl, fun h => absurd rfl h, fun c x y h => by omega⟩
theorem sTake {H : List Int} {i f j : Nat} (h : Sel (bfA A) H i f j) (hj : j < 2) {x y : Int} (hx : H[2 * i + 1 + j]? = some x) (hy : H[f]? = some y) (hb : bfA A x y = true) : Sel (bfA A) H i (2 * i + 1 + j) (j + 1) :=
  Sel.take (bf := bfA A) (@asyA A) (@trsA A) h hj hx hy hb
theorem sLeave {H : List Int} {i f j : Nat} (h : Sel (bfA A) H i f j) (hj : j < 2) (hno : ∀ x y, H[2 * i + 1 + j]? = some x → H[f]? = some y → bfA A x y = false) : Sel (bfA A) H i f (j + 1) :=
  Sel.leave (bf := bfA A) (@asyA A) (@trsA A) h hj hno
theorem sStop {H : List Int} {i : Nat} (hp : Pairs (bfA A) H i) (h : Sel (bfA A) H i i 2) : Whole (bfA A) H := stop (bf := bfA A) (@asyA A) (@trsA A) hp h
theorem sStep {H : List Int} {i f : Nat} {x y : Int} (hp : Pairs (bfA A) H i) (hu : Upp (bfA A) H i) (h : Sel (bfA A) H i f 2) (hfi : f ≠ i) (hx : H[i]? = some x) (hy : H[f]? = some y) : Pairs (bfA A) (swp H i f x y) f ∧ Upp (bfA A) (swp H i f x y) f :=
  step (bf := bfA A) (@asyA A) (@trsA A) hp hu h hfi hx hy
end
/-- Every variable of the heap has an activity and a place. -/
def Dom (H : List Int) (m pn : Nat) : Prop := ∀ x ∈ H, ∃ v : Nat, x = v ∧ v < m ∧ v < pn
theorem dom_swp {H : List Int} {m pn i f : Nat} {x y : Int} (h : Dom H m pn) (hx : x ∈ H) (hy : y ∈ H) : Dom (swp H i f x y) m pn := by
  intro u hu
  unfold swp at hu
  rcases List.mem_or_eq_of_mem_set hu with hu | rfl
  · rcases List.mem_or_eq_of_mem_set hu with hu | rfl
    · exact h u hu
    · exact h _ hy
  · exact h _ hx

/-- The activities: they lie in a block that down does not write. -/
def Act (w : World) (hb pb ab ao : Nat) (A : List Nat) : Prop := ab ≠ hb ∧ ab ≠ pb ∧ ∀ j x, A[j]? = some x → w.cell? ⟨ab, ao + j, none⟩ = some (.float .f64 x)
theorem Act.fr {w w' : World} {hb pb ab ao : Nat} {A : List Nat} (h : Act w hb pb ab ao A) (f : Fr (fun b => b ≠ hb ∧ b ≠ pb) w w') : Act w' hb pb ab ao A := ⟨h.1, h.2.1, fun j x hj => f.cellSome (h.2.2 j x hj) ⟨h.1, h.2.1⟩⟩

/-- down's state. -/
def Dn (w : World) (Q hb n hc pb pn pc ab ao ac : Nat) (A : List Nat) (i : Nat) (H : List Int) (wr : World) : Prop :=
  Qu wr Q hb n hc pb pn pc (.slice (some ⟨ab, ao, none⟩) A.length ac) H ∧ Act wr hb pb ab ao A ∧ Dom H A.length pn ∧ Pairs (bfA A) H i ∧ Upp (bfA A) H i ∧ Fr (fun b => b ≠ hb ∧ b ≠ pb) w wr

def Downed (w : World) (Q hb n hc pb pn pc ab ao ac : Nat) (A : List Nat) (e : Ending) (w' : World) : Prop :=
  e = .returned (.tuple #[]) ∧ ∃ H, Qu w' Q hb n hc pb pn pc (.slice (some ⟨ab, ao, none⟩) A.length ac) H ∧ Dom H A.length pn ∧ Whole (bfA A) H ∧ Fr (fun b => b ≠ hb ∧ b ≠ pb) w w'

theorem cell_act {w : World} {hb pb ab ao : Nat} {A : List Nat} (h : Act w hb pb ab ao A) {v : Nat} (hv : v < A.length) : w.cell? ⟨ab, ao + v, none⟩ = some (.float .f64 (A.getD (v : Int).toNat 0)) := by
  refine h.2.2 v _ ?_
  simp [List.getD, hv]

set_option maxRecDepth 100000 in
set_option maxHeartbeats 4000000 in
/-- down. -/
theorem c14 (w : World) (Q hb n hc pb pn pc ab ao ac i : Nat) (A : List Nat) (H : List Int) (hi : i < n) (hn : n ≤ 65536) (hA : A.length ≤ 65536) (hpn : pn ≤ 65536) (h : Dn w Q hb n hc pb pn pc ab ao ac A i H w) :
    Calls Try.prog 14 #[.pointer (some ⟨Q, 0, none⟩), .int .i64 i] w (Downed w Q hb n hc pb pn pc ab ao ac A) := by
  have hDH := hid h
  clear h
  go_enter Try.func14, Try.ntmps14
  go_wp2
  go_loopw [1] (fun iv wr => ∃ (i : Nat) (H : List Int), i < n ∧ iv = .int .i64 i ∧ Dn w Q hb n hc pb pn pc ab ao ac A i H wr) (fun iv _ => n - (intOf iv).toNat)
  case atStart => exact ⟨i, H, hi, rfl, hDH.out⟩
  case round =>
    obtain ⟨i, H, hi, rfl, hD⟩ := hrel
    have hDH := hid hD
    clear hD
    obtain ⟨wo, hwo⟩ : ∃ wo : World, wo = wr := ⟨_, rfl⟩
    subst hwo
    obtain ⟨c1, hc1⟩ : ∃ c : Nat, c = 2 * i + 1 := ⟨_, rfl⟩
    obtain ⟨c2, hc2⟩ : ∃ c : Nat, c = 2 * i + 2 := ⟨_, rfl⟩
    have ec1H := hid hc1
    have ec2H := hid hc2
    have ec1 : 2 * (i : Int) + 1 = (c1 : Int) := by omega
    have ec2 : 2 * (i : Int) + 2 = (c2 : Int) := by omega
    have bc1 : c1 ≤ 200000 := by omega
    have bc2 : c2 ≤ 200000 := by omega
    clear hc1 hc2
    go_wp2
    go_loopw [4, 15] (fun fv jv wr => ∃ (f j : Nat), ((j = 0 ∧ jv = .int .i64 0) ∨ (j = 1 ∧ jv = .int .i64 1) ∨ (j = 2 ∧ jv = .int .i64 2)) ∧ fv = .int .i64 f ∧ Sel (bfA A) H i f j ∧ Qt wo wr) (fun _ jv _ => 2 - (intOf jv).toNat)
    case atStart => exact ⟨i, 0, Or.inl ⟨rfl, rfl⟩, rfl, sStart (by rw [hDH.out.1.len]; exact hi), Qt.refl _⟩
    case round =>
      obtain ⟨f, j, hjv, rfl, hsel, hq⟩ := hrel
      clear ec1 ec2
      by_cases hj2 : j < 2
      · rcases hjv with ⟨rfl, rfl⟩ | ⟨rfl, rfl⟩ | ⟨rfl, rfl⟩
        · have hix := run_idx0 wr c1 c2
          by_cases hcn : c1 < n
          · obtain ⟨hQ, hAc, hDom, hPa, hUp, hFr⟩ := hDH.out
            obtain ⟨cur, hg, hcs, hcur⟩ := hQ.heap
            obtain ⟨xc, hxc⟩ : ∃ x, H[c1]? = some x := ⟨_, List.getElem?_eq_getElem (by rw [hQ.len]; exact hcn)⟩
            obtain ⟨xf, hxf⟩ : ∃ x, H[f]? = some x := ⟨_, List.getElem?_eq_getElem hsel.lt⟩
            have hfn : f < n := by have := hsel.lt; rw [hQ.len] at this; exact this
            obtain ⟨vc, rfl, hvc, _⟩ := hDom xc (List.mem_of_getElem? hxc)
            obtain ⟨vf, rfl, hvf, _⟩ := hDom xf (List.mem_of_getElem? hxf)
            have d1 : wr.cell? ⟨hb, c1, none⟩ = some (.int .i32 vc) := (hq.cell _).trans (by rw [cell_of_row wo hb _ _ _ _ hg]; exact hcur _ _ hxc)
            have d2 : wr.cell? ⟨hb, f, none⟩ = some (.int .i32 vf) := (hq.cell _).trans (by rw [cell_of_row wo hb _ _ _ _ hg]; exact hcur _ _ hxf)
            have q0 : wr.cell? ⟨Q, 0, none⟩ = some (.slice (some ⟨hb, 0, none⟩) n hc) := (hq.cell _).trans (by rw [cell_of_row wo Q _ _ _ _ hQ.row]; rfl)
            have q2 : wr.cell? ⟨Q, 2, none⟩ = some (.slice (some ⟨ab, ao, none⟩) A.length ac) := (hq.cell _).trans (by rw [cell_of_row wo Q _ _ _ _ hQ.row]; rfl)
            have a1 := (hq.cell _).trans (cell_act hAc hvc)
            have a2 := (hq.cell _).trans (cell_act hAc hvf)
            have hc15 := fun k => c15 (wr.drewN k) Q ab ao A.length ac vc vf _ _ q2 hvc hvf (by omega) a1 a2
            have hbe : bfB (A.getD (vc : Int).toNat 0) (A.getD (vf : Int).toNat 0) vc vf = bfA A vc vf := rfl
            rw [hbe] at hc15
            have hSH := hid (And.intro hsel (And.intro hq (And.intro hxc hxf)))
            clear hsel hq hxc hxf hg hcs hcur hQ hAc hDom hPa hUp hFr a1 a2 hbe
            cases hb' : bfA A vc vf
            · rw [hb'] at hc15
              have hbH := hid hb'
              clear hb'
              go_wp2
              go_quiet ((go_at_call 15; exact quiet_of_qt (hc15 _)))
              go_wp2
              go_roundw
              case rel =>
                obtain ⟨hsel, hq, hxc, hxf⟩ := hSH.out
                refine ⟨f, 1, Or.inr (Or.inl ⟨rfl, by go_num⟩), rfl, sLeave hsel (by omega) (fun x y hx hy => ?_), hq.trans (Qt.drewN _ _)⟩
                rw [show 2 * i + 1 + 0 = c1 from (by have : c1 = 2 * i + 1 := ec1H.out; omega), hxc] at hx
                rw [hxf] at hy
                cases hx; cases hy; exact hbH.out
              case measure => simp [intOf]
            · rw [hb'] at hc15
              have hbH := hid hb'
              clear hb'
              go_wp2
              go_quiet ((go_at_call 15; exact quiet_of_qt (hc15 _)))
              go_wp2
              go_roundw
              case rel =>
                obtain ⟨hsel, hq, hxc, hxf⟩ := hSH.out
                have he : c1 = 2 * i + 1 + 0 := by have : c1 = 2 * i + 1 := ec1H.out; omega
                refine ⟨c1, 1, Or.inr (Or.inl ⟨rfl, by go_num⟩), rfl, ?_, hq.trans (Qt.drewN _ _)⟩
                rw [he]
                rw [he] at hxc
                exact sTake hsel (by omega) hxc hxf hbH.out
              case measure => simp [intOf]
          · obtain ⟨hQ, hAc, hDom, hPa, hUp, hFr⟩ := hDH.out
            have q0 : wr.cell? ⟨Q, 0, none⟩ = some (.slice (some ⟨hb, 0, none⟩) n hc) := (hq.cell _).trans (by rw [cell_of_row wo Q _ _ _ _ hQ.row]; rfl)
            have hd : decide ((c1 : Int) < (n : Int)) = false := by simp; omega
            have hlen := hid hQ.len
            have hSH := hid (And.intro hsel hq)
            clear hsel hq hQ hAc hDom hPa hUp hFr
            go_wp2
            go_quiet (fail)
            go_wp2
            go_roundw
            case rel =>
              obtain ⟨hsel, hq⟩ := hSH.out
              refine ⟨f, 1, Or.inr (Or.inl ⟨rfl, by go_num⟩), rfl, sLeave hsel (by omega) (fun x y hx hy => ?_), hq.trans (Qt.drewN _ _)⟩
              have h1 := (List.getElem?_eq_some_iff.1 hx).1
              have h2 : c1 = 2 * i + 1 := ec1H.out
              have h3 := hlen.out
              omega
            case measure => simp [intOf]
        · have hix := run_idx1 wr c1 c2
          by_cases hcn : c2 < n
          · obtain ⟨hQ, hAc, hDom, hPa, hUp, hFr⟩ := hDH.out
            obtain ⟨cur, hg, hcs, hcur⟩ := hQ.heap
            obtain ⟨xc, hxc⟩ : ∃ x, H[c2]? = some x := ⟨_, List.getElem?_eq_getElem (by rw [hQ.len]; exact hcn)⟩
            obtain ⟨xf, hxf⟩ : ∃ x, H[f]? = some x := ⟨_, List.getElem?_eq_getElem hsel.lt⟩
            have hfn : f < n := by have := hsel.lt; rw [hQ.len] at this; exact this
            obtain ⟨vc, rfl, hvc, _⟩ := hDom xc (List.mem_of_getElem? hxc)
            obtain ⟨vf, rfl, hvf, _⟩ := hDom xf (List.mem_of_getElem? hxf)
            have d1 : wr.cell? ⟨hb, c2, none⟩ = some (.int .i32 vc) := (hq.cell _).trans (by rw [cell_of_row wo hb _ _ _ _ hg]; exact hcur _ _ hxc)
            have d2 : wr.cell? ⟨hb, f, none⟩ = some (.int .i32 vf) := (hq.cell _).trans (by rw [cell_of_row wo hb _ _ _ _ hg]; exact hcur _ _ hxf)
            have q0 : wr.cell? ⟨Q, 0, none⟩ = some (.slice (some ⟨hb, 0, none⟩) n hc) := (hq.cell _).trans (by rw [cell_of_row wo Q _ _ _ _ hQ.row]; rfl)
            have q2 : wr.cell? ⟨Q, 2, none⟩ = some (.slice (some ⟨ab, ao, none⟩) A.length ac) := (hq.cell _).trans (by rw [cell_of_row wo Q _ _ _ _ hQ.row]; rfl)
            have a1 := (hq.cell _).trans (cell_act hAc hvc)
            have a2 := (hq.cell _).trans (cell_act hAc hvf)
            have hc15 := fun k => c15 (wr.drewN k) Q ab ao A.length ac vc vf _ _ q2 hvc hvf (by omega) a1 a2
            have hbe : bfB (A.getD (vc : Int).toNat 0) (A.getD (vf : Int).toNat 0) vc vf = bfA A vc vf := rfl
            rw [hbe] at hc15
            have hSH := hid (And.intro hsel (And.intro hq (And.intro hxc hxf)))
            clear hsel hq hxc hxf hg hcs hcur hQ hAc hDom hPa hUp hFr a1 a2 hbe
            cases hb' : bfA A vc vf
            · rw [hb'] at hc15
              have hbH := hid hb'
              clear hb'
              go_wp2
              go_quiet ((go_at_call 15; exact quiet_of_qt (hc15 _)))
              go_wp2
              go_roundw
              case rel =>
                obtain ⟨hsel, hq, hxc, hxf⟩ := hSH.out
                refine ⟨f, 2, Or.inr (Or.inr ⟨rfl, by go_num⟩), rfl, sLeave hsel (by omega) (fun x y hx hy => ?_), hq.trans (Qt.drewN _ _)⟩
                rw [show 2 * i + 1 + 1 = c2 from (by have : c2 = 2 * i + 2 := ec2H.out; omega), hxc] at hx
                rw [hxf] at hy
                cases hx; cases hy; exact hbH.out
              case measure => simp [intOf]
            · rw [hb'] at hc15
              have hbH := hid hb'
              clear hb'
              go_wp2
              go_quiet ((go_at_call 15; exact quiet_of_qt (hc15 _)))
              go_wp2
              go_roundw
              case rel =>
                obtain ⟨hsel, hq, hxc, hxf⟩ := hSH.out
                have he : c2 = 2 * i + 1 + 1 := by have : c2 = 2 * i + 2 := ec2H.out; omega
                refine ⟨c2, 2, Or.inr (Or.inr ⟨rfl, by go_num⟩), rfl, ?_, hq.trans (Qt.drewN _ _)⟩
                rw [he]
                rw [he] at hxc
                exact sTake hsel (by omega) hxc hxf hbH.out
              case measure => simp [intOf]
          · obtain ⟨hQ, hAc, hDom, hPa, hUp, hFr⟩ := hDH.out
            have q0 : wr.cell? ⟨Q, 0, none⟩ = some (.slice (some ⟨hb, 0, none⟩) n hc) := (hq.cell _).trans (by rw [cell_of_row wo Q _ _ _ _ hQ.row]; rfl)
            have hd : decide ((c2 : Int) < (n : Int)) = false := by simp; omega
            have hlen := hid hQ.len
            have hSH := hid (And.intro hsel hq)
            clear hsel hq hQ hAc hDom hPa hUp hFr
            go_wp2
            go_quiet (fail)
            go_wp2
            go_roundw
            case rel =>
              obtain ⟨hsel, hq⟩ := hSH.out
              refine ⟨f, 2, Or.inr (Or.inr ⟨rfl, by go_num⟩), rfl, sLeave hsel (by omega) (fun x y hx hy => ?_), hq.trans (Qt.drewN _ _)⟩
              have h1 := (List.getElem?_eq_some_iff.1 hx).1
              have h2 : c2 = 2 * i + 2 := ec2H.out
              have h3 := hlen.out
              omega
            case measure => simp [intOf]
        · omega
      · obtain ⟨rfl, rfl⟩ := (hjv.resolve_left (fun h => hj2 (by rw [h.1]; omega))).resolve_left (fun h => hj2 (by rw [h.1]; omega))
        have hfn : f < n := by have := hsel.lt; rw [hDH.out.1.len] at this; exact this
        by_cases hfi : f = i
        · subst hfi
          have hSH := hid (And.intro hsel hq)
          clear hsel hq
          go_wp2
          go_end0
          obtain ⟨hsel, hq⟩ := hSH.out
          obtain ⟨hQ, hAc, hDom, hPa, hUp, hFr⟩ := hDH.out
          exact ⟨rfl, H, hQ.fr (T := All) hq.fr trivial trivial trivial, hDom, sStop hPa hsel, hFr.tr hq.fr⟩
        · have hd : ((f : Int) == (i : Int)) = false := by simp; omega
          obtain ⟨hQ, hAc, hDom, hPa, hUp, hFr⟩ := hDH.out
          obtain ⟨xi, hxi⟩ : ∃ x, H[i]? = some x := ⟨_, List.getElem?_eq_getElem (by rw [hQ.len]; exact hi)⟩
          obtain ⟨xf, hxf⟩ : ∃ x, H[f]? = some x := ⟨_, List.getElem?_eq_getElem hsel.lt⟩
          obtain ⟨vi, rfl, hvi, hvi'⟩ := hDom xi (List.mem_of_getElem? hxi)
          obtain ⟨vf, rfl, hvf, hvf'⟩ := hDom xf (List.mem_of_getElem? hxf)
          have hc := c16 wr Q hb n hc pb pn pc i f vi vf _ H (hQ.fr (T := All) hq.fr trivial trivial trivial) hi hfn (Ne.symm hfi) hxi hxf hvi' hvf' (by omega) (by omega)
          have hSH := hid (And.intro hsel (And.intro hq (And.intro hxi hxf)))
          have hif : i < f := by have := hsel.is; omega
          clear hsel hq hxi hxf hQ hAc hDom hPa hUp hFr
          go_wp2_with (go_at_call 16; refine hc.mono ?_; rintro e w' ⟨rfl, hQ', hF'⟩; have hNH := hid (And.intro hQ' hF'); clear hQ' hF' hc)
          go_roundw
          case rel =>
            obtain ⟨hsel, hq, hxi, hxf⟩ := hSH.out
            obtain ⟨hQ', hF'⟩ := hNH.out
            obtain ⟨hQ, hAc, hDom, hPa, hUp, hFr⟩ := hDH.out
            obtain ⟨s1, s2⟩ := sStep hPa hUp hsel hfi hxi hxf
            exact ⟨f, swp H i f vi vf, hfn, rfl, hQ', hAc.fr (hq.fr.tr hF'), dom_swp hDom (List.mem_of_getElem? hxi) (List.mem_of_getElem? hxf), s1, s2, hFr.tr (hq.fr.tr hF')⟩
          case measure => simp [intOf]; omega

set_option maxRecDepth 100000 in
/-- ZZQueueDown. -/
theorem c12 (w : World) (hb n hc pb pn pc ab ao ac i : Nat) (A : List Nat) (H : List Int) (hi : i < n) (hn : n ≤ 65536) (hA : A.length ≤ 65536) (hpn : pn ≤ 65536) (hl : H.length = n)
    (h1 : ∃ cur : Array Value, w.heap[hb]? = some (.cells cur 35 (0, 0)) ∧ n ≤ cur.size ∧ ∀ (j : Nat) (x : Int), H[j]? = some x → cur[j]? = some (Value.int .i32 x)) (h2 : ∃ cur : Array Value, w.heap[pb]? = some (.cells cur 3 (0, 0)) ∧ pn ≤ cur.size) (h3 : Act w hb pb ab ao A)
    (h4 : Dom H A.length pn) (h5 : Pairs (bfA A) H i) (h6 : Upp (bfA A) H i) :
    Calls Try.prog 12 #[.slice (some ⟨hb, 0, none⟩) n hc, .slice (some ⟨pb, 0, none⟩) pn pc, .slice (some ⟨ab, ao, none⟩) A.length ac, .int .i64 i] w fun e w' => e = .returned (.tuple #[]) ∧ ∃ H', H'.length = n ∧ Whole (bfA A) H' ∧ Dom H' A.length pn ∧
      (∃ cur : Array Value, w'.heap[hb]? = some (.cells cur 35 (0, 0)) ∧ ∀ (j : Nat) (x : Int), H'[j]? = some x → cur[j]? = some (Value.int .i32 x)) ∧ Fr (fun b => b ≠ hb ∧ b ≠ pb) w w' := by
  have hl1 : hb < w.heap.size := by obtain ⟨_, h, _⟩ := h1; exact heap_lt h
  have hl2 : pb < w.heap.size := by obtain ⟨_, h, _⟩ := h2; exact heap_lt h
  have fa := Fr.alloc All w (.cells #[.slice (some ⟨hb, 0, none⟩) n hc, .slice (some ⟨pb, 0, none⟩) pn pc, .slice (some ⟨ab, ao, none⟩) A.length ac] 38)
  have hc := c14 (w.alloc (.cells #[.slice (some ⟨hb, 0, none⟩) n hc, .slice (some ⟨pb, 0, none⟩) pn pc, .slice (some ⟨ab, ao, none⟩) A.length ac] 38)) w.heap.size hb n hc pb pn pc ab ao ac i A H hi hn hA hpn
    ⟨⟨heap_alloc_new _ _, hl, by obtain ⟨c, a, b, d⟩ := h1; exact ⟨c, fa.heap a trivial, b, d⟩, by obtain ⟨c, a, b⟩ := h2; exact ⟨c, fa.heap a trivial, b⟩⟩, h3.fr fa.any, h4, h5, h6, Fr.refl _ _⟩
  clear h1 h2 h3 h4 h5 h6
  go_enter Try.func12, Try.ntmps12
  go_wp2_with (go_at_call 14; refine hc.mono ?_; rintro e w' ⟨rfl, hN⟩; have hNH := hid hN; clear hN)
  go_end0
  obtain ⟨H', hQ, hDom, hW, hF⟩ := hNH.out
  obtain ⟨c, c1, c2, c3⟩ := hQ.heap
  exact ⟨rfl, H', hQ.len, hW, hDom, ⟨c, c1, c3⟩, fa.any.tr hF⟩

end Go.Proofs.Qxb6601265a
