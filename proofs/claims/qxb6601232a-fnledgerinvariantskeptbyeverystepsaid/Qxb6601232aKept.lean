/-
  SEAT b6601232a. THE WALKS OF ZZHasNumber, zzNumbersKept, zzLedgerHolds; what a step keeps. By an AI agent.
-/
import Derived.Test.Qxb6601232aFin5
import Derived.Test.Qxb6601232aHolds
namespace Go.Proofs.Qxb6601232a
open Go.RowKit
set_option linter.unusedVariables false
set_option linter.unusedSimpArgs false

theorem zero83 (w : World) : (zeroValue 83).run Try.prog w = .ok (.agg #[]) w := by kernel_rfl
theorem Try.under80 : Try.prog.underlying 80 = some (.map 53 83) := by kernel_rfl

set_option maxRecDepth 100000 in
/-- ZZHasNumber, at a number that is there. -/
theorem c48 (w : World) (S : Nat → Prop) (L nb m : Nat) (qs : List (Nat × St)) (srt n : Int) (lv t3 : Value) (D : DataW Unit) (h : LedV w S L qs srt lv t3 (.map (some nb))) (hm : w.ownsMap Try.prog 53 (unitElem (H := Unit)) nb m D)
    (hw : (Lit.int .u64 n).wf = true) (hh : Maps.has D (.int .u64 n) = true) :
    Calls Try.prog 48 #[.pointer (some ⟨L, 0, none⟩), .int .u64 n] w fun e w' => e = .returned (.bool true) ∧ Fr All w w' := by
  obtain ⟨mb, D', hr, _⟩ := h.row
  have c0 : w.cell? ⟨L, 4, none⟩ = some (.map (some nb)) := by rw [cell_of_row w L _ _ _ _ hr]; rfl
  have hlk : (Instr.lookup 80 (.map (some nb)) (.int .u64 n) true).run Try.prog w = .ok (.tuple #[.agg #[], .bool true]) w := by
    obtain ⟨v, ps, hr, hv⟩ := hm.look_ok law53 Try.under80 (zero83 w) unitElem_mk (Maps.keyOf_int_mk Try.underlying53 hw)
    obtain ⟨rfl, _⟩ := unitElem_inv hv
    rw [hh] at hr
    exact hr
  clear hm h hr hh hw
  go_enter Try.func48, Try.ntmps48
  go_wp2
  go_ret
  exact ⟨rfl, Fr.alloc _ _ _⟩

/-- The numbers that were put are there. -/
theorem numD_isMap (nus : List Int) : Maps.IsMap (numD nus) := by
  unfold numD
  generalize hD : (DataW.map [] : DataW Unit) = D
  have : Maps.IsMap D := ⟨[], hD.symm⟩
  clear hD
  induction nus generalizing D with
  | nil => exact this
  | cons n ns ih =>
    simp only [List.foldl_cons]
    refine ih _ ?_
    obtain ⟨es, rfl⟩ := this
    exact ⟨_, rfl⟩
theorem numD_has {nus : List Int} {n : Int} (h : n ∈ nus) : Maps.has (numD nus) (.int .u64 n) = true := by
  obtain ⟨l, rfl⟩ : ∃ l : List Int, nus = l.reverse := ⟨nus.reverse, by simp⟩
  induction l with
  | nil => simp at h
  | cons x l ih =>
    rw [List.reverse_cons, numD_snoc]
    by_cases e : x = n
    · subst e; exact Maps.has_put_same (numD_isMap _) (by simp [WideAt.IsKeyLit]) _
    · rw [Maps.has_put_other (by simpa using fun e' => e e'.symm)]
      refine ih ?_
      simp at h ⊢
      rcases h with h | h
      · exact h
      · exact absurd h.symm e

theorem ownsMap_fr {T : Nat → Prop} {w w' : World} {nb m : Nat} {D : DataW Unit} (h : w.ownsMap Try.prog 53 (unitElem (H := Unit)) nb m D) (f : Fr T w w') (hT : T nb) : w'.ownsMap Try.prog 53 (unitElem (H := Unit)) nb m D := by
  obtain ⟨es, clock, hb, r⟩ := h
  exact ⟨es, clock, f.heap hb hT, r⟩

set_option maxRecDepth 100000 in
/-- zzNumbersKept, where they are. -/
theorem c29 {T : Nat → Prop} (w : World) (S : Nat → Prop) (L nb m : Nat) (qs : List (Nat × St)) (srt : Int) (lv t3 v : Value) (nus : List Int) (h : LedV w S L qs srt lv t3 (.map (some nb))) (hm : w.ownsMap Try.prog 53 (unitElem (H := Unit)) nb m (numD nus))
    (hv : U64s T w v nus) (hwf : ∀ n ∈ nus, (Lit.int .u64 n).wf = true) (hl : nus.length ≤ 1099511627776) :
    Calls Try.prog 29 #[.pointer (some ⟨L, 0, none⟩), v, .int .i64 (Maps.size (numD nus))] w fun e w' => e = .returned (.bool true) ∧ Fr All w w' := by
  have hc := hid (c20 w S L nb m qs srt lv t3 _ h hm)
  obtain ⟨ao, c, rfl, _, _, _, hp⟩ := hv
  have hH := hid (And.intro h (And.intro hm (And.intro hp hwf)))
  clear h hm hp hwf
  generalize Maps.size (numD nus) = z at hc ⊢
  have hz : ((z : Int) != (z : Int)) = false := by simp
  go_enter Try.func29, Try.ntmps29
  go_wp2_with fail
  refine hc.out.mono ?_
  rintro e w' ⟨rfl, hw⟩
  obtain rfl : w = w' := hw.symm
  clear hc
  go_wp2
  clear hz
  go_loopw [7] (fun i wr => ∃ k : Nat, k ≤ nus.length ∧ i = .int .i64 k ∧ Fr All w wr) (fun i _ => nus.length - (intOf i).toNat)
  case atStart => exact ⟨0, by omega, rfl, Fr.refl _ _⟩
  case round =>
    obtain ⟨k, hk, rfl, hf⟩ := hrel
    by_cases hlt : k < nus.length
    · obtain ⟨h, hm, hp, hwf⟩ := hH.out
      obtain ⟨b, off, rfl, _, d⟩ := hp (by omega)
      obtain ⟨x, hx⟩ : ∃ x, nus[k]? = some x := ⟨_, List.getElem?_eq_getElem hlt⟩
      have q0 := hf.cellSome (nums_cell d hx) trivial
      have hxm := List.mem_of_getElem? hx
      have hc := hid (c48 wr S L nb m qs srt x lv t3 _ (h.fr hf (fun _ _ => trivial)) (ownsMap_fr hm hf trivial) (hwf x hxm) (numD_has hxm))
      have hfH := hid hf
      clear h hm hp hwf d hx hxm hf
      go_wp2_with fail
      refine hc.out.mono ?_
      rintro e w' ⟨rfl, hf'⟩
      clear hc
      have hf'H := hid (hfH.out.tr hf')
      clear hf'
      go_wp2
      go_roundw
      case rel => exact ⟨k + 1, by omega, by go_num, hf'H.out⟩
      case measure => simp [intOf]; omega
    · go_wp2
      go_ret
      exact ⟨rfl, hf⟩

theorem incq_next {qs : List (Nat × St)} {s k : Nat} (hi : Incq (qs.take s)) {p q : Nat × St} (hp : qs[k]? = some p) (hq : qs[k + 1]? = some q) (hk : k + 1 < s) : Op.bytesLess p.2.name.toList q.2.name.toList = true := by
  have hl := (List.getElem?_eq_some_iff.1 hq).1
  have := (List.pairwise_iff_getElem.1 hi) k (k + 1) (by simp; omega) (by simp; omega) (by omega)
  simp only [List.getElem_take] at this
  rw [(List.getElem?_eq_some_iff.1 hp).2, (List.getElem?_eq_some_iff.1 hq).2] at this
  exact this

set_option maxRecDepth 100000 in
set_option maxHeartbeats 2000000 in
/-- zzLedgerHolds, where it does. -/
theorem c45 (w : World) (S : Nat → Prop) (L s : Nat) (qs : List (Nat × St)) (lv t3 t4 : Value) (h : LedV w S L qs s lv t3 t4) (hn : (names (qs.map Prod.snd)).Nodup) (hs : s ≤ qs.length) (hi : Incq (qs.take s)) (hok : ∀ q ∈ qs, StOk q.2.cr q.2.acts q.2.ex q.2.bn) (hl : qs.length ≤ 1099511627776) :
    Calls Try.prog 45 #[.pointer (some ⟨L, 0, none⟩)] w fun e w' => e = .returned (.bool true) ∧ Qt w w' := by
  have h26 := hid (c26 w S L qs s lv t3 t4 h)
  have h27 := hid (c27 w S L qs s lv t3 t4 h)
  have h19 := hid (c19 w S L qs s lv t3 t4 h)
  obtain ⟨la, ln, lc, rfl⟩ := own_shape h.own
  obtain rfl := own_len h.own
  have ledR : Hid (∀ w' : World, Qt w w' → LedV w' S L qs s (.slice la qs.length lc) t3 t4) := hid (fun w' hq => h.fr (T := All) hq.fr (fun _ _ => trivial))
  have hH := hid (And.intro hn (And.intro hi hok))
  clear h hn hi hok
  go_enter Try.func45, Try.ntmps45
  go_wp2_with fail
  refine h26.out.mono ?_
  rintro e w' ⟨rfl, hw⟩
  obtain rfl : w = w' := hw.symm
  clear h26
  go_wp2_with fail
  refine h27.out.mono ?_
  rintro e w' ⟨rfl, hw⟩
  obtain rfl : w = w' := hw.symm
  clear h27
  have hs0 : decide ((s : Int) < 0) = false := by simp
  have hs1 : decide (qs.length < s) = false := by simp; omega
  go_wp2_with fail
  refine h19.out.mono ?_
  rintro e w' ⟨m, rfl, hw, hm⟩
  obtain rfl : w = w' := hw.symm
  clear h19
  obtain rfl : m = qs.length := hm.2 hH.out.1
  clear hm
  have hd : ((qs.length : Int) != (qs.length : Int)) = false := by simp
  go_wp2
  clear hs0 hs1 hd
  go_loopw [5] (fun i wr => ∃ k : Nat, k ≤ qs.length ∧ i = .int .i64 k ∧ Qt w wr) (fun i _ => qs.length - (intOf i).toNat)
  case atStart => exact ⟨0, by omega, rfl, Qt.refl _⟩
  case round =>
    obtain ⟨k, hk, rfl, hq⟩ := hrel
    by_cases hlt : k < qs.length
    · obtain ⟨q, hq0⟩ : ∃ x, qs[k]? = some x := ⟨_, List.getElem?_eq_getElem hlt⟩
      obtain ⟨bl, ol, rfl, m1, m2, -⟩ := led_cell (ledR.out wr hq) hq0
      have hq0H := hid hq0
      have hqH := hid hq
      clear hq0 hq
      go_upto_region 11 with fail
      go_cut [62] from 28 to 96 (fun b wx => b = .bool false ∧ Qt w wx)
      case first =>
        by_cases hk0 : k = 0
        · subst hk0
          go_quiet (fail)
          go_wp2_with fail
          go_meet
          exact ⟨rfl, hqH.out.trans (Qt.drewN _ _)⟩
        · by_cases hks : k < s
          · obtain ⟨k', rfl⟩ : ∃ k', k = k' + 1 := ⟨k - 1, by omega⟩
            obtain ⟨p, hp0⟩ : ∃ x, qs[k']? = some x := ⟨_, List.getElem?_eq_getElem (by omega)⟩
            obtain ⟨bl', ol', e, n1, n2, -⟩ := led_cell (ledR.out wr hqH.out) hp0
            simp only [Option.some.injEq, Addr.mk.injEq, and_true] at e
            obtain ⟨rfl, rfl⟩ := e
            have hd := incq_next hH.out.2.1 hp0 hq0H.out hks
            have hd1 : decide ((k' : Int) + 1 < (s : Int)) = true := by simp; omega
            clear hp0
            go_quiet (fail)
            go_wp2_with fail
            go_meet
            exact ⟨rfl, hqH.out.trans (Qt.drewN _ _)⟩
          · have hd1 : decide (0 < k) = true := by simp; omega
            have hd2 : decide ((k : Int) < (s : Int)) = false := by simp; omega
            go_quiet (fail)
            go_wp2_with fail
            go_meet
            exact ⟨rfl, hqH.out.trans (Qt.drewN _ _)⟩
      case rest =>
        obtain ⟨rfl, hqc⟩ := hcut
        obtain ⟨bl', ol', e, -, m2, m3, m4, m5, m6⟩ := led_cell (ledR.out wc hqc) hq0H.out
        simp only [Option.some.injEq, Addr.mk.injEq, and_true] at e
        obtain ⟨rfl, rfl⟩ := e
        have hmem := List.mem_of_getElem? hq0H.out
        have h24 := hid (c24 wc S L qs s _ t3 t4 q (ledR.out wc hqc) hH.out.1 hmem)
        have hst := hH.out.2.2 q hmem
        have hc43 : ∀ w' : World, Calls Try.prog 43 #[.int .i64 q.2.cr, .int .i64 q.2.acts, .bool q.2.ex, .bool q.2.bn] w' fun e w'' => e = .returned (.bool true) ∧ Qt w' w'' := fun w' =>
          (c43 w' q.2.cr q.2.acts q.2.ex q.2.bn).mono (by rintro e w'' ⟨b, rfl, rfl, hb⟩; exact ⟨by rw [hb.2 hst], Qt.refl _⟩)
        have hc43 := hid hc43
        have hne := fun (w : World) => neq44 (some ⟨q.1, 0, none⟩) w
        have hqcH := hid hqc
        clear hmem hst hqc
        go_wp2_with fail
        refine h24.out.mono ?_
        rintro e w' ⟨rfl, hw⟩
        obtain rfl : wc = w' := hw.symm
        clear h24
        go_wp2
        go_quiet ((go_at_call 43; exact quiet_of_qt (hc43.out _)))
        go_wp2
        go_roundw
        case rel => exact ⟨k + 1, by omega, by go_num, hqcH.out.trans (Qt.drewN _ _)⟩
        case measure => simp [intOf]; omega
    · go_wp2
      go_ret
      exact ⟨rfl, hq⟩

end Go.Proofs.Qxb6601232a
