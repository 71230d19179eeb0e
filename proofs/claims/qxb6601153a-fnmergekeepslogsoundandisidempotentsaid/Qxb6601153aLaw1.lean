/-
  SEAT b6601153a. THE WALK OF FnMergeReplacesFromFirstConflict. By an AI agent.
-/
import Derived.Test.Qxb6601153aPl
import Derived.Test.Qxb6601153aZZ
import Derived.Test.Qxb6601153aBytes
import Derived.Test.Qxb6601153aAppOK
import Derived.Test.Qxb6601153aLogOK
import Derived.Test.Qxb6601153aLogIs
namespace Go.Proofs.Qxb6601153a
open Go.RowKit
set_option linter.unusedVariables false

theorem cvs_of {T : Nat → Prop} {w : World} {rs : List Raw} (h : ∀ r ∈ rs, U8s T w r.cv r.cmd) : ∀ r ∈ rs, ∃ a n c, r.cv = .slice a n c := fun r hr => by
  obtain ⟨a, c, e, _⟩ := h r hr; exact ⟨_, _, _, e⟩
theorem Ents.any {T : Nat → Prop} {w : World} {v : Value} {rs : List Raw} (h : Ents T w v rs) : Ents All w v rs := h.mono fun _ _ => trivial

theorem Rd.lt {T : Nat → Prop} {w : World} {v : Value} {n : Nat} {xs : List Value} (h : Rd T w v n xs) (hx : 0 < n → xs ≠ []) : Rd (Lt w.heap.size) w v n xs := h.mono' hx (fun i hi _ => hi)
theorem U8s.lt {T : Nat → Prop} {w : World} {v : Value} {ns : List Int} (h : U8s T w v ns) : U8s (Lt w.heap.size) w v ns := Rd.lt h (fun h0 e => by rw [List.map_eq_nil_iff] at e; rw [e] at h0; simp at h0)
theorem U64s.lt {T : Nat → Prop} {w : World} {v : Value} {ns : List Int} (h : U64s T w v ns) : U64s (Lt w.heap.size) w v ns := Rd.lt h (fun h0 e => by rw [List.map_eq_nil_iff] at e; rw [e] at h0; simp at h0)
theorem Ents.lt {T : Nat → Prop} {w : World} {v : Value} {rs : List Raw} (h : Ents T w v rs) : Ents (Lt w.heap.size) w v rs :=
  ⟨Rd.lt h.1 (fun h0 e => by have := congrArg List.length e; rw [length_flat] at this; simp at this; omega), fun r hr => U8s.lt (h.2 r hr)⟩
theorem run_mk0 {P : Program} {t e : TypeId} {z : Value} {size bytes : Nat} (ht : P.underlying t = some (.slice e)) (hi : (P.info? e).map (fun i => (i.zero, i.size, i.bytes)) = some (some z, size, bytes))
    (n : Nat) (hb : bytes * n ≤ 281474976710656) (hn : n ≤ maxLen) (w : World) :
    (Instr.makeSlice t (.int .i64 0) (.int .i64 (n : Int))).run P w = .ok (.slice (some ⟨w.heap.size, 0, none⟩) 0 n) (w.alloc (.cells (made z (n * size)) e)) := by
  obtain ⟨i0, h0, h1, h2, h3⟩ := info_parts hi
  unfold maxLen at hn
  have := run_make (P := P) w t e i0 z ht h0 h1 .i64 .i64 0 (n : Int) (by omega) (by omega) (by rw [h3]; omega) (by omega)
  simpa [h2, made] using this
theorem appok_first {si off : Int} {n : Nat} {ap : List Raw} (h : AppOk si off n ap) {k : Nat} {r : Raw} (hr : ap[k]? = some r) :
    ∃ F : Int, 1 ≤ F ∧ F + ap.length ≤ 18446744073709551616 ∧ r.idx = F + k ∧ ∀ (i : Nat) (r : Raw), ap[i]? = some r → r.idx = F + i := by
  rcases h with rfl | ⟨F, h1, h2, h3, h4⟩
  · simp at hr
  · exact ⟨F, h1, h3, h4 k r hr, h4⟩
theorem mres_conf {si st off un sb un' sb' : Int} {rs ap rs2 ap2 rs' : List Raw} {ch : Bool} (h : MRes si st off un sb rs2 ap2 rs' un' sb' ch) (pr : Pl rs2 rs) (pa : Pl ap2 ap) {k : Nat} {r : Raw}
    (h1 : ∀ (j : Nat) (r : Raw), j < k → ap[j]? = some r → termF si st off rs r.idx = some r.term) (h2 : ap[k]? = some r) (h3 : termF si st off rs r.idx ≠ some r.term) :
    ∃ m : Nat, m ≤ rs.length ∧ r.idx = off + m + 1 ∧ rs' = rs2.take m ++ ap2.drop k ∧ un' = (if m < rs2.length then min un (off + m + 1) else un) ∧ sb' = (if m < rs2.length then min sb (off + m) else sb) ∧ ch = (anyF (rs.drop m) || anyF (ap.drop k)) := by
  have conv : ∀ (i : Nat) (x q : Raw), ap2[i]? = some x → ap[i]? = some q → (termF si st off rs2 x.idx = some x.term ↔ termF si st off rs q.idx = some q.term) := fun i x q hx hq => by
    obtain ⟨q', hq', hp⟩ := pa.get hx
    rw [hq] at hq'; cases hq'
    obtain ⟨e1, e2, _⟩ := plain_parts hp
    rw [e1, e2, pr.termF]
  rcases h with ⟨hall, _⟩ | ⟨k', m, x, g1, g2, g3, g4, g5, g6, g7, g8, g9⟩
  · exfalso
    obtain ⟨x, hx, _⟩ := pa.symm.get h2
    exact h3 ((conv k x r hx h2).1 (hall x (List.mem_of_getElem? hx)))
  · obtain ⟨q, hq, hp⟩ := pa.get g2
    obtain ⟨x2, hx2, hp2⟩ := pa.symm.get h2
    have hk : k' = k := by
      rcases Nat.lt_trichotomy k' k with hlt | heq | hgt
      · exact absurd ((conv k' x q g2 hq).2 (h1 k' q hlt hq)) g3
      · exact heq
      · exact absurd ((conv k x2 r hx2 h2).1 (g1 k x2 hgt hx2)) h3
    subst hk
    rw [h2] at hq; cases hq
    refine ⟨m, by rw [← pr.len]; exact g5, by rw [← (plain_parts hp).1]; exact g4, g6, g7, g8, ?_⟩
    have c2 : decide ((chgs (rs2.take m)).length < (chgs rs').length) = anyF (ap2.drop k') := by
      rw [g6, chgs_append, List.length_append, ← chgs_any]
      by_cases h : 0 < (chgs (ap2.drop k')).length
      · simp
      · have : (chgs (ap2.drop k')).length = 0 := by omega
        simp [this]
    rw [g9, chgs_lt, c2, (pr.drop m).anyF, (pa.drop k').anyF]
/-- The q-th entry that is wanted, out of the log. -/
theorem want_log {W wr : World} {a : Option Addr} {c : Nat} {rs : List Raw} (h : Ents All W (.slice a rs.length c) rs) (hok : EntOk rs) (f : Fr All W wr) {m q : Nat} (hm : m ≤ rs.length) (hq : q < m) (tl : List Raw) (qi : Nat) (hqi : qi = q) :
    ∃ (b o : Nat) (r : Raw) (xa : Option Addr) (xn xc : Nat) (xb : Bool), a = some ⟨b, o, none⟩ ∧ (rs.take m ++ tl)[q]? = some r ∧ wr.cell? ⟨b, o + qi * 4, none⟩ = some (.int .u64 r.idx) ∧ wr.cell? ⟨b, o + qi * 4 + 1, none⟩ = some (.int .u64 r.term) ∧
      wr.cell? ⟨b, o + qi * 4 + 2, none⟩ = some (.slice xa xn xc) ∧ wr.cell? ⟨b, o + qi * 4 + 3, none⟩ = some (.bool xb) ∧ r.cv = .slice xa xn xc ∧ r.ch = .bool xb := by
  subst hqi
  obtain ⟨⟨ao, c', eq, _, _, _, hp⟩, hc⟩ := h
  simp only [Value.slice.injEq, true_and] at eq
  obtain ⟨rfl, rfl⟩ := eq
  obtain ⟨b, o, rfl, _, hcell⟩ := hp (by omega)
  obtain ⟨r, hr⟩ : ∃ r, rs[qi]? = some r := ⟨rs[qi]'(by omega), by simp⟩
  obtain ⟨xa, xc, hcv, _⟩ := hc r (List.mem_of_getElem? hr)
  obtain ⟨_, xb, hch⟩ := hok r (List.mem_of_getElem? hr)
  obtain ⟨e0, e1, e2, e3⟩ := ents_cells hcell hr
  rw [hcv] at e2
  rw [hch] at e3
  refine ⟨b, o, r, xa, _, xc, xb, rfl, ?_, f.cellSome e0 trivial, f.cellSome e1 trivial, f.cellSome e2 trivial, f.cellSome e3 trivial, hcv, hch⟩
  rw [List.getElem?_append_left (by simp; omega), List.getElem?_take_of_lt hq, hr]
/-- The q-th entry that is wanted, out of the append. -/
theorem want_app {W wr : World} {b o c : Nat} {ap : List Raw} (h : Ents All W (.slice (some ⟨b, o, none⟩) ap.length c) ap) (hok : EntOk ap) (f : Fr All W wr) {m q k : Nat} (hk : k ≤ ap.length) (hq : m ≤ q) (hqN : q < m + (ap.length - k)) (hd : List Raw) (hhd : hd.length = m) (qi : Nat) (hqi : qi = q - m + k) :
    ∃ (r : Raw) (xa : Option Addr) (xn xc : Nat) (xb : Bool), (hd ++ ap.drop k)[q]? = some r ∧ wr.cell? ⟨b, o + qi * 4, none⟩ = some (.int .u64 r.idx) ∧ wr.cell? ⟨b, o + qi * 4 + 1, none⟩ = some (.int .u64 r.term) ∧
      wr.cell? ⟨b, o + qi * 4 + 2, none⟩ = some (.slice xa xn xc) ∧ wr.cell? ⟨b, o + qi * 4 + 3, none⟩ = some (.bool xb) ∧ r.cv = .slice xa xn xc ∧ r.ch = .bool xb := by
  obtain ⟨⟨ao, c', eq, _, _, _, hp⟩, hc⟩ := h
  simp only [Value.slice.injEq, true_and] at eq
  obtain ⟨rfl, rfl⟩ := eq
  obtain ⟨b', o', eq, _, hcell⟩ := hp (by omega)
  simp only [Option.some.injEq, Addr.mk.injEq, and_true] at eq
  obtain ⟨rfl, rfl⟩ := eq
  obtain ⟨r, hr⟩ : ∃ r, ap[qi]? = some r := ⟨ap[qi]'(by omega), by simp⟩
  obtain ⟨xa, xc, hcv, _⟩ := hc r (List.mem_of_getElem? hr)
  obtain ⟨_, xb, hch⟩ := hok r (List.mem_of_getElem? hr)
  obtain ⟨e0, e1, e2, e3⟩ := ents_cells hcell hr
  rw [hcv] at e2
  rw [hch] at e3
  refine ⟨r, xa, _, xc, xb, ?_, f.cellSome e0 trivial, f.cellSome e1 trivial, f.cellSome e2 trivial, f.cellSome e3 trivial, hcv, hch⟩
  rw [List.getElem?_append_right (by omega), List.getElem?_drop, hhd, ← hr]; congr 1; omega
theorem arr4 (w : World) (x0 x1 x2 x3 : Value) : ∀ (j : Nat) (u : Value), [x0, x1, x2, x3][j]? = some u → (w.alloc (.cells #[x0, x1, x2, x3] 47)).cell? ((⟨w.heap.size, 0, none⟩ : Addr).add j) = some u := by
  intro j u h
  rw [add_plain', World.cell?_alloc_at _ _ _ _ rfl, Nat.zero_add]
  simpa using h
theorem want_step {W wr w' : World} {a : Option Addr} {n c q : Nat} {wl : List Raw} {r : Raw} {xa : Option Addr} {xn xc : Nat} {xb : Bool} {B : Obj} {v' : Value} (h : wr.ownsRow W.heap.size 47 4 (.slice a n c) q (flat (wl.take q))) (f : Fr All W wr)
    (hr : wl[q]? = some r) (hcv : r.cv = .slice xa xn xc) (hch : r.ch = .bool xb) (h' : w'.ownsRow W.heap.size 47 4 v' (q + 1) (flat (wl.take q) ++ [.int .u64 r.idx, .int .u64 r.term, .slice xa xn xc, .bool xb])) (hg : (wr.alloc B).grownBy w' (Value.slice a n c).ownBlock) :
    w'.ownsRow W.heap.size 47 4 v' (q + 1) (flat (wl.take (q + 1))) ∧ Fr All W w' := by
  refine ⟨?_, ?_⟩
  · rw [List.take_add_one, hr, flat_append]
    have : flat (some r).toList = [.int .u64 r.idx, .int .u64 r.term, .slice xa xn xc, .bool xb] := by simp [flat, Raw.cells, hcv, hch]
    rw [this]; exact h'
  · refine (f.tr (Fr.alloc _ _ B)).trans (Fr.grown (T := fun b => (Value.slice a n c).ownBlock ≠ some b) hg (fun k hk h => h hk)) (fun i hi _ => ⟨trivial, fun e => ?_⟩)
    have := (h.lt i e).1
    omega
theorem anyF_step {a : List Raw} {i m : Nat} {r : Raw} (hr : a[i]? = some r) : anyF ((a.take (i + 1)).drop m) = (anyF ((a.take i).drop m) || (decide (m ≤ i) && r.flag)) := by
  rw [List.take_add_one, hr]
  by_cases h : m ≤ i
  · have hl : i < a.length := (List.getElem?_eq_some_iff.1 hr).1
    rw [List.drop_append_of_le_length (by simp; omega)]
    simp [anyF, h]
  · rw [List.drop_eq_nil_of_le (by simp; omega), List.drop_eq_nil_of_le (by simp; omega)]
    simp [anyF, h]
theorem flag_at {W wr : World} {a : Option Addr} {c : Nat} {rs : List Raw} (h : Ents All W (.slice a rs.length c) rs) (hok : EntOk rs) (f : Fr All W wr) {j : Nat} (hj : j < rs.length) {g : Nat → Int} (hg : ∀ (i : Nat) (r : Raw), rs[i]? = some r → r.idx = g i) :
    ∃ (b o : Nat) (r : Raw) (xb : Bool), a = some ⟨b, o, none⟩ ∧ rs[j]? = some r ∧ wr.cell? ⟨b, o + j * 4, none⟩ = some (.int .u64 (g j)) ∧ wr.cell? ⟨b, o + j * 4 + 3, none⟩ = some (.bool xb) ∧ r.ch = .bool xb := by
  obtain ⟨⟨ao, c', eq, _, _, _, hp⟩, hc⟩ := h
  simp only [Value.slice.injEq, true_and] at eq
  obtain ⟨rfl, rfl⟩ := eq
  obtain ⟨b, o, rfl, _, hcell⟩ := hp (by omega)
  obtain ⟨r, hr⟩ : ∃ r, rs[j]? = some r := ⟨rs[j], by simp⟩
  obtain ⟨_, xb, hch⟩ := hok r (List.mem_of_getElem? hr)
  obtain ⟨e0, e1, e2, e3⟩ := ents_cells hcell hr
  rw [hch] at e3
  rw [hg j r hr] at e0
  exact ⟨b, o, r, xb, rfl, hr, f.cellSome e0 trivial, f.cellSome e3 trivial, hch⟩
theorem mres_all {si st off un sb un' sb' : Int} {rs ap rs2 ap2 rs' : List Raw} {ch : Bool} (h : MRes si st off un sb rs2 ap2 rs' un' sb' ch) (pr : Pl rs2 rs) (pa : Pl ap2 ap) (hall : ∀ r ∈ ap, termF si st off rs r.idx = some r.term) :
    rs2 = rs' ∧ un = un' ∧ sb = sb' ∧ ch = false := by
  rcases h with ⟨_, h1, h2, h3, h4⟩ | ⟨k, m, x, h1, h2, h3, _⟩
  · exact ⟨h1.symm, h2.symm, h3.symm, h4⟩
  · exfalso
    obtain ⟨q, hq, hp⟩ := pa.get h2
    obtain ⟨e1, e2, _⟩ := plain_parts hp
    have := hall q (List.mem_of_getElem? hq)
    rw [← e1, ← e2, ← pr.termF] at this
    exact h3 this
set_option maxRecDepth 100000 in
set_option maxHeartbeats 4000000 in
/-- FnMergeReplacesFromFirstConflict. -/
theorem c3 (w : World) (si st off un sb : Int) (v3 v4 v7 : Value) (rs0 ap0 : List Raw) (ns : List Int) (h3 : Ents All w v3 rs0) (h4 : U64s All w v4 ns) (h7 : Ents All w v7 ap0)
    (hb3 : ∀ r ∈ rs0, ∃ b, r.ch = .bool b) (hb7 : ∀ r ∈ ap0, ∃ b, r.ch = .bool b) (hi3 : IdxOk rs0) (hi7 : IdxOk ap0) (s0 : 0 ≤ si) (s1 : si ≤ 18446744073709551615) (f0 : 0 ≤ off) (f1 : off ≤ 18446744073709551615) :
    Calls Try.prog 3 #[.int .u64 si, .int .u64 st, .int .u64 off, v3, v4, .int .u64 un, .int .u64 sb, v7] w (RetTrueF w) := by
  obtain ⟨a3, k3, e3⟩ : ∃ a c, v3 = .slice a rs0.length c := by obtain ⟨⟨a, c, rfl, _⟩, _⟩ := h3; exact ⟨_, _, rfl⟩
  obtain ⟨a4, k4, e4⟩ : ∃ a c, v4 = .slice a ns.length c := by obtain ⟨a, c, rfl, _⟩ := h4; exact ⟨_, _, rfl⟩
  obtain ⟨a7, k7, e7⟩ : ∃ a c, v7 = .slice a ap0.length c := by obtain ⟨⟨a, c, rfl, _⟩, _⟩ := h7; exact ⟨_, _, rfl⟩
  subst e3 e4 e7
  have H : Hid (Ents All w (.slice a3 rs0.length k3) rs0 ∧ U64s All w (.slice a4 ns.length k4) ns ∧ Ents All w (.slice a7 ap0.length k7) ap0 ∧ (∀ r ∈ rs0, ∃ b, r.ch = .bool b) ∧ (∀ r ∈ ap0, ∃ b, r.ch = .bool b) ∧ IdxOk rs0 ∧ IdxOk ap0) := ⟨h3, h4, h7, hb3, hb7, hi3, hi7⟩
  clear h3 h4 h7 hb3 hb7 hi3 hi7
  go_enter Try.func3, Try.ntmps3
  go_wp2_with fail
  refine (c7 (T := All) w _ _ _ _ _ _ _ _ rs0 ap0 ns H.out.1 H.out.2.1 H.out.2.2.1).mono ?_
  rintro e w' ⟨b, rfl, ⟨nq, rfl⟩, hb⟩
  cases b with
  | false =>
    go_wp2
    go_ret
    exact ⟨rfl, Fr.drewN _ _ _⟩
  | true =>
    have hb' := hb rfl
    clear hb
    obtain ⟨l3, c3, l4, l7, c7⟩ := hb'
    have HB : Hid ((∀ r ∈ rs0, r.cmd.length ≤ 1048576) ∧ (∀ r ∈ ap0, r.cmd.length ≤ 1048576)) := ⟨c3, c7⟩
    clear c3 c7
    by_cases t3 : 65536 < rs0.length
    · go_wp2
      go_ret
      exact ⟨rfl, Fr.drewN _ _ _⟩
    have d3 : decide ((65536 : Int) < (rs0.length : Int)) = false := by simp; omega
    by_cases t4 : 65536 < ns.length
    · go_wp2
      go_ret
      exact ⟨rfl, Fr.drewN _ _ _⟩
    have d4 : decide ((65536 : Int) < (ns.length : Int)) = false := by simp; omega
    by_cases t7 : 65536 < ap0.length
    · go_wp2
      go_ret
      exact ⟨rfl, Fr.drewN _ _ _⟩
    go_wp2_with fail
    refine (c8 (T := All) _ _ _ _ rs0 ap0 ns (H.out.1.fr (Fr.drewN _ _ _)) (Rd.fr H.out.2.1 (Fr.drewN _ _ _)) (H.out.2.2.1.fr (Fr.drewN _ _ _))).mono ?_
    rintro e w' ⟨b, rfl, ⟨nq2, rfl⟩, -⟩
    cases b with
    | false =>
      go_wp2
      go_ret
      exact ⟨rfl, by first | exact Fr.drewN _ _ _ | exact (Fr.drewN _ _ _).tr (Fr.drewN _ _ _)⟩
    | true =>
      go_wp2_with fail
      have hok0 : EntOk rs0 := fun r hr => ⟨HB.out.1 r hr, H.out.2.2.2.1 r hr⟩
      have hok7 : EntOk ap0 := fun r hr => ⟨HB.out.2 r hr, H.out.2.2.2.2.1 r hr⟩
      refine (c9 (T := All) _ _ rs0 (H.out.1.fr (Fr.drewN _ _ _)) (by omega) hok0).mono ?_
      rintro e w1 ⟨v1, rs, rfl, g1, o1, u1, p1, hb1⟩
      have G1 : Fr All w w1 := (Fr.drewN _ _ _).tr g1
      have E1 : Ents All w1 v1 rs := ⟨Rd.own o1 (fun _ _ _ => trivial), fun r hr => Rd.any (u1 r hr)⟩
      have P1 : Pl rs rs0 := p1
      clear g1 o1 u1 p1
      obtain ⟨a1, k1, e1⟩ : ∃ a c, v1 = .slice a rs.length c := by obtain ⟨⟨a, c, rfl, _⟩, _⟩ := E1; exact ⟨_, _, rfl⟩
      subst e1
      go_wp2_with fail
      refine (c10 (T := All) _ _ ns (Rd.fr H.out.2.1 G1) (by omega)).mono ?_
      rintro e w2 ⟨v2, rfl, g2, o2⟩
      have G2 : Fr All w w2 := G1.tr g2
      have E1 := E1.fr g2
      have E2 : U64s All w2 v2 ns := Rd.own o2 (fun _ _ _ => trivial)
      clear g2 o2 G1
      obtain ⟨a2, k2, e2⟩ : ∃ a c, v2 = .slice a ns.length c := by obtain ⟨a, c, rfl, _⟩ := E2; exact ⟨_, _, rfl⟩
      subst e2
      go_wp2_with fail
      refine (c9 (T := All) _ _ ap0 (H.out.2.2.1.fr G2) (by omega) hok7).mono ?_
      rintro e w3 ⟨v5, ap, rfl, g3, o3, u3, p3, hb5⟩
      have G3 : Fr All w w3 := G2.tr g3
      have E1 := E1.fr g3
      have E2 := E2.fr g3
      have E3 : Ents All w3 v5 ap := ⟨Rd.own o3 (fun _ _ _ => trivial), fun r hr => Rd.any (u3 r hr)⟩
      have P3 : Pl ap ap0 := p3
      clear g3 o3 u3 p3 G2
      obtain ⟨a5, k5, e5⟩ : ∃ a c, v5 = .slice a ap.length c := by obtain ⟨⟨a, c, rfl, _⟩, _⟩ := E3; exact ⟨_, _, rfl⟩
      subst e5
      have okR : EntOk rs := fun r hr => ⟨P1.symm.cmdLen HB.out.1 r hr, hb1 r hr⟩
      have okA : EntOk ap := fun r hr => ⟨P3.symm.cmdLen HB.out.2 r hr, hb5 r hr⟩
      have ixR : IdxOk rs := P1.symm.idxOk H.out.2.2.2.2.2.1
      have ixA : IdxOk ap := P3.symm.idxOk H.out.2.2.2.2.2.2
      have lR : rs.length ≤ 65536 := by rw [P1.len]; omega
      have lA : ap.length ≤ 65536 := by rw [P3.len]; omega
      have HE : Hid (Ents All w3 (.slice a1 rs.length k1) rs ∧ U64s All w3 (.slice a2 ns.length k2) ns ∧ Ents All w3 (.slice a5 ap.length k5) ap ∧ EntOk rs ∧ EntOk ap ∧ IdxOk rs ∧ IdxOk ap ∧ Fr All w w3) := ⟨E1, E2, E3, okR, okA, ixR, ixA, G3⟩
      clear E1 E2 E3 okR okA ixR ixA G3 P1 P3 hb1 hb5 hok0 hok7 HB
      go_wp2_with fail
      refine (c11 (T := All) _ si st off _ _ rs ns HE.out.1 HE.out.2.1 HE.out.2.2.2.1 (by omega) (by omega) s0 s1 f0 f1).mono ?_
      rintro e w' ⟨b, rfl, ⟨nq3, rfl⟩, hlog⟩
      cases b with
      | false =>
        go_wp2
        go_ret
        exact ⟨rfl, HE.out.2.2.2.2.2.2.2.tr (Fr.drewN _ _ _)⟩
      | true =>
        have hlog' := hlog rfl
        have room := hlog'.room
        have HL : Hid (LogOk si st off rs ns) := hlog'
        clear hlog hlog'
        go_wp2_with fail
        refine (c12 (T := All) _ si off rs.length _ ap (HE.out.2.2.1.fr (Fr.drewN _ _ _)) HE.out.2.2.2.2.2.2.1 (by omega) (by omega) s0 s1 f0 room).mono ?_
        rintro e w' ⟨b, rfl, ⟨nq4, rfl⟩, happ⟩
        cases b with
        | false =>
          go_wp2
          go_ret
          exact ⟨rfl, HE.out.2.2.2.2.2.2.2.tr (by first | exact Fr.drewN _ _ _ | exact (Fr.drewN _ _ _).tr (Fr.drewN _ _ _))⟩
        | true =>
          have HA : Hid (AppOk si off rs.length ap) := happ rfl
          clear happ
          go_wp2_with fail
          obtain ⟨W, hW⟩ : ∃ W, W = w3.drewN (nq3 + nq4) := ⟨_, rfl⟩
          have fW : Fr All w3 W := by rw [hW]; exact Fr.drewN _ _ _
          rw [← hW]
          clear hW
          have EL : Hid (Ents (Lt W.heap.size) W (.slice a1 rs.length k1) rs ∧ U64s (Lt W.heap.size) W (.slice a2 ns.length k2) ns ∧ Ents (Lt W.heap.size) W (.slice a5 ap.length k5) ap ∧ Fr All w W) := ⟨(HE.out.1.fr fW).lt, U64s.lt (HE.out.2.1.fr fW), (HE.out.2.2.1.fr fW).lt, HE.out.2.2.2.2.2.2.2.tr fW⟩
          refine (c14 (T := All) _ si st off un sb _ _ rs ns EL.out.1.any (Rd.any EL.out.2.1) HE.out.2.2.2.1 (by omega) (by omega)).mono ?_
          rintro e w4 ⟨ev, cv, rs2, rfl, g4, oE, uE, pE, hpE, oC⟩
          go_wp2_with fail
          refine (c15 (T := All) _ _ ap (EL.out.2.2.1.any.fr g4) (by omega) HE.out.2.2.2.2.1).mono ?_
          rintro e w5 ⟨v6, ap2, rfl, g5, oA, uA, pA, hpA⟩
          go_wp2_with fail
          have PE : Pl rs2 rs := pE
          have PA : Pl ap2 ap := pA
          have hch : ns = chgs rs2 := by rw [PE.chgs]; exact HL.out.chg
          have oE5 := own_fr oE g5 (fun _ _ => trivial)
          have oC5 := own_fr oC g5 (fun _ _ => trivial)
          rw [hch] at oC5
          have hlE : ∀ b, ev.ownBlock = some b → W.heap.size ≤ b ∧ b < w4.heap.size := fun b h => oE.lt b h
          have hlC : ∀ b, cv.ownBlock = some b → W.heap.size ≤ b ∧ b < w4.heap.size := fun b h => oC.lt b h
          have haA : Rd (fun b => ev.ownBlock ≠ some b ∧ cv.ownBlock ≠ some b) w5 v6 ap2.length (flat ap2) := Rd.own oA (fun b hb _ => ⟨fun h => by have := (hlE b h).2; omega, fun h => by have := (hlC b h).2; omega⟩)
          have room2 : off + rs2.length < 18446744073709551615 := by rw [PE.len]; exact room
          have hrun : Runs off rs2 := PE.symm.runs HL.out.idx
          refine (c13 w5 W.heap.size si st off un sb none none 0 0 0 0 ev cv rs2 ap2 v6 oE5 oC5 (Nat.le_trans g4.size g5.size) f0 room2 (by rw [PE.len]; omega) haA (PA.symm.idxOk HE.out.2.2.2.2.2.2.1) hpA (cvs_of uA) (fun b h => h) hrun HL.out.lo (by rw [PE.len]; exact HL.out.hi) (by rw [PE.len]; exact PA.symm.appOk HA.out) (by rw [PA.len]; omega)).mono ?_
          rintro e w6 ⟨rs', un', sb', ch, ev', cv', rfl, hM, oE', oC', g6⟩
          have g36 : Fr (Lt W.heap.size) W w6 := ((g4.tr g5).any).trans g6 (fun i hi h => ⟨h, fun e => by have := (hlE i e).1; unfold Lt at h; omega, fun e => by have := (hlC i e).1; unfold Lt at h; omega⟩)
          have uR : ∀ r ∈ rs', U8s All w6 r.cv r.cmd := by
            have uE6 : ∀ r ∈ rs2, U8s All w6 r.cv r.cmd := fun r hr => Rd.any (Rd.fr (Rd.mono (uE r hr) (fun i h => h.2)) ((g5.any).tr g6))
            have uA6 : ∀ r ∈ ap2, U8s All w6 r.cv r.cmd := fun r hr => Rd.any (Rd.fr (Rd.mono (uA r hr) (fun i h => ⟨fun e => by have := (hlE i e).2; omega, fun e => by have := (hlC i e).2; omega⟩)) g6)
            rcases hM with ⟨_, rfl, _⟩ | ⟨k, m, x, _, _, _, _, _, rfl, _⟩
            · exact uE6
            · intro r hr
              rcases List.mem_append.1 hr with h | h
              · exact uE6 r (List.mem_of_mem_take h)
              · exact uA6 r (List.mem_of_mem_drop h)
          have hpR : ∀ r ∈ rs', ∃ p, r.ch = .pointer p := by
            rcases hM with ⟨_, rfl, _⟩ | ⟨k, m, x, _, _, _, _, _, rfl, _⟩
            · exact hpE
            · intro r hr
              rcases List.mem_append.1 hr with h | h
              · exact hpE r (List.mem_of_mem_take h)
              · exact hpA r (List.mem_of_mem_drop h)
          obtain ⟨ae', ne', ce', e1⟩ := own_shape oE'
          obtain ⟨ac', nc', cc', e2⟩ := own_shape oC'
          subst e1 e2
          have ne1 := own_len oE'
          have nc1 := own_len oC'
          subst ne1 nc1
          have hlen' : rs'.length ≤ 1048576 := by
            rcases hM with ⟨_, rfl, _⟩ | ⟨k, m, x, _, _, _, _, _, rfl, _⟩
            · rw [PE.len]; omega
            · have := PE.len; have := PA.len; simp; omega
          have HM : Hid (MRes si st off un sb rs2 ap2 rs' un' sb' ch ∧ Pl rs2 rs ∧ Pl ap2 ap ∧ (∀ r ∈ rs', ∃ p, r.ch = .pointer p)) := ⟨hM, PE, PA, hpR⟩
          have HG : Hid (Ents All w6 (.slice ae' rs'.length ce') rs' ∧ U64s All w6 (.slice ac' (chgs rs').length cc') (chgs rs') ∧ Ents All w6 (.slice a1 rs.length k1) rs ∧ Ents All w6 (.slice a5 ap.length k5) ap ∧ Fr All w w6) :=
            ⟨⟨Rd.own oE' (fun _ _ _ => trivial), uR⟩, Rd.own oC' (fun _ _ _ => trivial), (EL.out.1.fr g36).any, (EL.out.2.2.1.fr g36).any, EL.out.2.2.2.trans g36 (fun i hi _ => ⟨trivial, Nat.lt_of_lt_of_le hi EL.out.2.2.2.size⟩)⟩
          clear g36 uR hpR oE' oC' g6 hM haA room2 hrun hlE hlC oC5 oE5 hch PE PA oA uA pA hpA g5 oE uE pE hpE oC g4 EL fW
          go_wp2_with fail
          obtain ⟨W7, hW7⟩ : ∃ W7, W7 = w6.alloc (.cells #[.int .u64 si, .int .u64 st, .slice none 0 0, .slice none 0 0, .int .u64 off, .slice ae' rs'.length ce', .slice ac' (chgs rs').length cc', .int .u64 un', .int .u64 sb'] 38) := ⟨_, rfl⟩
          have hbx : Hid (W7.heap[w6.heap.size]? = some (.cells #[.int .u64 si, .int .u64 st, .slice none 0 0, .slice none 0 0, .int .u64 off, .slice ae' rs'.length ce', .slice ac' (chgs rs').length cc', .int .u64 un', .int .u64 sb'] 38 (0, 0))) := by rw [hW7]; exact heap_alloc_new _ _
          have f67 : Fr All w6 W7 := by rw [hW7]; exact Fr.alloc _ _ _
          rw [← hW7]
          clear hW7
          have HW : Hid (Ents All W7 (.slice ae' rs'.length ce') rs' ∧ U64s All W7 (.slice ac' (chgs rs').length cc') (chgs rs') ∧ Ents All W7 (.slice a1 rs.length k1) rs ∧ Ents All W7 (.slice a5 ap.length k5) ap ∧ Fr All w W7) :=
            ⟨HG.out.1.fr f67, HG.out.2.1.fr f67, HG.out.2.2.1.fr f67, HG.out.2.2.2.1.fr f67, HG.out.2.2.2.2.tr f67⟩
          clear HG f67
          go_loopw [19] (fun i wr => ∃ k : Nat, k ≤ ap.length ∧ i = .int .i64 k ∧ Qt W7 wr ∧ ∀ (j : Nat) (r : Raw), j < k → ap[j]? = some r → termF si st off rs r.idx = some r.term) (fun i _ => ap.length - (intOf i).toNat)
          case atStart => exact ⟨0, by omega, rfl, Qt.refl _, fun j r h => by omega⟩
          case round =>
            obtain ⟨k, hk, rfl, ⟨nq5, rfl⟩, hmat⟩ := hrel
            have hmH : Hid (∀ (j : Nat) (r : Raw), j < k → ap[j]? = some r → termF si st off rs r.idx = some r.term) := hmat
            clear hmat
            by_cases hlt : k < ap.length
            · obtain ⟨⟨ao, c, eq, hnc, hcm, _, hp⟩, hc⟩ := HW.out.2.2.2.1
              simp only [Value.slice.injEq, true_and] at eq
              obtain ⟨rfl, rfl⟩ := eq
              obtain ⟨ba, oa, rfl, _, hcell⟩ := hp (by omega)
              obtain ⟨r, hr⟩ : ∃ r, ap[k]? = some r := ⟨ap[k], by simp [hlt]⟩
              obtain ⟨e0, e1, _, _⟩ := ents_cells hcell hr
              obtain ⟨⟨i0, i1⟩, j0, j1⟩ := HE.out.2.2.2.2.2.2.1 r (List.mem_of_getElem? hr)
              have hrH : Hid (ap[k]? = some r) := hr
              clear hcell hr hp hc hcm
              go_wp2_with fail
              refine (c16 (T := All) _ si st off r.idx _ rs (HW.out.2.2.1.fr (Fr.drewN _ _ _)) (by omega) f0 f1 i0 i1).mono ?_
              rintro e w' ⟨rfl, nq6, rfl⟩
              by_cases hm : termF si st off rs r.idx = some r.term
              · rw [hm]
                go_wp2
                go_roundw
                case rel =>
                  refine ⟨k + 1, by omega, by go_num, Qt.drewN _ _, fun j r' hj hr' => ?_⟩
                  by_cases hjk : j = k
                  · subst hjk; rw [hrH.out] at hr'; cases hr'; exact hm
                  · exact hmH.out j r' (by omega) hr'
                case measure => simp [intOf]; omega
              · have hmN : Hid (termF si st off rs r.idx ≠ some r.term) := hm
                obtain ⟨tq, htq⟩ : ∃ tq, tq = termF si st off rs r.idx := ⟨_, rfl⟩
                rw [← htq] at hm ⊢
                clear htq
                obtain ⟨m, hmle, hrm, hrs', hun', hsb', hch'⟩ := mres_conf HM.out.1 HM.out.2.1 HM.out.2.2.1 hmH.out hrH.out hmN.out
                obtain ⟨F, hF1, hF2, hF3, hF4⟩ := appok_first HA.out hrH.out
                obtain ⟨r0, hr0⟩ : ∃ r0, ap[0]? = some r0 := ⟨ap[0]'(by omega), by simp⟩
                obtain ⟨rl, hrl⟩ : ∃ rl, ap[ap.length - 1]? = some rl := ⟨ap[ap.length - 1]'(by omega), by simp⟩
                have hcellA : ∀ j u, (flat ap)[j]? = some u → W7.cell? ⟨ba, oa + j, none⟩ = some u := by
                  obtain ⟨⟨ao, c, eq, _, _, _, hp⟩, _⟩ := HW.out.2.2.2.1
                  simp only [Value.slice.injEq, true_and] at eq
                  obtain ⟨rfl, rfl⟩ := eq
                  obtain ⟨b, o, eq, _, hc⟩ := hp (by omega)
                  simp only [Option.some.injEq, Addr.mk.injEq, and_true] at eq
                  obtain ⟨rfl, rfl⟩ := eq
                  exact hc
                obtain ⟨N, hN⟩ : ∃ N, N = m + (ap.length - k) := ⟨_, rfl⟩
                have c0 : W7.cell? ⟨ba, oa, none⟩ = some (.int .u64 F) := by
                  have := (ents_cells hcellA hr0).1
                  rw [hF4 0 r0 hr0] at this
                  simpa using this
                have cl : W7.cell? ⟨ba, oa + (ap.length - 1) * 4, none⟩ = some (.int .u64 (off + N)) := by
                  have := (ents_cells hcellA hrl).1
                  rw [hF4 _ rl hrl, show F + ((ap.length - 1 : Nat) : Int) = off + (N : Int) by omega] at this
                  exact this
                rw [hrm] at e0
                have hNl : N ≤ 131072 := by omega
                have hNm : m ≤ N := by omega
                have HC : Hid (rs' = rs2.take m ++ ap2.drop k ∧ un' = (if m < rs2.length then min un (off + m + 1) else un) ∧ sb' = (if m < rs2.length then min sb (off + m) else sb) ∧ ch = (anyF (rs.drop m) || anyF (ap.drop k)) ∧ N = m + (ap.length - k) ∧ F + k = off + m + 1 ∧ (∀ (i : Nat) (r : Raw), ap[i]? = some r → r.idx = F + i) ∧ (∀ j u, (flat ap)[j]? = some u → W7.cell? ⟨ba, oa + j, none⟩ = some u)) := ⟨hrs', hun', hsb', hch', hN, by omega, hF4, hcellA⟩
                clear hrs' hun' hsb' hch' hN hF4 hr0 hrl hcellA hmN
                have hbF : 1 ≤ F ∧ F ≤ 18446744073709551615 := ⟨hF1, by omega⟩
                obtain ⟨i47, hi47, hz0, hz1, hz2⟩ := info_parts Try.info47
                have hmk2 := run_mk0 (P := Try.prog) Try.underlying23 Try.info47 N (by omega) (by unfold maxLen; omega)
                have hNe : off + (N : Int) - off = (N : Int) := by omega
                rw [← hNe] at hmk2
                clear hNe
                have hlA0 : (0 : Int) < (ap.length : Int) := by omega
                cases tq with
                | none =>
                  go_wp2
                  obtain ⟨W8, hW8⟩ : ∃ W8, W8 = (W7.drewN (nq5 + nq6)).alloc (.cells (made (.agg #[.int .u64 0, .int .u64 0, .slice none 0 0, .bool false]) (N * 4)) 47) := ⟨_, rfl⟩
                  have f78 : Fr All W7 W8 := by rw [hW8]; exact (Fr.drewN _ _ _).tr (Fr.alloc _ _ _)
                  have o8 : W8.ownsRow W7.heap.size 47 4 (.slice (some ⟨W7.heap.size, 0, none⟩) 0 N) 0 (flat ((rs.take m ++ ap.drop k).take 0)) := by
                    rw [hW8]; exact World.ownsRow_made (w := W7.drewN (nq5 + nq6)) _ N (Nat.le_refl _) (by unfold maxLen; omega) (size_made _ _)
                  rw [← hW8]
                  clear hW8
                  go_loopw [22, 30] (fun v i wr => ∃ q : Nat, q ≤ N ∧ i = .int .i64 q ∧ wr.ownsRow W7.heap.size 47 4 v q (flat ((rs.take m ++ ap.drop k).take q)) ∧ Fr All W7 wr) (fun _ i _ => N - (intOf i).toNat)
                  case atStart => exact ⟨0, by omega, rfl, o8, f78⟩
                  case round =>
                    obtain ⟨q, hq, rfl, hown, hfr⟩ := hrel
                    have HQ : Hid (wr.ownsRow W7.heap.size 47 4 _ q (flat ((rs.take m ++ ap.drop k).take q)) ∧ Fr All W7 wr) := ⟨hown, hfr⟩
                    obtain ⟨av, nv, cv2, ev2⟩ := own_shape hown
                    subst ev2
                    clear hown hfr o8 f78
                    by_cases hqN : q < N
                    · by_cases hqm : q < m
                      · obtain ⟨b1, o1, rq, xa, xn, xc, xb, ea1, hwl, p0, p1, p2, p3, hcv, hch⟩ := want_log HW.out.2.2.1 HE.out.2.2.2.1 HQ.out.2 hmle hqm (ap.drop k) ((off + 1 + (q : Int) - off).toNat - 1) (by omega)
                        subst ea1
                        have hHw : Hid ((rs.take m ++ ap.drop k)[q]? = some rq ∧ rq.cv = .slice xa xn xc ∧ rq.ch = .bool xb) := ⟨hwl, hcv, hch⟩
                        clear hwl hcv hch
                        go_wp2_with (first | (at_builtin; refine wpList_append_own _ rfl (.tmp 172) (.tmp 180) 23 rfl W7.heap.size 47 i47 (.agg #[.int .u64 0, .int .u64 0, .slice none 0 0, .bool false]) 4 48 Try.underlying23 hi47 hz0 hz1 hz2 rfl (by decide) _ q _ rfl (HQ.out.1.alloc _) ⟨wr.heap.size, 0, none⟩ 1 1 [.int .u64 rq.idx, .int .u64 rq.term, .slice xa xn xc, .bool xb] rfl rfl ?c1 ?c2 ?c3 ?c4 ?c5 ?_))
                        case c1 => exact arr4 _ _ _ _ _
                        case c2 => simp [Value.oneCell']
                        case c3 => unfold maxLen; omega
                        case c4 => omega
                        case c5 => have := HQ.out.2.size; simp; omega
                        intro v' w' hown' hgrow _
                        go_wp2
                        go_roundw
                        case rel => exact ⟨q + 1, by omega, by go_num, want_step HQ.out.1 HQ.out.2 hHw.out.1 hHw.out.2.1 hHw.out.2.2 hown' hgrow⟩
                        case measure => simp [intOf]; omega
                      · obtain ⟨rq, xa, xn, xc, xb, hwl, p0, p1, p2, p3, hcv, hch⟩ := want_app HW.out.2.2.2.1 HE.out.2.2.2.2.1 HQ.out.2 (k := k) (m := m) (q := q) (by omega) (by omega) (by have := HC.out.2.2.2.2.1; omega) (rs.take m) (by simp; omega) (off + 1 + (q : Int) - F).toNat (by have := HC.out.2.2.2.2.2.1; omega)
                        have hHw : Hid ((rs.take m ++ ap.drop k)[q]? = some rq ∧ rq.cv = .slice xa xn xc ∧ rq.ch = .bool xb) := ⟨hwl, hcv, hch⟩
                        have hFq : F ≤ off + 1 + (q : Int) := by have := HC.out.2.2.2.2.2.1; omega
                        have hFl : off + 1 + (q : Int) - F < (ap.length : Int) := by have := HC.out.2.2.2.2.2.1; have := HC.out.2.2.2.2.1; omega
                        clear hwl hcv hch
                        go_wp2_with (first | (at_builtin; refine wpList_append_own _ rfl (.tmp 182) (.tmp 189) 23 rfl W7.heap.size 47 i47 (.agg #[.int .u64 0, .int .u64 0, .slice none 0 0, .bool false]) 4 48 Try.underlying23 hi47 hz0 hz1 hz2 rfl (by decide) _ q _ rfl (HQ.out.1.alloc _) ⟨wr.heap.size, 0, none⟩ 1 1 [.int .u64 rq.idx, .int .u64 rq.term, .slice xa xn xc, .bool xb] rfl rfl ?d1 ?d2 ?d3 ?d4 ?d5 ?_))
                        case d1 => exact arr4 _ _ _ _ _
                        case d2 => simp [Value.oneCell']
                        case d3 => unfold maxLen; omega
                        case d4 => omega
                        case d5 => have := HQ.out.2.size; simp; omega
                        intro v' w' hown' hgrow _
                        go_wp2
                        go_roundw
                        case rel => exact ⟨q + 1, by omega, by go_num, want_step HQ.out.1 HQ.out.2 hHw.out.1 hHw.out.2.1 hHw.out.2.2 hown' hgrow⟩
                        case measure => simp [intOf]; omega
                    · have hqN' : q = N := by omega
                      subst hqN'
                      obtain ⟨wo, hwo⟩ : ∃ wo : World, wo = wr := ⟨_, rfl⟩
                      subst hwo
                      have hFk : F + (k : Int) = off + (m : Int) + 1 := HC.out.2.2.2.2.2.1
                      have HFk : Hid (F + (k : Int) = off + (m : Int) + 1) := hFk
                      clear hFk
                      go_wp2
                      go_loop [25, 32] (fun B i => ∃ j : Nat, j ≤ rs.length ∧ i = .int .i64 j ∧ B = .bool (anyF ((rs.take j).drop m))) (fun _ i => rs.length - (intOf i).toNat)
                      case atStart => exact ⟨0, by omega, rfl, by simp [anyF]⟩
                      case round =>
                        obtain ⟨j, hj, rfl, hBv⟩ := hrel
                        obtain ⟨B, hB⟩ : ∃ B, B = (anyF ((rs.take j).drop m)) := ⟨_, rfl⟩
                        rw [← hB] at hBv
                        subst hBv
                        have hBH : Hid (B = (anyF ((rs.take j).drop m))) := hB
                        clear hB
                        by_cases hjl : j < rs.length
                        · obtain ⟨bI, oI, rj, xb, ea1, hrj, p0, p3, hch⟩ := flag_at HW.out.2.2.1 HE.out.2.2.2.1 HQ.out.2 hjl (fun i r h => HL.out.idx i r h)
                          subst ea1
                          have hfl : rj.flag = xb := by simp [Raw.flag, hch]
                          have hst := anyF_step (m := m) hrj
                          rw [hfl] at hst
                          have hstH : Hid (anyF ((rs.take (j + 1)).drop m) = (anyF ((rs.take j).drop m) || (decide (m ≤ j) && xb))) := hst
                          clear hrj hch hfl hst
                          by_cases hmj : m ≤ j
                          · have hd : decide (off + (m : Int) + 1 ≤ off + (j : Int) + 1) = true := by simp; omega
                            cases xb
                            · go_wp2
                              go_round
                              case rel => exact ⟨j + 1, by omega, by go_num, by rw [hBH.out, hstH.out]; simp⟩
                              case measure => simp [intOf]; omega
                            · go_wp2
                              go_round
                              case rel => exact ⟨j + 1, by omega, by go_num, by rw [hstH.out]; simp [hmj]⟩
                              case measure => simp [intOf]; omega
                          · have hd : decide (off + (m : Int) + 1 ≤ off + (j : Int) + 1) = false := by simp; omega
                            go_wp2
                            go_round
                            case rel => exact ⟨j + 1, by omega, by go_num, by rw [hBH.out, hstH.out]; simp [hmj]⟩
                            case measure => simp [intOf]; omega
                        · have hBf : B = (anyF (rs.drop m)) := by rw [hBH.out, List.take_of_length_le (by omega)]
                          clear hBH
                          have hBfH : Hid (B = anyF (rs.drop m)) := hBf
                          clear hBf
                          go_wp2
                          go_loop [25, 33] (fun B i => ∃ j : Nat, j ≤ ap.length ∧ i = .int .i64 j ∧ B = .bool (anyF (rs.drop m) || anyF ((ap.take j).drop k))) (fun _ i => ap.length - (intOf i).toNat)
                          case atStart => exact ⟨0, by omega, rfl, by rw [hBfH.out]; simp [anyF]⟩
                          case round =>
                            obtain ⟨j, hj, rfl, hBv⟩ := hrel
                            obtain ⟨B, hB⟩ : ∃ B, B = (anyF (rs.drop m) || anyF ((ap.take j).drop k)) := ⟨_, rfl⟩
                            rw [← hB] at hBv
                            subst hBv
                            have hBH4 : Hid (B = (anyF (rs.drop m) || anyF ((ap.take j).drop k))) := hB
                            clear hB
                            by_cases hjl : j < ap.length
                            · obtain ⟨bI, oI, rj, xb, ea1, hrj, p0, p3, hch⟩ := flag_at HW.out.2.2.2.1 HE.out.2.2.2.2.1 HQ.out.2 hjl (fun i r h => HC.out.2.2.2.2.2.2.1 i r h)
                              obtain ⟨rfl, rfl⟩ : ba = bI ∧ oa = oI := by simpa using ea1
                              have hfl : rj.flag = xb := by simp [Raw.flag, hch]
                              have hst := anyF_step (m := k) hrj
                              rw [hfl] at hst
                              have hstH : Hid (anyF ((ap.take (j + 1)).drop k) = (anyF ((ap.take j).drop k) || (decide (k ≤ j) && xb))) := hst
                              clear hrj hch hfl hst
                              by_cases hmj : k ≤ j
                              · have hd : decide (off + (m : Int) + 1 ≤ F + (j : Int)) = true := by simp; omega
                                cases xb
                                · go_wp2
                                  go_round
                                  case rel => exact ⟨j + 1, by omega, by go_num, by rw [hBH4.out, hstH.out]; simp⟩
                                  case measure => simp [intOf]; omega
                                · go_wp2
                                  go_round
                                  case rel => exact ⟨j + 1, by omega, by go_num, by rw [hstH.out]; simp [hmj]⟩
                                  case measure => simp [intOf]; omega
                              · have hd : decide (off + (m : Int) + 1 ≤ F + (j : Int)) = false := by simp; omega
                                go_wp2
                                go_round
                                case rel => exact ⟨j + 1, by omega, by go_num, by rw [hBH4.out, hstH.out]; simp [hmj]⟩
                                case measure => simp [intOf]; omega
                            · have hBf4 : B = (anyF (rs.drop m) || anyF (ap.drop k)) := by rw [hBH4.out, List.take_of_length_le (by omega)]
                              clear hBH4
                              have hBfH4 : Hid (B = (anyF (rs.drop m) || anyF (ap.drop k))) := hBf4
                              have hchB : ch = B := by rw [hBf4]; exact HC.out.2.2.2.1
                              clear hBf4
                              subst hchB
                              have hnv := own_len HQ.out.1
                              subst hnv
                              have hwln : (rs.take m ++ ap.drop k).length = nv := by have := HC.out.2.2.2.2.1; simp; omega
                              have hPl : Pl rs' (rs.take m ++ ap.drop k) := by rw [HC.out.1]; exact (HM.out.2.1.take m).append (HM.out.2.2.1.drop k)
                              have hokW : EntOk (rs.take m ++ ap.drop k) := fun x hx => by
                                rcases List.mem_append.1 hx with h | h
                                · exact HE.out.2.2.2.1 x (List.mem_of_mem_take h)
                                · exact HE.out.2.2.2.2.1 x (List.mem_of_mem_drop h)
                              have hW8 : Hid (Ents All wo (.slice av nv cv2) (rs.take m ++ ap.drop k) ∧ Pl rs' (rs.take m ++ ap.drop k) ∧ EntOk (rs.take m ++ ap.drop k) ∧ (rs.take m ++ ap.drop k).length = nv) := by
                                refine ⟨⟨?_, fun x hx => ?_⟩, hPl, hokW, hwln⟩
                                · have := Rd.own (T := All) HQ.out.1 (fun _ _ _ => trivial)
                                  rw [List.take_of_length_le (by omega)] at this
                                  rw [hwln]; exact this
                                · rcases List.mem_append.1 hx with h | h
                                  · exact Rd.fr (HW.out.2.2.1.2 x (List.mem_of_mem_take h)) HQ.out.2
                                  · exact Rd.fr (HW.out.2.2.2.1.2 x (List.mem_of_mem_drop h)) HQ.out.2
                              have hbx' := HQ.out.2.heap hbx.out trivial
                              have hrl2 : rs2.length = rs.length := HM.out.2.1.len
                              have hun := HC.out.2.1
                              have hsb := HC.out.2.2.1
                              rw [hrl2] at hun hsb
                              have HU : Hid (un' = (if m < rs.length then min un (off + m + 1) else un) ∧ sb' = (if m < rs.length then min sb (off + m) else sb)) := ⟨hun, hsb⟩
                              clear hwln hPl hokW hrl2 hun hsb
                              by_cases hmn : m < rs.length
                              · go_wp2_with fail
                                refine (c17 _ un (off + m + 1)).mono ?_
                                rintro e w' ⟨rfl, rfl⟩
                                go_wp2_with fail
                                refine (c17 _ sb (off + m)).mono ?_
                                rintro e w' ⟨rfl, rfl⟩
                                have hU := HU.out
                                rw [if_pos hmn, if_pos hmn] at hU
                                rw [← hU.1, ← hU.2]
                                clear hU
                                go_wp2_with (refine wpList_load_row rfl 38 (.tmp 17) rfl w6.heap.size rfl 38 _ (0, 0) _ hbx' Try.underlying38 rfl Try.size38 ?_)
                                refine (c18 (T := All) _ si st off un' sb' _ _ _ _ _ _ _ [] [] rs' (rs.take m ++ ap.drop k) (by simp) (by simp) (Rd.nil _ _) (Rd.nil _ _) (Rd.nil _ _) (Rd.nil _ _) (HW.out.1.fr HQ.out.2) hW8.out.1 (by rw [← hW8.out.2.1.chgs]; exact HW.out.2.1.fr HQ.out.2) hW8.out.2.2.1 HM.out.2.2.2 hW8.out.2.1 (by have := hW8.out.2.2.2; omega)).mono ?_
                                rintro e w9 ⟨rfl, g9⟩
                                go_wp2
                                go_ret
                                exact ⟨rfl, HW.out.2.2.2.2.tr (HQ.out.2.tr g9)⟩
                              · have hU := HU.out
                                rw [if_neg hmn, if_neg hmn] at hU
                                obtain ⟨hU1, hU2⟩ := hU
                                subst hU1 hU2
                                go_wp2_with (refine wpList_load_row rfl 38 (.tmp 17) rfl w6.heap.size rfl 38 _ (0, 0) _ hbx' Try.underlying38 rfl Try.size38 ?_)
                                refine (c18 (T := All) _ si st off _ _ _ _ _ _ _ _ _ [] [] rs' (rs.take m ++ ap.drop k) (by simp) (by simp) (Rd.nil _ _) (Rd.nil _ _) (Rd.nil _ _) (Rd.nil _ _) (HW.out.1.fr HQ.out.2) hW8.out.1 (by rw [← hW8.out.2.1.chgs]; exact HW.out.2.1.fr HQ.out.2) hW8.out.2.2.1 HM.out.2.2.2 hW8.out.2.1 (by have := hW8.out.2.2.2; omega)).mono ?_
                                rintro e w9 ⟨rfl, g9⟩
                                go_wp2
                                go_ret
                                exact ⟨rfl, HW.out.2.2.2.2.tr (HQ.out.2.tr g9)⟩
                | some t =>
                  have htt : (t != r.term) = true := by simpa using hm
                  clear hm
                  go_wp2
                  obtain ⟨W8, hW8⟩ : ∃ W8, W8 = (W7.drewN (nq5 + nq6)).alloc (.cells (made (.agg #[.int .u64 0, .int .u64 0, .slice none 0 0, .bool false]) (N * 4)) 47) := ⟨_, rfl⟩
                  have f78 : Fr All W7 W8 := by rw [hW8]; exact (Fr.drewN _ _ _).tr (Fr.alloc _ _ _)
                  have o8 : W8.ownsRow W7.heap.size 47 4 (.slice (some ⟨W7.heap.size, 0, none⟩) 0 N) 0 (flat ((rs.take m ++ ap.drop k).take 0)) := by
                    rw [hW8]; exact World.ownsRow_made (w := W7.drewN (nq5 + nq6)) _ N (Nat.le_refl _) (by unfold maxLen; omega) (size_made _ _)
                  rw [← hW8]
                  clear hW8
                  go_loopw [22, 30] (fun v i wr => ∃ q : Nat, q ≤ N ∧ i = .int .i64 q ∧ wr.ownsRow W7.heap.size 47 4 v q (flat ((rs.take m ++ ap.drop k).take q)) ∧ Fr All W7 wr) (fun _ i _ => N - (intOf i).toNat)
                  case atStart => exact ⟨0, by omega, rfl, o8, f78⟩
                  case round =>
                    obtain ⟨q, hq, rfl, hown, hfr⟩ := hrel
                    have HQ : Hid (wr.ownsRow W7.heap.size 47 4 _ q (flat ((rs.take m ++ ap.drop k).take q)) ∧ Fr All W7 wr) := ⟨hown, hfr⟩
                    obtain ⟨av, nv, cv2, ev2⟩ := own_shape hown
                    subst ev2
                    clear hown hfr o8 f78
                    by_cases hqN : q < N
                    · by_cases hqm : q < m
                      · obtain ⟨b1, o1, rq, xa, xn, xc, xb, ea1, hwl, p0, p1, p2, p3, hcv, hch⟩ := want_log HW.out.2.2.1 HE.out.2.2.2.1 HQ.out.2 hmle hqm (ap.drop k) ((off + 1 + (q : Int) - off).toNat - 1) (by omega)
                        subst ea1
                        have hHw : Hid ((rs.take m ++ ap.drop k)[q]? = some rq ∧ rq.cv = .slice xa xn xc ∧ rq.ch = .bool xb) := ⟨hwl, hcv, hch⟩
                        clear hwl hcv hch
                        go_wp2_with (first | (at_builtin; refine wpList_append_own _ rfl (.tmp 172) (.tmp 180) 23 rfl W7.heap.size 47 i47 (.agg #[.int .u64 0, .int .u64 0, .slice none 0 0, .bool false]) 4 48 Try.underlying23 hi47 hz0 hz1 hz2 rfl (by decide) _ q _ rfl (HQ.out.1.alloc _) ⟨wr.heap.size, 0, none⟩ 1 1 [.int .u64 rq.idx, .int .u64 rq.term, .slice xa xn xc, .bool xb] rfl rfl ?c1 ?c2 ?c3 ?c4 ?c5 ?_))
                        case c1 => exact arr4 _ _ _ _ _
                        case c2 => simp [Value.oneCell']
                        case c3 => unfold maxLen; omega
                        case c4 => omega
                        case c5 => have := HQ.out.2.size; simp; omega
                        intro v' w' hown' hgrow _
                        go_wp2
                        go_roundw
                        case rel => exact ⟨q + 1, by omega, by go_num, want_step HQ.out.1 HQ.out.2 hHw.out.1 hHw.out.2.1 hHw.out.2.2 hown' hgrow⟩
                        case measure => simp [intOf]; omega
                      · obtain ⟨rq, xa, xn, xc, xb, hwl, p0, p1, p2, p3, hcv, hch⟩ := want_app HW.out.2.2.2.1 HE.out.2.2.2.2.1 HQ.out.2 (k := k) (m := m) (q := q) (by omega) (by omega) (by have := HC.out.2.2.2.2.1; omega) (rs.take m) (by simp; omega) (off + 1 + (q : Int) - F).toNat (by have := HC.out.2.2.2.2.2.1; omega)
                        have hHw : Hid ((rs.take m ++ ap.drop k)[q]? = some rq ∧ rq.cv = .slice xa xn xc ∧ rq.ch = .bool xb) := ⟨hwl, hcv, hch⟩
                        have hFq : F ≤ off + 1 + (q : Int) := by have := HC.out.2.2.2.2.2.1; omega
                        have hFl : off + 1 + (q : Int) - F < (ap.length : Int) := by have := HC.out.2.2.2.2.2.1; have := HC.out.2.2.2.2.1; omega
                        clear hwl hcv hch
                        go_wp2_with (first | (at_builtin; refine wpList_append_own _ rfl (.tmp 182) (.tmp 189) 23 rfl W7.heap.size 47 i47 (.agg #[.int .u64 0, .int .u64 0, .slice none 0 0, .bool false]) 4 48 Try.underlying23 hi47 hz0 hz1 hz2 rfl (by decide) _ q _ rfl (HQ.out.1.alloc _) ⟨wr.heap.size, 0, none⟩ 1 1 [.int .u64 rq.idx, .int .u64 rq.term, .slice xa xn xc, .bool xb] rfl rfl ?d1 ?d2 ?d3 ?d4 ?d5 ?_))
                        case d1 => exact arr4 _ _ _ _ _
                        case d2 => simp [Value.oneCell']
                        case d3 => unfold maxLen; omega
                        case d4 => omega
                        case d5 => have := HQ.out.2.size; simp; omega
                        intro v' w' hown' hgrow _
                        go_wp2
                        go_roundw
                        case rel => exact ⟨q + 1, by omega, by go_num, want_step HQ.out.1 HQ.out.2 hHw.out.1 hHw.out.2.1 hHw.out.2.2 hown' hgrow⟩
                        case measure => simp [intOf]; omega
                    · have hqN' : q = N := by omega
                      subst hqN'
                      obtain ⟨wo, hwo⟩ : ∃ wo : World, wo = wr := ⟨_, rfl⟩
                      subst hwo
                      have hFk : F + (k : Int) = off + (m : Int) + 1 := HC.out.2.2.2.2.2.1
                      have HFk : Hid (F + (k : Int) = off + (m : Int) + 1) := hFk
                      clear hFk
                      go_wp2
                      go_loop [25, 32] (fun B i => ∃ j : Nat, j ≤ rs.length ∧ i = .int .i64 j ∧ B = .bool (anyF ((rs.take j).drop m))) (fun _ i => rs.length - (intOf i).toNat)
                      case atStart => exact ⟨0, by omega, rfl, by simp [anyF]⟩
                      case round =>
                        obtain ⟨j, hj, rfl, hBv⟩ := hrel
                        obtain ⟨B, hB⟩ : ∃ B, B = (anyF ((rs.take j).drop m)) := ⟨_, rfl⟩
                        rw [← hB] at hBv
                        subst hBv
                        have hBH : Hid (B = (anyF ((rs.take j).drop m))) := hB
                        clear hB
                        by_cases hjl : j < rs.length
                        · obtain ⟨bI, oI, rj, xb, ea1, hrj, p0, p3, hch⟩ := flag_at HW.out.2.2.1 HE.out.2.2.2.1 HQ.out.2 hjl (fun i r h => HL.out.idx i r h)
                          subst ea1
                          have hfl : rj.flag = xb := by simp [Raw.flag, hch]
                          have hst := anyF_step (m := m) hrj
                          rw [hfl] at hst
                          have hstH : Hid (anyF ((rs.take (j + 1)).drop m) = (anyF ((rs.take j).drop m) || (decide (m ≤ j) && xb))) := hst
                          clear hrj hch hfl hst
                          by_cases hmj : m ≤ j
                          · have hd : decide (off + (m : Int) + 1 ≤ off + (j : Int) + 1) = true := by simp; omega
                            cases xb
                            · go_wp2
                              go_round
                              case rel => exact ⟨j + 1, by omega, by go_num, by rw [hBH.out, hstH.out]; simp⟩
                              case measure => simp [intOf]; omega
                            · go_wp2
                              go_round
                              case rel => exact ⟨j + 1, by omega, by go_num, by rw [hstH.out]; simp [hmj]⟩
                              case measure => simp [intOf]; omega
                          · have hd : decide (off + (m : Int) + 1 ≤ off + (j : Int) + 1) = false := by simp; omega
                            go_wp2
                            go_round
                            case rel => exact ⟨j + 1, by omega, by go_num, by rw [hBH.out, hstH.out]; simp [hmj]⟩
                            case measure => simp [intOf]; omega
                        · have hBf : B = (anyF (rs.drop m)) := by rw [hBH.out, List.take_of_length_le (by omega)]
                          clear hBH
                          have hBfH : Hid (B = anyF (rs.drop m)) := hBf
                          clear hBf
                          go_wp2
                          go_loop [25, 33] (fun B i => ∃ j : Nat, j ≤ ap.length ∧ i = .int .i64 j ∧ B = .bool (anyF (rs.drop m) || anyF ((ap.take j).drop k))) (fun _ i => ap.length - (intOf i).toNat)
                          case atStart => exact ⟨0, by omega, rfl, by rw [hBfH.out]; simp [anyF]⟩
                          case round =>
                            obtain ⟨j, hj, rfl, hBv⟩ := hrel
                            obtain ⟨B, hB⟩ : ∃ B, B = (anyF (rs.drop m) || anyF ((ap.take j).drop k)) := ⟨_, rfl⟩
                            rw [← hB] at hBv
                            subst hBv
                            have hBH4 : Hid (B = (anyF (rs.drop m) || anyF ((ap.take j).drop k))) := hB
                            clear hB
                            by_cases hjl : j < ap.length
                            · obtain ⟨bI, oI, rj, xb, ea1, hrj, p0, p3, hch⟩ := flag_at HW.out.2.2.2.1 HE.out.2.2.2.2.1 HQ.out.2 hjl (fun i r h => HC.out.2.2.2.2.2.2.1 i r h)
                              obtain ⟨rfl, rfl⟩ : ba = bI ∧ oa = oI := by simpa using ea1
                              have hfl : rj.flag = xb := by simp [Raw.flag, hch]
                              have hst := anyF_step (m := k) hrj
                              rw [hfl] at hst
                              have hstH : Hid (anyF ((ap.take (j + 1)).drop k) = (anyF ((ap.take j).drop k) || (decide (k ≤ j) && xb))) := hst
                              clear hrj hch hfl hst
                              by_cases hmj : k ≤ j
                              · have hd : decide (off + (m : Int) + 1 ≤ F + (j : Int)) = true := by simp; omega
                                cases xb
                                · go_wp2
                                  go_round
                                  case rel => exact ⟨j + 1, by omega, by go_num, by rw [hBH4.out, hstH.out]; simp⟩
                                  case measure => simp [intOf]; omega
                                · go_wp2
                                  go_round
                                  case rel => exact ⟨j + 1, by omega, by go_num, by rw [hstH.out]; simp [hmj]⟩
                                  case measure => simp [intOf]; omega
                              · have hd : decide (off + (m : Int) + 1 ≤ F + (j : Int)) = false := by simp; omega
                                go_wp2
                                go_round
                                case rel => exact ⟨j + 1, by omega, by go_num, by rw [hBH4.out, hstH.out]; simp [hmj]⟩
                                case measure => simp [intOf]; omega
                            · have hBf4 : B = (anyF (rs.drop m) || anyF (ap.drop k)) := by rw [hBH4.out, List.take_of_length_le (by omega)]
                              clear hBH4
                              have hBfH4 : Hid (B = (anyF (rs.drop m) || anyF (ap.drop k))) := hBf4
                              have hchB : ch = B := by rw [hBf4]; exact HC.out.2.2.2.1
                              clear hBf4
                              subst hchB
                              have hnv := own_len HQ.out.1
                              subst hnv
                              have hwln : (rs.take m ++ ap.drop k).length = nv := by have := HC.out.2.2.2.2.1; simp; omega
                              have hPl : Pl rs' (rs.take m ++ ap.drop k) := by rw [HC.out.1]; exact (HM.out.2.1.take m).append (HM.out.2.2.1.drop k)
                              have hokW : EntOk (rs.take m ++ ap.drop k) := fun x hx => by
                                rcases List.mem_append.1 hx with h | h
                                · exact HE.out.2.2.2.1 x (List.mem_of_mem_take h)
                                · exact HE.out.2.2.2.2.1 x (List.mem_of_mem_drop h)
                              have hW8 : Hid (Ents All wo (.slice av nv cv2) (rs.take m ++ ap.drop k) ∧ Pl rs' (rs.take m ++ ap.drop k) ∧ EntOk (rs.take m ++ ap.drop k) ∧ (rs.take m ++ ap.drop k).length = nv) := by
                                refine ⟨⟨?_, fun x hx => ?_⟩, hPl, hokW, hwln⟩
                                · have := Rd.own (T := All) HQ.out.1 (fun _ _ _ => trivial)
                                  rw [List.take_of_length_le (by omega)] at this
                                  rw [hwln]; exact this
                                · rcases List.mem_append.1 hx with h | h
                                  · exact Rd.fr (HW.out.2.2.1.2 x (List.mem_of_mem_take h)) HQ.out.2
                                  · exact Rd.fr (HW.out.2.2.2.1.2 x (List.mem_of_mem_drop h)) HQ.out.2
                              have hbx' := HQ.out.2.heap hbx.out trivial
                              have hrl2 : rs2.length = rs.length := HM.out.2.1.len
                              have hun := HC.out.2.1
                              have hsb := HC.out.2.2.1
                              rw [hrl2] at hun hsb
                              have HU : Hid (un' = (if m < rs.length then min un (off + m + 1) else un) ∧ sb' = (if m < rs.length then min sb (off + m) else sb)) := ⟨hun, hsb⟩
                              clear hwln hPl hokW hrl2 hun hsb
                              by_cases hmn : m < rs.length
                              · go_wp2_with fail
                                refine (c17 _ un (off + m + 1)).mono ?_
                                rintro e w' ⟨rfl, rfl⟩
                                go_wp2_with fail
                                refine (c17 _ sb (off + m)).mono ?_
                                rintro e w' ⟨rfl, rfl⟩
                                have hU := HU.out
                                rw [if_pos hmn, if_pos hmn] at hU
                                rw [← hU.1, ← hU.2]
                                clear hU
                                go_wp2_with (refine wpList_load_row rfl 38 (.tmp 17) rfl w6.heap.size rfl 38 _ (0, 0) _ hbx' Try.underlying38 rfl Try.size38 ?_)
                                refine (c18 (T := All) _ si st off un' sb' _ _ _ _ _ _ _ [] [] rs' (rs.take m ++ ap.drop k) (by simp) (by simp) (Rd.nil _ _) (Rd.nil _ _) (Rd.nil _ _) (Rd.nil _ _) (HW.out.1.fr HQ.out.2) hW8.out.1 (by rw [← hW8.out.2.1.chgs]; exact HW.out.2.1.fr HQ.out.2) hW8.out.2.2.1 HM.out.2.2.2 hW8.out.2.1 (by have := hW8.out.2.2.2; omega)).mono ?_
                                rintro e w9 ⟨rfl, g9⟩
                                go_wp2
                                go_ret
                                exact ⟨rfl, HW.out.2.2.2.2.tr (HQ.out.2.tr g9)⟩
                              · have hU := HU.out
                                rw [if_neg hmn, if_neg hmn] at hU
                                obtain ⟨hU1, hU2⟩ := hU
                                subst hU1 hU2
                                go_wp2_with (refine wpList_load_row rfl 38 (.tmp 17) rfl w6.heap.size rfl 38 _ (0, 0) _ hbx' Try.underlying38 rfl Try.size38 ?_)
                                refine (c18 (T := All) _ si st off _ _ _ _ _ _ _ _ _ [] [] rs' (rs.take m ++ ap.drop k) (by simp) (by simp) (Rd.nil _ _) (Rd.nil _ _) (Rd.nil _ _) (Rd.nil _ _) (HW.out.1.fr HQ.out.2) hW8.out.1 (by rw [← hW8.out.2.1.chgs]; exact HW.out.2.1.fr HQ.out.2) hW8.out.2.2.1 HM.out.2.2.2 hW8.out.2.1 (by have := hW8.out.2.2.2; omega)).mono ?_
                                rintro e w9 ⟨rfl, g9⟩
                                go_wp2
                                go_ret
                                exact ⟨rfl, HW.out.2.2.2.2.tr (HQ.out.2.tr g9)⟩
            · have hall : ∀ r ∈ ap, termF si st off rs r.idx = some r.term := fun r hr => by
                obtain ⟨i, hi⟩ := mem_get hr
                exact hmH.out i r (by have := (List.getElem?_eq_some_iff.1 hi).1; omega) hi
              obtain ⟨rfl, rfl, rfl, rfl⟩ := mres_all HM.out.1 HM.out.2.1 HM.out.2.2.1 hall
              have hbx' := (Fr.drewN All W7 nq5).heap hbx.out trivial
              go_wp2_with (refine wpList_load_row rfl 38 (.tmp 17) rfl w6.heap.size rfl 38 _ (0, 0) _ hbx' Try.underlying38 rfl Try.size38 ?_)
              refine (c18 (T := All) _ si st off un sb _ _ _ _ _ _ _ [] [] rs2 rs (by simp) (by simp) (Rd.nil _ _) (Rd.nil _ _) (Rd.nil _ _) (Rd.nil _ _) (HW.out.1.fr (Fr.drewN _ _ _)) (HW.out.2.2.1.fr (Fr.drewN _ _ _)) (by rw [← HM.out.2.1.chgs]; exact HW.out.2.1.fr (Fr.drewN _ _ _)) HE.out.2.2.2.1 HM.out.2.2.2 HM.out.2.1 (by omega)).mono ?_
              rintro e w8 ⟨rfl, g8⟩
              go_wp2
              go_ret
              exact ⟨rfl, HW.out.2.2.2.2.tr ((Fr.drewN _ _ _).tr g8)⟩
end Go.Proofs.Qxb6601153a
