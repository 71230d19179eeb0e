/-
  SEAT b6601232a. THE ROW OF FnLedgerInvariantsKeptByEveryStep: the frame after the guide's own shell. By an AI agent.
-/
import Derived.Test.Qxb6601232aRows
import Derived.Test.Qxb6601232aLaw6
import Derived.Test.Qxb6601232aOpen2
import Derived.ProofKit
import Derived.OpenShut
import Derived.ShutString
import Derived.ChangeOld
import Derived.Below
namespace Go.Proofs.Qxb6601232a
open Go.ChangeShapes Go.WideShapes Go.ChangeAt Go.RowKit
set_option linter.unusedVariables false
set_option linter.unusedSimpArgs false

theorem law6_own : ownKnob Try.prog.godebug = none := by kernel_rfl
theorem law6_laidOut : laidOutB Try.prog = true := by kernel_rfl

set_option maxRecDepth 100000 in
theorem law6_lifted (os : Os) (started : os.Started) (H : Type) (enc : TypeId × Value → H) :
    ReturnsInHanded {} Try.checked os 6 .any (Rows.fnLedgerInvariantsKeptByEveryStepSpec.pre6 enc Try.prog Try.f6 Rows.fnLedgerInvariantsKeptByEveryStepRow.domain false) (Rows.fnLedgerInvariantsKeptByEveryStepSpec.post enc Try.prog Try.f6 false true false false) := by
  refine returnsInHanded_of_change (C := Try.checked) law6_own started (by kernel_rfl) Try.func6
    (ChangeSpec.witness6 (enc := enc) (C := Try.checked) false ⟨#[], #[.slice none 0 0, .slice none 0 0, .slice none 0 0, .slice none 0 0, .slice none 0 0, .int .i64 0, .slice none 0 0, .slice none 0 0, .slice none 0 0, .slice none 0 0, .slice none 0 0], []⟩ 8 (by kernel_rfl) (by kernel_rfl) (by kernel_rfl) (by kernel_rfl)) ?_
  intro W base args ds gs before hval0 hW hcnd _
  have hval : ∀ (j : Nat) t v, Try.f6.params[j]? = some t → args[j]? = some v → Value.okWide Try.prog W .any base t v := hval0
  have hW' := hW
  obtain ⟨p, q, hA0, hV, rfl, hfz, hnd⟩ := hW
  have hA : DataW.TrodAll enc Try.prog W 0 (fun _ => true) true Try.f6.params.toList args.toList ds p := hA0
  rw [Try.params6] at hA hval
  obtain ⟨v0, vs0, d0, ds0, p0, q0, hargs, rfl, rfl, h0, r0⟩ := trodAll_cons hA
  obtain ⟨v1, vs1, d1, ds1, p1, q1, rfl, rfl, rfl, h1, r1⟩ := trodAll_cons r0
  obtain ⟨v2, vs2, d2, ds2, p2, q2, rfl, rfl, rfl, h2, r2⟩ := trodAll_cons r1
  obtain ⟨v3, vs3, d3, ds3, p3, q3, rfl, rfl, rfl, h3, r3⟩ := trodAll_cons r2
  obtain ⟨v4, vs4, d4, ds4, p4, q4, rfl, rfl, rfl, h4, r4⟩ := trodAll_cons r3
  obtain ⟨v5, vs5, d5, ds5, p5, q5, rfl, rfl, rfl, h5, r5⟩ := trodAll_cons r4
  obtain ⟨v6, vs6, d6, ds6, p6, q6, rfl, rfl, rfl, h6, r6⟩ := trodAll_cons r5
  obtain ⟨v7, vs7, d7, ds7, p7, q7, rfl, rfl, rfl, h7, r7⟩ := trodAll_cons r6
  obtain ⟨v8, vs8, d8, ds8, p8, q8, rfl, rfl, rfl, h8, r8⟩ := trodAll_cons r7
  obtain ⟨v9, vs9, d9, ds9, p9, q9, rfl, rfl, rfl, h9, r9⟩ := trodAll_cons r8
  obtain ⟨v10, vs10, d10, ds10, p10, q10, rfl, rfl, rfl, h10, r10⟩ := trodAll_cons r9
  obtain ⟨rfl, rfl, rfl⟩ := trodAll_nil r10
  obtain rfl : args = #[v0, v1, v2, v3, v4, v5, v6, v7, v8, v9, v10] := by cases args; simp_all
  obtain ⟨rfl, rfl⟩ := trodVars_none hV
  have k0 := h0
  have lt0 : ∀ x ∈ p0, x.block < W.heap.size := by obtain ⟨m, hm⟩ := k0; exact DataW.trod_lt m _ _ _ hm
  obtain ⟨a0, len0, cap0, rfl⟩ := okWide_slice Try.underlying22 (hval 0 22 v0 rfl rfl)
  obtain ⟨ns0, ee0, ew0⟩ : ∃ ns, Strs All W (.slice a0 len0 cap0) ns ∧ ∀ n ∈ ns, n.size ≤ maxLen := by obtain ⟨fuel, hf⟩ := h0; exact strs_of Try.underlying22 Try.underlying9 Try.cells9 (by simpa [Value.cells] using hf)
  have k1 := h1
  have lt1 : ∀ x ∈ p1, x.block < W.heap.size := by obtain ⟨m, hm⟩ := k1; exact DataW.trod_lt m _ _ _ hm
  obtain ⟨a1, len1, cap1, rfl⟩ := okWide_slice Try.underlying23 (hval 1 23 v1 rfl rfl)
  obtain ⟨ns1, ee1, ew1⟩ : ∃ ns, I64s All W (.slice a1 len1 cap1) ns ∧ ∀ n ∈ ns, (Lit.int .i64 n).wf = true := by obtain ⟨fuel, hf⟩ := h1; exact nums_of Try.underlying23 Try.underlying2 Try.cells2 (by simpa [Value.cells] using hf)
  have k2 := h2
  have lt2 : ∀ x ∈ p2, x.block < W.heap.size := by obtain ⟨m, hm⟩ := k2; exact DataW.trod_lt m _ _ _ hm
  obtain ⟨a2, len2, cap2, rfl⟩ := okWide_slice Try.underlying24 (hval 2 24 v2 rfl rfl)
  obtain ⟨ns2, ee2, ew2⟩ : ∃ ns, I64s All W (.slice a2 len2 cap2) ns ∧ ∀ n ∈ ns, (Lit.int .i64 n).wf = true := by obtain ⟨fuel, hf⟩ := h2; exact nums_of Try.underlying24 Try.underlying3 Try.cells3 (by simpa [Value.cells] using hf)
  have k3 := h3
  have lt3 : ∀ x ∈ p3, x.block < W.heap.size := by obtain ⟨m, hm⟩ := k3; exact DataW.trod_lt m _ _ _ hm
  obtain ⟨a3, len3, cap3, rfl⟩ := okWide_slice Try.underlying25 (hval 3 25 v3 rfl rfl)
  obtain ⟨ns3, ee3, ew3⟩ : ∃ ns, Bls All W (.slice a3 len3 cap3) ns ∧ ∀ n ∈ ns, True := by obtain ⟨fuel, hf⟩ := h3; exact bools_of Try.underlying25 Try.underlying4 Try.cells4 (by simpa [Value.cells] using hf)
  have k4 := h4
  have lt4 : ∀ x ∈ p4, x.block < W.heap.size := by obtain ⟨m, hm⟩ := k4; exact DataW.trod_lt m _ _ _ hm
  obtain ⟨a4, len4, cap4, rfl⟩ := okWide_slice Try.underlying25 (hval 4 25 v4 rfl rfl)
  obtain ⟨ns4, ee4, ew4⟩ : ∃ ns, Bls All W (.slice a4 len4 cap4) ns ∧ ∀ n ∈ ns, True := by obtain ⟨fuel, hf⟩ := h4; exact bools_of Try.underlying25 Try.underlying4 Try.cells4 (by simpa [Value.cells] using hf)
  obtain ⟨a5, rfl, rfl, rfl, w5⟩ := open_int Try.underlying3 (hval 5 3 v5 rfl rfl) h5
  have k6 := h6
  have lt6 : ∀ x ∈ p6, x.block < W.heap.size := by obtain ⟨m, hm⟩ := k6; exact DataW.trod_lt m _ _ _ hm
  obtain ⟨a6, len6, cap6, rfl⟩ := okWide_slice Try.underlying26 (hval 6 26 v6 rfl rfl)
  obtain ⟨ns6, ee6, ew6⟩ : ∃ ns, U64s All W (.slice a6 len6 cap6) ns ∧ ∀ n ∈ ns, (Lit.int .u64 n).wf = true := by obtain ⟨fuel, hf⟩ := h6; exact nums_of Try.underlying26 Try.underlying53 Try.cells53 (by simpa [Value.cells] using hf)
  have k7 := h7
  have lt7 : ∀ x ∈ p7, x.block < W.heap.size := by obtain ⟨m, hm⟩ := k7; exact DataW.trod_lt m _ _ _ hm
  obtain ⟨a7, len7, cap7, rfl⟩ := okWide_slice Try.underlying73 (hval 7 73 v7 rfl rfl)
  obtain ⟨ns7, ee7, ew7⟩ : ∃ ns, U8s All W (.slice a7 len7 cap7) ns ∧ ∀ n ∈ ns, (Lit.int .u8 n).wf = true := by obtain ⟨fuel, hf⟩ := h7; exact nums_of Try.underlying73 Try.underlying5 Try.cells5 (by simpa [Value.cells] using hf)
  have k8 := h8
  have lt8 : ∀ x ∈ p8, x.block < W.heap.size := by obtain ⟨m, hm⟩ := k8; exact DataW.trod_lt m _ _ _ hm
  obtain ⟨a8, len8, cap8, rfl⟩ := okWide_slice Try.underlying61 (hval 8 61 v8 rfl rfl)
  obtain ⟨ns8, ee8, ew8⟩ : ∃ xss, Nest Value.string All W (.slice a8 len8 cap8) xss ∧ ∀ xs ∈ xss, ∀ n ∈ xs, n.size ≤ maxLen := by obtain ⟨fuel, hf⟩ := h8; exact nstrs_of (by simpa [Value.cells] using hf)
  have k9 := h9
  have lt9 : ∀ x ∈ p9, x.block < W.heap.size := by obtain ⟨m, hm⟩ := k9; exact DataW.trod_lt m _ _ _ hm
  obtain ⟨a9, len9, cap9, rfl⟩ := okWide_slice Try.underlying61 (hval 9 61 v9 rfl rfl)
  obtain ⟨ns9, ee9, ew9⟩ : ∃ xss, Nest Value.string All W (.slice a9 len9 cap9) xss ∧ ∀ xs ∈ xss, ∀ n ∈ xs, n.size ≤ maxLen := by obtain ⟨fuel, hf⟩ := h9; exact nstrs_of (by simpa [Value.cells] using hf)
  have k10 := h10
  have lt10 : ∀ x ∈ p10, x.block < W.heap.size := by obtain ⟨m, hm⟩ := k10; exact DataW.trod_lt m _ _ _ hm
  obtain ⟨a10, len10, cap10, rfl⟩ := okWide_slice Try.underlying61 (hval 10 61 v10 rfl rfl)
  obtain ⟨ns10, ee10, ew10⟩ : ∃ xss, Nest Value.string All W (.slice a10 len10 cap10) xss ∧ ∀ xs ∈ xss, ∀ n ∈ xs, n.size ≤ maxLen := by obtain ⟨fuel, hf⟩ := h10; exact nstrs_of (by simpa [Value.cells] using hf)
  clear hA0 hval0
  refine (c6 W _ _ _ _ _ _ _ _ _ _ ns0 ns1 ns2 ns3 ns4 a5 ns6 ns7 ns8 ns9 ns10 ee0 ee1 ee2 ee3 ee4 ee6 ee7 ee8 ee9 ee10 ew0 ew6 ew8 ew9 ew10).mono fun e W' ⟨he, bel0⟩ => ?_
  have bel := bel0.below
  subst he
  exact ⟨_, rfl, _, _, _, [], _, [], hW', trodAll_mk1 (shut_bool Try.underlying4 _), (trodAll_cons_mk (Below.trod law6_laidOut (by kernel_rfl) (of_decide_eq_true (by kernel_rfl)) k0 bel lt0) (trodAll_cons_mk (Below.trod law6_laidOut (by kernel_rfl) (of_decide_eq_true (by kernel_rfl)) k1 bel lt1) (trodAll_cons_mk (Below.trod law6_laidOut (by kernel_rfl) (of_decide_eq_true (by kernel_rfl)) k2 bel lt2) (trodAll_cons_mk (Below.trod law6_laidOut (by kernel_rfl) (of_decide_eq_true (by kernel_rfl)) k3 bel lt3) (trodAll_cons_mk (Below.trod law6_laidOut (by kernel_rfl) (of_decide_eq_true (by kernel_rfl)) k4 bel lt4) (trodAll_cons_mk (shut_int Try.underlying3 w5) (trodAll_cons_mk (Below.trod law6_laidOut (by kernel_rfl) (of_decide_eq_true (by kernel_rfl)) k6 bel lt6) (trodAll_cons_mk (Below.trod law6_laidOut (by kernel_rfl) (of_decide_eq_true (by kernel_rfl)) k7 bel lt7) (trodAll_cons_mk (Below.trod law6_laidOut (by kernel_rfl) (of_decide_eq_true (by kernel_rfl)) k8 bel lt8) (trodAll_cons_mk (Below.trod law6_laidOut (by kernel_rfl) (of_decide_eq_true (by kernel_rfl)) k9 bel lt9) (trodAll_cons_mk (Below.trod law6_laidOut (by kernel_rfl) (of_decide_eq_true (by kernel_rfl)) k10 bel lt10) trodAll_mk0))))))))))), rfl, bel.frame _, fun h => by cases h⟩

/-- THE STATEMENT. -/
theorem law6 : Rows.FnLedgerInvariantsKeptByEveryStepSaid :=
  OpenClaim.holds_of_wide 6 Try.f6 rfl rfl rfl rfl rfl rfl rfl ⟨rfl, rfl, rfl, rfl, rfl⟩ rfl rfl rfl rfl rfl (by kernel_rfl) Try.func6 (by kernel_rfl)
    (of_decide_eq_true (by kernel_rfl)) (by unfold Func.isWrapper; first | (rw [if_pos (by decide +kernel)]; kernel_rfl) | (rw [if_neg (by decide +kernel)]; exact ⟨rfl, rfl⟩))
    (fun os started H enc _ => law6_lifted os started H enc)
#print axioms law6
end Go.Proofs.Qxb6601232a
