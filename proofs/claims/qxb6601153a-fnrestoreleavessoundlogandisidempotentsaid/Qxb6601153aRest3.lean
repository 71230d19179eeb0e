import Derived.Test.Qxb6601153aRest2
import Derived.Test.Qxb6601153aPl
namespace Go.Proofs.Qxb6601153a
open Go.RowKit
set_option linter.unusedVariables false

theorem rsR_mem {si st off : Int} {rs : List Raw} {i t : Int} {r : Raw} (h : r ∈ rsR si st off rs i t) : r ∈ rs := by
  unfold rsR at h
  split at h
  · exact List.mem_of_mem_drop h
  · simp at h
theorem rs_unknown {si st off un sb i t cm U S : Int} {rs rs2 rs' : List Raw} (hU : U = rsU si st off rs2 un i t) (hS : S = rsS si st off rs2 sb i t cm) (hR : rs' = rsR si st off rs2 i t) (hp : Pl rs2 rs) (hk : termF si st off rs i ≠ some t) : U = succU i ∧ S = min sb cm ∧ rs' = [] := by
  rw [← hp.termF] at hk
  refine ⟨by rw [hU]; unfold rsU; rw [if_neg hk], by rw [hS]; unfold rsS; rw [if_neg hk], by rw [hR]; unfold rsR; rw [if_neg hk]⟩
theorem rs_known {si st off un sb i t cm U S : Int} {rs rs2 rs' : List Raw} (hU : U = rsU si st off rs2 un i t) (hS : S = rsS si st off rs2 sb i t cm) (hR : rs' = rsR si st off rs2 i t) (hp : Pl rs2 rs) (h1 : off ≤ si) (h2 : si ≤ off + rs.length) (hk : termF si st off rs i = some t) :
    ∃ m : Nat, i = off + m ∧ m ≤ rs.length ∧ U = max un (succU i) ∧ S = sb ∧ rs' = rs2.drop m ∧ Pl rs' (rs.drop m) := by
  have hrng := termF_rng h1 h2 hk
  rw [← hp.termF] at hk
  refine ⟨(i - off).toNat, by omega, by omega, by rw [hU]; unfold rsU; rw [if_pos hk], by rw [hS]; unfold rsS; rw [if_pos hk], by rw [hR]; unfold rsR; rw [if_pos hk], ?_⟩
  rw [hR]; unfold rsR; rw [if_pos hk]; exact hp.drop _

set_option maxRecDepth 100000 in
set_option maxHeartbeats 2000000 in
/-- ZZRestore. -/
theorem c27 {T : Nat → Prop} (w : World) (si st off un sb : Int) (a1 a2 b1 b2 : Option Addr) (n1 n2 k1 k2 m1 m2 j1 j2 : Nat) (ev cv : Value) (rs : List Raw) (i t cm : Int)
    (hE : Rd T w ev rs.length (flat rs)) (hC : U64s T w cv (chgs rs)) (c0 : 0 ≤ off) (c1 : off + rs.length < 18446744073709551615 ∨ rs = []) (c2 : rs.length ≤ 1048576) (c3 : off ≤ si) (c4 : si ≤ off + rs.length) (c5 : off ≤ 18446744073709551615) (i0 : 0 ≤ i) (i1 : i ≤ 18446744073709551615) (hone : ∀ u ∈ flat rs, u.oneCell' = true) (hidx : Runs off rs) :
    Calls Try.prog 27 #[.agg #[.int .u64 si, .int .u64 st, .slice a1 n1 k1, .slice a2 n2 k2, .int .u64 off, ev, cv, .int .u64 un, .int .u64 sb], .agg #[.int .u64 i, .int .u64 t, .slice b1 m1 j1, .slice b2 m2 j2], .int .u64 cm] w fun e w' => ∃ ev' cv',
      e = .returned (.agg #[.int .u64 i, .int .u64 t, .slice b1 m1 j1, .slice b2 m2 j2, .int .u64 i, ev', cv', .int .u64 (rsU si st off rs un i t), .int .u64 (rsS si st off rs sb i t cm)]) ∧
      Rd All w' ev' (rsR si st off rs i t).length (flat (rsR si st off rs i t)) ∧ U64s All w' cv' (chgs (rsR si st off rs i t)) ∧ Fr All w w' := by
  obtain ⟨ae, ne, ce, rfl⟩ : ∃ a n c, ev = .slice a n c := by obtain ⟨a, c, rfl, _⟩ := hE; exact ⟨_, _, _, rfl⟩
  obtain ⟨ac, nc, cc, rfl⟩ : ∃ a n c, cv = .slice a n c := by obtain ⟨a, c, rfl, _⟩ := hC; exact ⟨_, _, _, rfl⟩
  go_enter Try.func27, Try.ntmps27
  go_wp2_with fail
  refine (c34 _ si st off un sb a1 a2 ae ac n1 n2 ne nc k1 k2 ce cc).mono ?_
  rintro e w1 ⟨rfl, hL, f1⟩
  simp only [World.size_alloc] at hL
  have hR1 := f1.heap (heap_alloc_new ((w.alloc (.cells #[.int .u64 si, .int .u64 st, .slice a1 n1 k1, .slice a2 n2 k2, .int .u64 off, .slice ae ne ce, .slice ac nc cc, .int .u64 un, .int .u64 sb] 38)).alloc (.cells #[.int .u64 i, .int .u64 t, .slice b1 m1 j1, .slice b2 m2 j2] 35)) (.cells #[.int .u64 0, .int .u64 0, .slice none 0 0, .slice none 0 0, .int .u64 0, .slice none 0 0, .slice none 0 0, .int .u64 0, .int .u64 0] 38)) trivial
  simp only [World.size_alloc] at hR1
  have hX1 := f1.heap (Fr.heap (Fr.alloc All _ (.cells #[.int .u64 0, .int .u64 0, .slice none 0 0, .slice none 0 0, .int .u64 0, .slice none 0 0, .slice none 0 0, .int .u64 0, .int .u64 0] 38)) (heap_alloc_new (w.alloc (.cells #[.int .u64 si, .int .u64 st, .slice a1 n1 k1, .slice a2 n2 k2, .int .u64 off, .slice ae ne ce, .slice ac nc cc, .int .u64 un, .int .u64 sb] 38)) (.cells #[.int .u64 i, .int .u64 t, .slice b1 m1 j1, .slice b2 m2 j2] 35)) trivial) trivial
  simp only [World.size_alloc] at hX1
  have bx1 : w1.cell? ⟨w.heap.size + 1, 0, none⟩ = some (.int .u64 i) := by rw [cell_of_row w1 _ _ _ _ _ hX1]; rfl
  have bx2 : w1.cell? ⟨w.heap.size + 1, 1, none⟩ = some (.int .u64 t) := by rw [cell_of_row w1 _ _ _ _ _ hX1]; rfl
  have bx3 : w1.cell? ⟨w.heap.size + 1, 2, none⟩ = some (.slice b1 m1 j1) := by rw [cell_of_row w1 _ _ _ _ _ hX1]; rfl
  have bx4 : w1.cell? ⟨w.heap.size + 1, 3, none⟩ = some (.slice b2 m2 j2) := by rw [cell_of_row w1 _ _ _ _ _ hX1]; rfl
  have fA : Fr All w w1 := (((Fr.alloc _ _ _).tr (Fr.alloc _ _ _)).tr (Fr.alloc _ _ _)).tr f1
  have hsz : w.heap.size + 1 + 1 + 1 + 1 < w1.heap.size := lt_of_block hL
  have hx : ∀ {n : Nat} {xs : List Raw}, n = xs.length → 0 < n → flat xs ≠ [] := fun hn h0 e => by have := congrArg List.length e; rw [length_flat] at this; simp at this; omega
  have hE1 : Rd (fun b => b ≠ w.heap.size + 1 + 1 + 1 + 1 ∧ b ≠ w.heap.size + 1 + 1) w1 (.slice ae ne ce) rs.length (flat rs) :=
    Rd.fr (Rd.mono' hE (hx rfl) (fun i hi h => by constructor <;> omega)) fA.any
  have hC1 : U64s (fun b => b ≠ w.heap.size + 1 + 1 + 1 + 1 ∧ b ≠ w.heap.size + 1 + 1) w1 (.slice ac nc cc) (chgs rs) :=
    Rd.fr (Rd.mono' hC (fun h0 e => by have := congrArg List.length e; simp at this; simp [this] at h0) (fun i hi h => by constructor <;> omega)) fA.any
  go_wp2_with fail
  refine (c42 w1 (w.heap.size + 1 + 1 + 1 + 1) si st (.slice a1 n1 k1) (.slice a2 n2 k2) off (.slice ae ne ce) (.slice ac nc cc) un sb rs i t cm b1 b2 m1 m2 j1 j2 (T := fun b => b ≠ w.heap.size + 1 + 1 + 1 + 1 ∧ b ≠ w.heap.size + 1 + 1) (fun h => h.1 rfl) (fun b hb => by constructor <;> omega) hL hE1 hC1 c0 c1 c2 c3 c4 c5 i0 i1 hone hidx).mono ?_
  rintro e w2 ⟨rfl, ev', cv', hL2, hE2, hC2, f2⟩
  obtain ⟨ae', ne', ce', rfl⟩ : ∃ a n c, ev' = .slice a n c := by obtain ⟨a, c, rfl, _⟩ := hE2; exact ⟨_, _, _, rfl⟩
  obtain ⟨ac', nc', cc', rfl⟩ : ∃ a n c, cv' = .slice a n c := by obtain ⟨a, c, rfl, _⟩ := hC2; exact ⟨_, _, _, rfl⟩
  obtain ⟨U, hU⟩ : ∃ U, U = rsU si st off rs un i t := ⟨_, rfl⟩
  obtain ⟨S, hS⟩ : ∃ S, S = rsS si st off rs sb i t cm := ⟨_, rfl⟩
  rw [← hU, ← hS] at hL2
  have hUS : Hid (U = rsU si st off rs un i t ∧ S = rsS si st off rs sb i t cm) := ⟨hU, hS⟩
  clear hU hS
  go_wp2_with fail
  refine (c36 w2 (w.heap.size + 1 + 1 + 1 + 1) i t i U S b1 b2 ae' ac' m1 m2 ne' nc' j1 j2 ce' cc' hL2).mono ?_
  rintro e w3 ⟨rfl, f3⟩
  have hR2 := f2.heap hR1 (by omega)
  have hR3 := f3.heap hR2 trivial
  have h1c : (#[Value.int .u64 i, .int .u64 t, .slice b1 m1 j1, .slice b2 m2 j2, .int .u64 i, .slice ae' ne' ce', .slice ac' nc' cc', .int .u64 U, .int .u64 S] : Array Value).all (·.oneCell') = true := by simp [Value.oneCell']
  go_wp2_with (refine wpList_store_row rfl 38 (.tmp 6) (.tmp 15) rfl (w.heap.size + 1 + 1) #[.int .u64 i, .int .u64 t, .slice b1 m1 j1, .slice b2 m2 j2, .int .u64 i, .slice ae' ne' ce', .slice ac' nc' cc', .int .u64 U, .int .u64 S] rfl rfl 38 _ hR3 Try.size38 rfl h1c ?_)
  have hR4 := setRow_heap w3 (w.heap.size + 1 + 1) _ #[.int .u64 i, .int .u64 t, .slice b1 m1 j1, .slice b2 m2 j2, .int .u64 i, .slice ae' ne' ce', .slice ac' nc' cc', .int .u64 U, .int .u64 S] 38 _ hR3
  have f4 : Fr (fun b => b ≠ w.heap.size + 1 + 1) w3 (w3.setRow (w.heap.size + 1 + 1) #[.int .u64 i, .int .u64 t, .slice b1 m1 j1, .slice b2 m2 j2, .int .u64 i, .slice ae' ne' ce', .slice ac' nc' cc', .int .u64 U, .int .u64 S]) := Fr.setRow _ _ _ (by simp)
  refine bodyPost_ret (v := .agg #[.int .u64 i, .int .u64 t, .slice b1 m1 j1, .slice b2 m2 j2, .int .u64 i, .slice ae' ne' ce', .slice ac' nc' cc', .int .u64 U, .int .u64 S]) (results_cell_row Try.results27 _ _ (w.heap.size + 1 + 1) 38 _ (0, 0) _ rfl hR4 Try.underlying38 rfl Try.size38) rfl ⟨_, _, by rw [hUS.out.1, hUS.out.2], ?_, ?_, ?_⟩
  · exact (Rd.fr (Rd.fr hE2 f3.any) (f4.mono fun _ _ h => h.2)).any
  · exact Rd.any (Rd.fr (Rd.fr hC2 f3.any) (f4.mono fun _ _ h => h.2))
  · have g1 : Fr All w w2 := fA.trans f2 (fun i hi h => ⟨trivial, by omega⟩)
    exact (g1.tr f3.any).trans f4 (fun i hi h => ⟨h, by omega⟩)
end Go.Proofs.Qxb6601153a
