/-
  SEAT b6601153a. THE WALKS OF zzIn, zzOut, toLog. By an AI agent.
-/
import Derived.Test.Qxb6601153aPure
import Derived.Test.Qxb6601153aEnts
namespace Go.Proofs.Qxb6601153a
open Go.RowKit
set_option linter.unusedVariables false

theorem sc_lt {w w' : World} (h : Fr (Lt w.heap.size) w w') : ∀ x o, x < w.heap.size → w'.cell? ⟨x, o, none⟩ = w.cell? ⟨x, o, none⟩ := fun x o h1 => h.cell (a := ⟨x, o, none⟩) h1 h1
theorem Try.size38 : (Try.prog.info? 38).map (·.size) = some 9 := by kernel_rfl
theorem own_mono {w : World} {base base' : Nat} {e : TypeId} {size : Nat} {v : Value} {n : Nat} {xs : List Value} (h : w.ownsRow base e size v n xs) (hb : base' ≤ base) : w.ownsRow base' e size v n xs := by
  obtain ⟨h1, h2⟩ := h
  refine ⟨h1, ?_⟩
  rcases h2 with h2 | ⟨g, cap, cur, hv, hg, r⟩
  · exact .inl h2
  · exact .inr ⟨g, cap, cur, hv, by omega, r⟩
set_option maxRecDepth 100000 in
/-- zzIn. -/
theorem c34 (w : World) (si st off un sb : Int) (a1 a2 a3 a4 : Option Addr) (n1 n2 n3 n4 k1 k2 k3 k4 : Nat) :
    Calls Try.prog 34 #[.agg #[.int .u64 si, .int .u64 st, .slice a1 n1 k1, .slice a2 n2 k2, .int .u64 off, .slice a3 n3 k3, .slice a4 n4 k4, .int .u64 un, .int .u64 sb]] w fun e w' =>
      e = .returned (.pointer (some ⟨w.heap.size + 1, 0, none⟩)) ∧ Lg w' (w.heap.size + 1) si st (.slice a1 n1 k1) (.slice a2 n2 k2) off (.slice a3 n3 k3) (.slice a4 n4 k4) un sb ∧ Fr All w w' := by
  go_enter Try.func34, Try.ntmps34
  go_wp2
  go_ret
  exact ⟨rfl, by have := heap_alloc_new (w.alloc (.cells #[.int .u64 si, .int .u64 st, .slice a1 n1 k1, .slice a2 n2 k2, .int .u64 off, .slice a3 n3 k3, .slice a4 n4 k4, .int .u64 un, .int .u64 sb] 38)) (.cells #[.int .u64 si, .int .u64 st, .slice a1 n1 k1, .slice a2 n2 k2, .int .u64 off, .slice a3 n3 k3, .slice a4 n4 k4, .int .u64 un, .int .u64 sb] 82); simpa [Lg] using this, (Fr.alloc _ _ _).tr (Fr.alloc _ _ _)⟩

set_option maxRecDepth 100000 in
set_option maxHeartbeats 2000000 in
/-- zzOut. -/
theorem c36 (w : World) (L : Nat) (si st off un sb : Int) (a1 a2 a3 a4 : Option Addr) (n1 n2 n3 n4 k1 k2 k3 k4 : Nat) (h : Lg w L si st (.slice a1 n1 k1) (.slice a2 n2 k2) off (.slice a3 n3 k3) (.slice a4 n4 k4) un sb) :
    Calls Try.prog 36 #[.pointer (some ⟨L, 0, none⟩)] w fun e w' =>
      e = .returned (.agg #[.int .u64 si, .int .u64 st, .slice a1 n1 k1, .slice a2 n2 k2, .int .u64 off, .slice a3 n3 k3, .slice a4 n4 k4, .int .u64 un, .int .u64 sb]) ∧ Fr All w w' := by
  have q0 : w.cell? ⟨L, 0, none⟩ = some (.int .u64 si) := by rw [cell_of_row w L _ _ _ _ h]; rfl
  have q1 : w.cell? ⟨L, 1, none⟩ = some (.int .u64 st) := by rw [cell_of_row w L _ _ _ _ h]; rfl
  have q2 : w.cell? ⟨L, 2, none⟩ = some (.slice a1 n1 k1) := by rw [cell_of_row w L _ _ _ _ h]; rfl
  have q3 : w.cell? ⟨L, 3, none⟩ = some (.slice a2 n2 k2) := by rw [cell_of_row w L _ _ _ _ h]; rfl
  have q4 : w.cell? ⟨L, 4, none⟩ = some (.int .u64 off) := by rw [cell_of_row w L _ _ _ _ h]; rfl
  have q5 : w.cell? ⟨L, 5, none⟩ = some (.slice a3 n3 k3) := by rw [cell_of_row w L _ _ _ _ h]; rfl
  have q6 : w.cell? ⟨L, 6, none⟩ = some (.slice a4 n4 k4) := by rw [cell_of_row w L _ _ _ _ h]; rfl
  have q7 : w.cell? ⟨L, 7, none⟩ = some (.int .u64 un) := by rw [cell_of_row w L _ _ _ _ h]; rfl
  have q8 : w.cell? ⟨L, 8, none⟩ = some (.int .u64 sb) := by rw [cell_of_row w L _ _ _ _ h]; rfl
  have hl : L < w.heap.size := lt_of_block h
  clear h
  go_enter Try.func36, Try.ntmps36
  go_wp2
  go_region_held3 (fun w' => ∀ x o, x < w.heap.size → w'.cell? ⟨x, o, none⟩ = w.cell? ⟨x, o, none⟩) (exact sc_lt (by repeat (first | exact Fr.refl _ _ | refine Fr.tr ?_ (Fr.drew _ _) | refine Fr.tr ?_ (Fr.alloc _ _ _) | refine Fr.tr ?_ (Fr.setCell _ _ _ (by simp [Lt]))))) (fail)
  go_wp2
  refine bodyPost_ret (v := .agg #[.int .u64 si, .int .u64 st, .slice a1 n1 k1, .slice a2 n2 k2, .int .u64 off, .slice a3 n3 k3, .slice a4 n4 k4, .int .u64 un, .int .u64 sb]) (by simp [results, Try.results36, go_sem]) rfl ⟨rfl, (Fr.alloc _ _ _).tr (Fr.drew _ _)⟩

set_option maxRecDepth 100000 in
set_option maxHeartbeats 1000000 in
/-- toLog. -/
theorem c14 {T : Nat → Prop} (w : World) (si st off un sb : Int) (v3 v4 : Value) (rs : List Raw) (ns : List Int) (h3 : Ents T w v3 rs) (h4 : U64s T w v4 ns) (hok : EntOk rs) (hn : rs.length ≤ 1048576) (hm : ns.length ≤ 1048576) :
    Calls Try.prog 14 #[.int .u64 si, .int .u64 st, .int .u64 off, v3, v4, .int .u64 un, .int .u64 sb] w fun e w' => ∃ ev cv rs', e = .returned (.agg #[.int .u64 si, .int .u64 st, .slice none 0 0, .slice none 0 0, .int .u64 off, ev, cv, .int .u64 un, .int .u64 sb]) ∧ Fr All w w' ∧
      w'.ownsRow w.heap.size 61 4 ev rs'.length (flat rs') ∧ (∀ r ∈ rs', U8s (fun b => w.heap.size ≤ b ∧ ev.ownBlock ≠ some b ∧ cv.ownBlock ≠ some b) w' r.cv r.cmd) ∧ rs'.map Raw.plain = rs.map Raw.plain ∧ (∀ r ∈ rs', ∃ p, r.ch = .pointer p) ∧
      w'.ownsRow w.heap.size 22 1 cv ns.length (ns.map (Value.int .u64)) := by
  go_enter Try.func14, Try.ntmps14
  go_wp2_with fail
  refine (c15 (T := T) _ v3 rs (h3.fr (Fr.alloc _ _ _)) hn hok).mono ?_
  rintro e w1 ⟨ev, rs', rfl, f1, o1, u1, p1, hp1⟩
  obtain ⟨ae, ne, ce, rfl⟩ := own_shape o1
  go_wp2_with fail
  have fa : Fr All w w1 := (Fr.alloc _ _ _).tr f1
  refine (c10 (T := T) _ v4 ns (Rd.fr h4 fa.any) hm).mono ?_
  rintro e w2 ⟨cv, rfl, f2, o2⟩
  obtain ⟨ac, nc, cc, rfl⟩ := own_shape o2
  have fb : Fr All w w2 := fa.tr f2
  have s1 : w.heap.size < w1.heap.size := by have := f1.size; simp at this; omega
  have f12 : Fr All (w.alloc (.cells #[.int .u64 0, .int .u64 0, .slice none 0 0, .slice none 0 0, .int .u64 0, .slice none 0 0, .slice none 0 0, .int .u64 0, .int .u64 0] 38)) w2 := f1.tr f2
  have hB : w2.heap[w.heap.size]? = some (.cells #[.int .u64 0, .int .u64 0, .slice none 0 0, .slice none 0 0, .int .u64 0, .slice none 0 0, .slice none 0 0, .int .u64 0, .int .u64 0] 38 (0, 0)) := f12.heap (heap_alloc_new _ _) trivial
  have h1c : (#[Value.int .u64 si, .int .u64 st, .slice none 0 0, .slice none 0 0, .int .u64 off, .slice ae ne ce, .slice ac nc cc, .int .u64 un, .int .u64 sb] : Array Value).all (·.oneCell') = true := by simp [Value.oneCell']
  go_wp2_with (refine wpList_store_row rfl 38 (.tmp 14) (.tmp 25) rfl w.heap.size #[.int .u64 si, .int .u64 st, .slice none 0 0, .slice none 0 0, .int .u64 off, .slice ae ne ce, .slice ac nc cc, .int .u64 un, .int .u64 sb] rfl rfl 38 _ hB Try.size38 rfl h1c ?_)
  have hR := setRow_heap w2 w.heap.size _ #[.int .u64 si, .int .u64 st, .slice none 0 0, .slice none 0 0, .int .u64 off, .slice ae ne ce, .slice ac nc cc, .int .u64 un, .int .u64 sb] 38 _ hB
  have fR : Fr (fun b => b ≠ w.heap.size) w2 (w2.setRow w.heap.size #[.int .u64 si, .int .u64 st, .slice none 0 0, .slice none 0 0, .int .u64 off, .slice ae ne ce, .slice ac nc cc, .int .u64 un, .int .u64 sb]) := Fr.setRow _ _ _ (by simp)
  have o1' := own_fr o1 f2 (fun _ _ => trivial)
  have ne1 := own_ne o1' hB (by decide)
  have ne2 := own_ne o2 hB (by decide)
  refine bodyPost_ret (v := .agg #[.int .u64 si, .int .u64 st, .slice none 0 0, .slice none 0 0, .int .u64 off, .slice ae ne ce, .slice ac nc cc, .int .u64 un, .int .u64 sb]) (results_cell_row Try.results14 _ _ w.heap.size 38 _ (0, 0) _ rfl hR Try.underlying38 rfl Try.size38) rfl ⟨_, _, rs', rfl, ?_, ?_, ?_, p1, hp1, ?_⟩
  · exact fb.trans fR (fun i hi _ => ⟨trivial, by omega⟩)
  · exact own_mono (own_fr o1' fR (fun b hb e => ne1 (e ▸ hb))) (by simp)
  · intro r hr
    have hx : Rd (fun b => w.heap.size ≤ b ∧ (Value.slice ae ne ce).ownBlock ≠ some b ∧ (Value.slice ac nc cc).ownBlock ≠ some b ∧ b ≠ w.heap.size) w2 r.cv r.cmd.length (r.cmd.map (Value.int .u8)) := by
      refine Rd.fr (Rd.mono' (u1 r hr) (fun h0 e => by rw [List.map_eq_nil_iff] at e; rw [e] at h0; simp at h0) (fun i hi h => ⟨?_, h.2, fun e => ?_, ?_⟩)) f2.any
      · have := h.1; simp at this; omega
      · have := (o2.lt i e).1; omega
      · have := h.1; simp at this; omega
    exact Rd.mono (Rd.fr hx (fR.mono (fun i _ h => h.2.2.2))) (fun i h => ⟨h.1, h.2.1, h.2.2.1⟩)
  · exact own_mono (own_fr o2 fR (fun b hb e => ne2 (e ▸ hb))) (by omega)
end Go.Proofs.Qxb6601153a
