/-
  SEAT b6601153a. THE WALKS OF cloneEnts, toEntries, toIDs. By an AI agent.
-/
import Derived.Test.Qxb6601153aClone
namespace Go.Proofs.Qxb6601153a
open Go.RowKit
set_option linter.unusedVariables false

set_option maxRecDepth 100000 in
set_option maxHeartbeats 1000000 in
/-- cloneEnts. -/
theorem c9 {T : Nat → Prop} (w : World) (v : Value) (rs : List Raw) (h : Ents T w v rs) (hn : rs.length ≤ 1048576) (hok : EntOk rs) :
    Calls Try.prog 9 #[v] w fun e w' => ∃ v' rs', e = .returned v' ∧ Fr All w w' ∧ w'.ownsRow w.heap.size 47 4 v' rs'.length (flat rs') ∧ (∀ r ∈ rs', U8s (New w) w' r.cv r.cmd) ∧ rs'.map Raw.plain = rs.map Raw.plain ∧ (∀ r ∈ rs', ∃ b, r.ch = .bool b) := by
  obtain ⟨h, hcmd⟩ := h
  obtain ⟨ao, c, rfl, _, _, hnil, hp⟩ := h
  have h1 := Lib.run_eql_slice_nil (P := Try.prog)
  cases ao with
  | none =>
    have hc0 := hnil rfl
    have hb0 : rs = [] := by
      apply List.eq_nil_of_length_eq_zero; omega
    subst hb0 hc0
    clear hnil hp
    go_enter Try.func9, Try.ntmps9
    go_wp2
    go_ret
    exact ⟨_, [], rfl, Fr.refl _ _, World.ownsRow_nil _ _ _ _, by simp, rfl, by simp⟩
  | some a =>
    have hmk := run_mk (P := Try.prog) Try.underlying23 Try.info47 rs.length (by omega) (by unfold maxLen; omega)
    clear hnil
    have hpH : Hid (0 < rs.length → ∃ b off, some a = some ⟨b, off, none⟩ ∧ T b ∧ ∀ j u, (flat rs)[j]? = some u → w.cell? ⟨b, off + j, none⟩ = some u) := hp
    have hcH : Hid (∀ r ∈ rs, U8s T w r.cv r.cmd) := hcmd
    clear hp hcmd
    go_enter Try.func9, Try.ntmps9
    go_wp2
    go_loopw [4] (fun i wr => ∃ k : Nat, k ≤ rs.length ∧ i = .int .i64 k ∧ Fr All w wr ∧ ∃ cur rs', wr.heap[w.heap.size]? = some (.cells cur 47 (0, 0)) ∧ cur.size = rs.length * 4 ∧ cur.toList.take (k * 4) = flat rs' ∧ rs'.length = k ∧ (∀ r ∈ rs', U8s (fun b => w.heap.size < b) wr r.cv r.cmd) ∧ rs'.map Raw.plain = (rs.take k).map Raw.plain ∧ (∀ r ∈ rs', ∃ b, r.ch = .bool b)) (fun i _ => rs.length - (intOf i).toNat)
    case atStart => exact ⟨0, by omega, rfl, Fr.alloc _ _ _, _, [], heap_alloc_new _ _, size_made _ _, by simp [flat], rfl, by simp, by simp, by simp⟩
    case round =>
      obtain ⟨k, hk, rfl, hfr, cur, rs', hg, hcs, htk, hlen, hu, hpl, hbl0⟩ := hrel
      by_cases hlt : k < rs.length
      · obtain ⟨b, off, ea, hT, hcell⟩ := hpH.out (by omega)
        obtain rfl : a = ⟨b, off, none⟩ := by simpa using ea
        clear ea
        obtain ⟨r, hr⟩ : ∃ r, rs[k]? = some r := ⟨rs[k], by simp [hlt]⟩
        obtain ⟨e0, e1, e2, e3⟩ := ents_cells hcell hr
        have rm : r ∈ rs := List.mem_of_getElem? hr
        have hcr := hcH.out r rm
        have hG : w.heap.size < wr.heap.size := lt_of_block hg
        have q0 := hfr.cellSome e0 trivial
        have q1 := hfr.cellSome e1 trivial
        have q2 := hfr.cellSome e2 trivial
        have q3 := hfr.cellSome e3 trivial
        have hbG : b ≠ w.heap.size := Nat.ne_of_lt (World.block_lt_of_cell? w _ e0)
        have hbl : b < wr.heap.size := World.block_lt_of_cell? wr _ q0
        obtain ⟨hcl, bb, hbb⟩ := hok r rm
        rw [hbb] at q3
        have HID : Hid (cur.size = rs.length * 4 ∧ cur.toList.take (k * 4) = flat rs' ∧ rs'.length = k ∧ (∀ r ∈ rs', U8s (fun b => w.heap.size < b) wr r.cv r.cmd) ∧ rs'.map Raw.plain = (rs.take k).map Raw.plain ∧ (∀ r ∈ rs', ∃ b, r.ch = .bool b)) := ⟨hcs, htk, hlen, hu, hpl, hbl0⟩
        have hkc : k * 4 + 3 < cur.size := by omega
        have HR : Hid (rs[k]? = some r ∧ r.ch = .bool bb) := ⟨hr, hbb⟩
        have HC : Hid (U8s T w r.cv r.cmd) := hcr
        clear hcs htk hlen hu hpl hbl0 hr hbb e0 e1 e2 e3 hcell hcr hok hpH hcH
        go_wp2
        go_region_held3 (fun w' => ∀ x o, x < wr.heap.size → x ≠ w.heap.size → w'.cell? ⟨x, o, none⟩ = wr.cell? ⟨x, o, none⟩)
          (first | exact sc_of_fr (Fr.drew _ _) | exact sc_of_fr ((Fr.drew _ _).tr hf2.any) | exact sc_of_fr ((((((Fr.drew _ _).tr hf2.any).tr (Fr.setCell _ _ _ (by simp))).tr (Fr.setCell _ _ _ (by simp))).tr (Fr.setCell _ _ _ (by simp))).tr (Fr.setCell _ _ _ (by simp))))
          (first
            | (go_at_call 33; refine (c33 (T := T) _ r.cv r.cmd (by exact Rd.fr HC.out (hfr.any.tr (Fr.drew _ _))) hcl).mono ?_; rintro e w2 ⟨v2, rfl, hf2, ho2⟩; obtain ⟨ao2, n2, c2, rfl⟩ := own_shape ho2; have hg2 := hf2.heap hg trivial; obtain ⟨x0, x1, x2, x3, s0, s1, s2, s3, z0, z1, z2, z3⟩ := row4 hg2 hkc))
        go_wp2
        go_roundw
        case rel =>
          obtain ⟨hcs, htk, hlen, hu, hpl, hbl0⟩ := HID.out
          obtain ⟨hr, hbb⟩ := HR.out
          have hfx : Fr (fun x => w.heap.size < x) wr.drew w2 := hf2.any
          refine ⟨k + 1, by omega, by go_num, ?_, put4 cur k _ _ _ _, rs' ++ [⟨r.idx, r.term, .slice ao2 n2 c2, r.cmd, .bool bb⟩], heap_put4 hg2 _ _ _ _, by rw [size_put4]; exact hcs, ?_, by simp [hlen], ?_, ?_, ?_⟩
          · exact (hfr.tr ((Fr.drew _ _).tr hf2)).trans (fr_put4 (T := fun x => x ≠ w.heap.size) _ _ _ (by simp) _ _ _ _) (fun i hi _ => ⟨trivial, by omega⟩)
          · rw [take_put4 _ _ _ _ _ _ hkc, htk, flat_append]; rfl
          · intro x hx
            have hF : Fr (fun x => w.heap.size < x) w2 _ := fr_put4 (T := fun x => w.heap.size < x) w2 w.heap.size k (by simp) (Value.int .u64 r.idx) (Value.int .u64 r.term) (Value.slice ao2 n2 c2) (Value.bool bb)
            rcases List.mem_append.1 hx with hx | hx
            · exact Rd.fr (Rd.fr (hu x hx) (((Fr.drew _ _).tr hf2).any)) hF
            · simp at hx; subst hx
              refine Rd.fr ?_ hF
              exact Rd.own ho2 (fun b hb _ => by simp at hb; omega)
          · rw [List.map_append, hpl, List.take_add_one, hr]
            simp [Raw.plain, Raw.flag, hbb]
          · intro x hx
            rcases List.mem_append.1 hx with hx | hx
            · exact hbl0 x hx
            · simp at hx; subst hx; exact ⟨_, rfl⟩
        case measure => simp [intOf]; omega
      · go_wp2
        go_ret
        obtain rfl : k = rs.length := by omega
        refine ⟨_, rs', rfl, hfr, ?_, fun r hr => Rd.mono (hu r hr) (fun i hi => Nat.le_of_lt hi), by simpa using hpl, hbl0⟩
        rw [hlen]
        exact own_of_row hg (Nat.le_refl _) hcs htk (by unfold maxLen; omega)
theorem rel_put {w wr w3 : World} {k n : Nat} {cur : Array Value} {e : TypeId} {rs rs' : List Raw} (hfr : Fr All w wr) (hF : Fr All wr w3) (hg : w3.heap[w.heap.size]? = some (.cells cur e (0, 0)))
    (hcs : cur.size = n * 4) (hkc : k * 4 + 3 < cur.size) (htk : cur.toList.take (k * 4) = flat rs') (hlen : rs'.length = k) (hu : ∀ r ∈ rs', U8s (fun b => w.heap.size < b) wr r.cv r.cmd) (hpl : rs'.map Raw.plain = (rs.take k).map Raw.plain)
    (q : Raw) (hq : U8s (fun b => w.heap.size < b) w3 q.cv q.cmd) {r : Raw} (hr : rs[k]? = some r) (hqr : q.plain = r.plain) :
    Fr All w ((((w3.setCell ⟨w.heap.size, k * 4, none⟩ (.int .u64 q.idx)).setCell ⟨w.heap.size, k * 4 + 1, none⟩ (.int .u64 q.term)).setCell ⟨w.heap.size, k * 4 + 2, none⟩ q.cv).setCell ⟨w.heap.size, k * 4 + 3, none⟩ q.ch) ∧
    ((((w3.setCell ⟨w.heap.size, k * 4, none⟩ (.int .u64 q.idx)).setCell ⟨w.heap.size, k * 4 + 1, none⟩ (.int .u64 q.term)).setCell ⟨w.heap.size, k * 4 + 2, none⟩ q.cv).setCell ⟨w.heap.size, k * 4 + 3, none⟩ q.ch).heap[w.heap.size]? = some (.cells (put4 cur k (.int .u64 q.idx) (.int .u64 q.term) q.cv q.ch) e (0, 0)) ∧
    (put4 cur k (.int .u64 q.idx) (.int .u64 q.term) q.cv q.ch).size = n * 4 ∧ (put4 cur k (.int .u64 q.idx) (.int .u64 q.term) q.cv q.ch).toList.take ((k + 1) * 4) = flat (rs' ++ [q]) ∧ (rs' ++ [q]).length = k + 1 ∧
    (∀ r ∈ rs' ++ [q], U8s (fun b => w.heap.size < b) ((((w3.setCell ⟨w.heap.size, k * 4, none⟩ (.int .u64 q.idx)).setCell ⟨w.heap.size, k * 4 + 1, none⟩ (.int .u64 q.term)).setCell ⟨w.heap.size, k * 4 + 2, none⟩ q.cv).setCell ⟨w.heap.size, k * 4 + 3, none⟩ q.ch) r.cv r.cmd) ∧
    (rs' ++ [q]).map Raw.plain = (rs.take (k + 1)).map Raw.plain := by
  refine ⟨?_, heap_put4 hg _ _ _ _, by rw [size_put4]; exact hcs, ?_, by simp [hlen], ?_, ?_⟩
  · exact (hfr.tr hF).trans (fr_put4 (T := fun x => x ≠ w.heap.size) _ _ _ (by simp) _ _ _ _) (fun i hi _ => ⟨trivial, by omega⟩)
  · rw [take_put4 _ _ _ _ _ _ hkc, htk, flat_append]; rfl
  · intro x hx
    have hX : Fr (fun x => w.heap.size < x) w3 _ := fr_put4 (T := fun x => w.heap.size < x) w3 w.heap.size k (by simp) (Value.int .u64 q.idx) (Value.int .u64 q.term) q.cv q.ch
    rcases List.mem_append.1 hx with hx | hx
    · exact Rd.fr (Rd.fr (hu x hx) hF.any) hX
    · simp at hx; subst hx
      exact Rd.fr hq hX
  · rw [List.map_append, hpl, List.take_add_one, hr]
    simp [hqr]

set_option maxRecDepth 100000 in
set_option maxHeartbeats 2000000 in
/-- toEntries. -/
theorem c15 {T : Nat → Prop} (w : World) (v : Value) (rs : List Raw) (h : Ents T w v rs) (hn : rs.length ≤ 1048576) (hok : EntOk rs) :
    Calls Try.prog 15 #[v] w fun e w' => ∃ v' rs', e = .returned v' ∧ Fr All w w' ∧ w'.ownsRow w.heap.size 61 4 v' rs'.length (flat rs') ∧ (∀ r ∈ rs', U8s (fun b => w.heap.size ≤ b ∧ v'.ownBlock ≠ some b) w' r.cv r.cmd) ∧ rs'.map Raw.plain = rs.map Raw.plain ∧ (∀ r ∈ rs', ∃ p, r.ch = .pointer p) := by
  obtain ⟨h, hcmd⟩ := h
  obtain ⟨ao, c, rfl, _, _, hnil, hp⟩ := h
  have h1 := Lib.run_eql_slice_nil (P := Try.prog)
  cases ao with
  | none =>
    have hc0 := hnil rfl
    have hb0 : rs = [] := by
      apply List.eq_nil_of_length_eq_zero; omega
    subst hb0 hc0
    clear hnil hp
    go_enter Try.func15, Try.ntmps15
    go_wp2
    go_ret
    exact ⟨_, [], rfl, Fr.refl _ _, World.ownsRow_nil _ _ _ _, by simp, rfl, by simp⟩
  | some a =>
    have hmk := run_mk (P := Try.prog) Try.underlying36 Try.info61 rs.length (by omega) (by unfold maxLen; omega)
    clear hnil
    have hpH : Hid (0 < rs.length → ∃ b off, some a = some ⟨b, off, none⟩ ∧ T b ∧ ∀ j u, (flat rs)[j]? = some u → w.cell? ⟨b, off + j, none⟩ = some u) := hp
    have hcH : Hid (∀ r ∈ rs, U8s T w r.cv r.cmd) := hcmd
    clear hp hcmd
    go_enter Try.func15, Try.ntmps15
    go_wp2
    go_loopw [4] (fun i wr => ∃ k : Nat, k ≤ rs.length ∧ i = .int .i64 k ∧ Fr All w wr ∧ ∃ cur rs', wr.heap[w.heap.size]? = some (.cells cur 61 (0, 0)) ∧ cur.size = rs.length * 4 ∧ cur.toList.take (k * 4) = flat rs' ∧ rs'.length = k ∧ (∀ r ∈ rs', U8s (fun b => w.heap.size < b) wr r.cv r.cmd) ∧ rs'.map Raw.plain = (rs.take k).map Raw.plain ∧ (∀ r ∈ rs', ∃ p, r.ch = .pointer p)) (fun i _ => rs.length - (intOf i).toNat)
    case atStart => exact ⟨0, by omega, rfl, Fr.alloc _ _ _, _, [], heap_alloc_new _ _, size_made _ _, by simp [flat], rfl, by simp, by simp, by simp⟩
    case round =>
      obtain ⟨k, hk, rfl, hfr, cur, rs', hg, hcs, htk, hlen, hu, hpl, hptr⟩ := hrel
      by_cases hlt : k < rs.length
      · obtain ⟨b, off, ea, hT, hcell⟩ := hpH.out (by omega)
        obtain rfl : a = ⟨b, off, none⟩ := by simpa using ea
        clear ea
        obtain ⟨r, hr⟩ : ∃ r, rs[k]? = some r := ⟨rs[k], by simp [hlt]⟩
        obtain ⟨e0, e1, e2, e3⟩ := ents_cells hcell hr
        have rm : r ∈ rs := List.mem_of_getElem? hr
        have hcr := hcH.out r rm
        have hG : w.heap.size < wr.heap.size := lt_of_block hg
        have q0 := hfr.cellSome e0 trivial
        have q1 := hfr.cellSome e1 trivial
        have q2 := hfr.cellSome e2 trivial
        have q3 := hfr.cellSome e3 trivial
        have hbG : b ≠ w.heap.size := Nat.ne_of_lt (World.block_lt_of_cell? w _ e0)
        have hbl : b < wr.heap.size := World.block_lt_of_cell? wr _ q0
        obtain ⟨hcl, bb, hbb⟩ := hok r rm
        rw [hbb] at q3
        have HID : Hid (cur.size = rs.length * 4 ∧ cur.toList.take (k * 4) = flat rs' ∧ rs'.length = k ∧ (∀ r ∈ rs', U8s (fun b => w.heap.size < b) wr r.cv r.cmd) ∧ rs'.map Raw.plain = (rs.take k).map Raw.plain ∧ (∀ r ∈ rs', ∃ p, r.ch = .pointer p)) := ⟨hcs, htk, hlen, hu, hpl, hptr⟩
        have hkc : k * 4 + 3 < cur.size := by omega
        have HR : Hid (rs[k]? = some r ∧ r.ch = .bool bb) := ⟨hr, hbb⟩
        have HC : Hid (U8s T w r.cv r.cmd) := hcr
        clear hcs htk hlen hu hpl hr hbb e0 e1 e2 e3 hcell hcr hok hpH hcH hptr
        go_wp2_with fail
        refine (c33 (T := T) _ r.cv r.cmd (Rd.fr HC.out hfr.any) hcl).mono ?_
        rintro e w2 ⟨v2, rfl, hf2, ho2⟩
        obtain ⟨ao2, n2, c2, rfl⟩ := own_shape ho2
        have hg2 := hf2.heap hg trivial
        have p0 := hf2.cellSome q0 trivial
        have p1 := hf2.cellSome q1 trivial
        have p3 := hf2.cellSome q3 trivial
        have hG2 : w.heap.size < w2.heap.size := lt_of_block hg2
        have hbl2 : b < w2.heap.size := World.block_lt_of_cell? w2 _ p0
        have HQ : Hid (Fr All wr w2) := hf2
        have HO : Hid (w2.ownsRow wr.heap.size 5 1 (Value.slice ao2 n2 c2) r.cmd.length (r.cmd.map (Value.int .u8))) := ho2
        clear q0 q1 q2 q3 ho2 hf2
        obtain ⟨x0, x1, x2, x3, s0, s1, s2, s3, z0, z1, z2, z3⟩ := row4 hg2 hkc
        cases bb
        · go_wp2
          go_region_held3 (fun w' => ∀ x o, x < w2.heap.size → x ≠ w.heap.size → w'.cell? ⟨x, o, none⟩ = w2.cell? ⟨x, o, none⟩)
            (exact sc_of_fr (by repeat (first | exact Fr.refl _ _ | refine Fr.tr ?_ (Fr.drew _ _) | refine Fr.tr ?_ (Fr.setCell _ _ _ (by simp)) | refine Fr.tr ?_ (Fr.alloc _ _ _)))) (fail)
          go_wp2
          go_roundw
          case rel =>
            obtain ⟨hcs, htk, hlen, hu, hpl, hptr⟩ := HID.out
            obtain ⟨hr, hbb⟩ := HR.out
            obtain ⟨a1, a2, a3, a4, a5, a6, a7⟩ := rel_put hfr HQ.out hg2 hcs hkc htk hlen hu hpl ⟨r.idx, r.term, .slice ao2 n2 c2, r.cmd, (.pointer none)⟩ (Rd.own HO.out (fun b hb _ => by omega)) hr (by simp [Raw.plain, Raw.flag, hbb])
            have fin := (Fr.drew All _ : Fr All (((((w2.setCell ⟨w.heap.size, k * 4, none⟩ (.int .u64 r.idx)).setCell ⟨w.heap.size, k * 4 + 1, none⟩ (.int .u64 r.term)).setCell ⟨w.heap.size, k * 4 + 2, none⟩ (.slice ao2 n2 c2)).setCell ⟨w.heap.size, k * 4 + 3, none⟩ (.pointer none))) _)
            refine ⟨k + 1, by omega, by go_num, a1.tr fin, _, _, fin.heap a2 trivial, a3, a4, a5, fun x hx => Rd.fr (a6 x hx) fin.any, a7, ?_⟩
            intro x hx
            rcases List.mem_append.1 hx with hx | hx
            · exact hptr x hx
            · simp at hx; subst hx; exact ⟨_, rfl⟩
          case measure => simp [intOf]; omega
        · have hs2 : w.heap.size ≠ w2.heap.size := by omega
          have hgA := (Fr.alloc All w2 (.cells #[.int .u8 0, .int .u64 0, .slice none 0 0, .slice none 0 0, .slice none 0 0] 73)).heap hg2 trivial
          go_wp2
          go_region_held3 (fun w' => ∀ x o, x < w2.heap.size → x ≠ w.heap.size → w'.cell? ⟨x, o, none⟩ = w2.cell? ⟨x, o, none⟩)
            (exact sc_of_fr (by repeat (first | exact Fr.refl _ _ | refine Fr.tr ?_ (Fr.drew _ _) | refine Fr.tr ?_ (Fr.setCell _ _ _ (by simp)) | refine Fr.tr ?_ (Fr.alloc _ _ _)))) (fail)
          go_wp2
          go_roundw
          case rel =>
            obtain ⟨hcs, htk, hlen, hu, hpl, hptr⟩ := HID.out
            obtain ⟨hr, hbb⟩ := HR.out
            obtain ⟨a1, a2, a3, a4, a5, a6, a7⟩ := rel_put hfr HQ.out hg2 hcs hkc htk hlen hu hpl ⟨r.idx, r.term, .slice ao2 n2 c2, r.cmd, (.pointer (some ⟨w2.heap.size, 0, none⟩))⟩ (Rd.own HO.out (fun b hb _ => by omega)) hr (by simp [Raw.plain, Raw.flag, hbb])
            have fin := (Fr.alloc All ((((w2.setCell ⟨w.heap.size, k * 4, none⟩ (.int .u64 r.idx)).setCell ⟨w.heap.size, k * 4 + 1, none⟩ (.int .u64 r.term)).setCell ⟨w.heap.size, k * 4 + 2, none⟩ (.slice ao2 n2 c2)).setCell ⟨w.heap.size, k * 4 + 3, none⟩ (.pointer (some ⟨w2.heap.size, 0, none⟩))) (.cells #[.int .u8 0, .int .u64 0, .slice none 0 0, .slice none 0 0, .slice none 0 0] 73)).tr (Fr.drew All _)
            refine ⟨k + 1, by omega, by go_num, a1.tr fin, _, _, fin.heap a2 trivial, a3, a4, a5, fun x hx => Rd.fr (a6 x hx) fin.any, a7, ?_⟩
            intro x hx
            rcases List.mem_append.1 hx with hx | hx
            · exact hptr x hx
            · simp at hx; subst hx; exact ⟨_, rfl⟩
          case measure => simp [intOf]; omega
      · go_wp2
        go_ret
        obtain rfl : k = rs.length := by omega
        refine ⟨_, rs', rfl, hfr, ?_, fun r hr => Rd.mono (hu r hr) (fun i hi => ⟨Nat.le_of_lt hi, by simp [Value.ownBlock]; omega⟩), by simpa using hpl, hptr⟩
        rw [hlen]
        exact own_of_row hg (Nat.le_refl _) hcs htk (by unfold maxLen; omega)
end Go.Proofs.Qxb6601153a
