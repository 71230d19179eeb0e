/-
  SEAT b6601232a. A LEDGER AS IT LIES IN MEMORY: its five cells, its list of standings, its map from names to them. By an AI agent.
-/
import Derived.Test.Qxb6601232aKit
namespace Go.Proofs.Qxb6601232a
open Go.RowKit
open Go.Maps (Keyed)
set_option linter.unusedVariables false

def ptr (b : Nat) : Value := .pointer (some ⟨b, 0, none⟩)
def St.cells (s : St) : Array Value := #[.string s.name, .int .i64 s.cr, .int .i64 s.acts, .bool s.ex, .bool s.bn]
def lit (s : ByteArray) : Lit := .string s.data.toList
/-- How a pointer reads as a map's element: by its block. -/
def pe : Value → Option (DataW Unit × List MemPlace)
  | .pointer none => some (.nil, [])
  | .pointer (some a) => if a.off = 0 ∧ a.spot = none then some (.lit (.int .i64 a.block), []) else none
  | _ => none
theorem pe_ptr (b : Nat) : pe (ptr b) = some (.lit (.int .i64 b), []) := by simp [pe, ptr]
theorem pe_nil : pe (.pointer none) = some (.nil, []) := rfl
theorem pe_inv {v : Value} {b : Nat} {ps : List MemPlace} (h : pe v = some (.lit (.int .i64 b), ps)) : v = ptr b := by
  unfold pe at h
  split at h
  · simp at h
  · split at h
    · rename_i a h0
      obtain ⟨blk, off, vw⟩ := a
      simp only at h0
      obtain ⟨rfl, rfl⟩ := h0
      simp at h
      obtain ⟨h1, _⟩ := h
      have : blk = b := by omega
      subst this; rfl
    · cases h
  · cases h
theorem lit_inj {a b : ByteArray} (h : lit a = lit b) : a = b := by
  unfold lit at h
  cases a; cases b; simp at h; subst h; rfl
theorem law9 : Keyed Try.prog 9 := Maps.string_keyed Try.underlying9
theorem key9 {s : ByteArray} (h : s.size ≤ maxLen) : keyOf Try.prog 9 (.string s) = some (lit s) := WideMaps.keyOf_string_mk Try.underlying9 h

/-- The map in block mb leads from the names of qs to their blocks. -/
def MapW (w : World) (mb : Nat) (qs : List (Nat × St)) (D : DataW Unit) : Prop :=
  w.ownsMap Try.prog 9 pe mb qs.length D ∧ (∀ s : ByteArray, Maps.has D (lit s) = (getS (qs.map Prod.snd) s).isSome) ∧
    ((names (qs.map Prod.snd)).Nodup → Maps.size D = qs.length ∧ ∀ q ∈ qs, D.atKey (lit q.2.name) .nil = .lit (.int .i64 q.1)) ∧
    (Maps.size D = qs.length → (names (qs.map Prod.snd)).Nodup)

/-- A ledger: S names its blocks. -/
structure LedV (w : World) (S : Nat → Prop) (L : Nat) (qs : List (Nat × St)) (srt : Int) (lv t3 t4 : Value) : Prop where
  sL : S L
  row : ∃ mb D, w.heap[L]? = some (.cells #[.map (some mb), lv, .int .i64 srt, t3, t4] 82 (0, 0)) ∧ S mb ∧ MapW w mb qs D
  own : w.ownsRow 0 44 1 lv qs.length (qs.map fun q => ptr q.1)
  sB : ∀ g, lv.ownBlock = some g → S g
  st : ∀ q ∈ qs, S q.1 ∧ w.heap[q.1]? = some (.cells q.2.cells 48 (0, 0)) ∧ q.2.name.size ≤ maxLen

theorem MapW.fr {T : Nat → Prop} {w w' : World} {mb : Nat} {qs : List (Nat × St)} {D : DataW Unit} (h : MapW w mb qs D) (f : Fr T w w') (hT : T mb) : MapW w' mb qs D := by
  obtain ⟨h1, h2⟩ := h
  refine ⟨?_, h2⟩
  obtain ⟨es, clock, hb, r⟩ := h1
  exact ⟨es, clock, f.heap hb hT, r⟩
theorem LedV.fr {T : Nat → Prop} {w w' : World} {S : Nat → Prop} {L : Nat} {qs : List (Nat × St)} {srt : Int} {lv t3 t4 : Value} (h : LedV w S L qs srt lv t3 t4) (f : Fr T w w') (hT : ∀ b, S b → T b) : LedV w' S L qs srt lv t3 t4 := by
  obtain ⟨sL, ⟨mb, D, hr, sM, hm⟩, own, sB, st⟩ := h
  exact ⟨sL, ⟨mb, D, f.heap hr (hT _ sL), sM, hm.fr f (hT _ sM)⟩, own_fr own f (fun b hb => hT _ (sB b hb)), sB, fun q hq => ⟨(st q hq).1, f.heap (st q hq).2.1 (hT _ (st q hq).1), (st q hq).2.2⟩⟩
theorem LedV.mono {w : World} {S S' : Nat → Prop} {L : Nat} {qs : List (Nat × St)} {srt : Int} {lv t3 t4 : Value} (h : LedV w S L qs srt lv t3 t4) (hT : ∀ b, S b → S' b) : LedV w S' L qs srt lv t3 t4 := by
  obtain ⟨sL, ⟨mb, D, hr, sM, hm⟩, own, sB, st⟩ := h
  exact ⟨hT _ sL, ⟨mb, D, hr, hT _ sM, hm⟩, own, fun g hg => hT _ (sB g hg), fun q hq => ⟨hT _ (st q hq).1, (st q hq).2⟩⟩

theorem names_snd_append (qs : List (Nat × St)) (q : Nat × St) : names ((qs ++ [q]).map Prod.snd) = names (qs.map Prod.snd) ++ [q.2.name] := by simp [names]
theorem getS_append_isSome (ss : List St) (s : St) (x : ByteArray) : (getS (ss ++ [s]) x).isSome = ((getS ss x).isSome || decide (s.name = x)) := by
  unfold getS
  rw [List.find?_append]
  cases h : ss.find? (fun s => decide (s.name = x)) with
  | none => simp [List.find?_cons]; by_cases h2 : s.name = x <;> simp [h2]
  | some y => simp
theorem isKey_lit (s : ByteArray) : WideAt.IsKeyLit (lit s) := by unfold lit; simp [WideAt.IsKeyLit]

/-- A store of a name and its block. -/
theorem MapW.put {w w' : World} {mb : Nat} {qs : List (Nat × St)} {D : DataW Unit} (h : MapW w mb qs D) (q : Nat × St)
    (h' : w'.ownsMap Try.prog 9 pe mb (qs.length + 1) (D.put (lit q.2.name) (.lit (.int .i64 q.1)))) : MapW w' mb (qs ++ [q]) (D.put (lit q.2.name) (.lit (.int .i64 q.1))) := by
  obtain ⟨h1, h2, h3, h4⟩ := h
  have ht := h1.tidy law9
  have hs := Maps.size_put (k := lit q.2.name) ht (.lit (.int .i64 q.1) : DataW Unit)
  have hle := h1.size_le
  have hhas := h2 q.2.name
  refine ⟨by simpa using h', fun s => ?_, fun hn => ?_, fun hsz => ?_⟩
  · rw [List.map_append, List.map_cons, List.map_nil, getS_append_isSome, ← h2 s]
    by_cases e : q.2.name = s
    · subst e; rw [Maps.has_put_same ht.isMap (isKey_lit _)]; simp
    · rw [Maps.has_put_other (fun e' => e (lit_inj e').symm)]; simp [e]
  · rw [names_snd_append, List.nodup_append] at hn
    obtain ⟨n1, _, n3⟩ := hn
    have hno : q.2.name ∉ names (qs.map Prod.snd) := fun hm => n3 _ hm _ (by simp) rfl
    have hg : getS (qs.map Prod.snd) q.2.name = none := getS_none.2 hno
    rw [hg] at hhas
    obtain ⟨m1, m2⟩ := h3 n1
    refine ⟨by rw [hs, hhas, m1]; simp, fun p hp => ?_⟩
    rcases List.mem_append.1 hp with hp | hp
    · rw [Maps.atKey_put_other (fun e => hno (by rw [← lit_inj e]; simp only [names, List.map_map]; exact List.mem_map.2 ⟨p, hp, rfl⟩))]
      exact m2 p hp
    · simp at hp; subst hp
      exact Maps.atKey_put_same ht.isMap (isKey_lit _) _ _
  · rw [hs] at hsz
    cases hh : Maps.has D (lit q.2.name) with
    | true => rw [hh] at hsz; simp at hsz; omega
    | false =>
      rw [hh] at hsz; simp at hsz
      rw [names_snd_append, List.nodup_append]
      refine ⟨h4 hsz, by simp, fun a ha b hb e => ?_⟩
      simp at hb; subst hb; subst e
      rw [hh] at hhas
      have := getS_none.1 (by simpa using hhas.symm)
      exact this ha
theorem MapW.empty {w : World} {mb : Nat} (h : w.ownsMap Try.prog 9 pe mb 0 (.map [])) : MapW w mb [] (.map []) :=
  ⟨h, fun s => by simp [Maps.has, getS], fun _ => ⟨by simp [Maps.size], fun q hq => by cases hq⟩, fun _ => by simp [names]⟩

end Go.Proofs.Qxb6601232a
