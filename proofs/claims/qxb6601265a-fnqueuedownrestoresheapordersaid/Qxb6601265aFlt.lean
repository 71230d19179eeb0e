/-
  SEAT b6601265a. THE ORDER OF FLOATS: what '>' and '==' give is a preorder, NaNs or not. By an AI agent.
-/
import Derived.Test.Qxb6601265aProg
import Derived.WalkKit
namespace Go.Proofs.Qxb6601265a
set_option linter.unusedVariables false
set_option linter.unusedSimpArgs false
open Ieee

theorem signed_add (s : Bool) (m a d : Nat) : signed s m (a + d) = signed s m a * 2 ^ d := by
  unfold signed
  rw [Nat.shiftLeft_eq, Nat.shiftLeft_eq, Nat.pow_add]
  cases s <;> simp [Int.natCast_mul, Int.mul_assoc] <;> try (rw [Int.neg_mul, Int.mul_assoc])
theorem cmp_gt (x y : Int) : compare x y = .gt ↔ y < x := by
  simp only [compare, compareOfLessAndEq]
  split
  · simp; omega
  · split
    · simp; omega
    · simp; omega
theorem cmp_eq' (x y : Int) : compare x y = .eq ↔ x = y := by
  simp only [compare, compareOfLessAndEq]
  split
  · simp; omega
  · split
    · simp; omega
    · simp; omega
def lev : Datum → Int
  | .infinity s => if s then -1 else 1
  | _ => 0
def vl (B : Int) : Datum → Int
  | .number s m i => signed s m (i - B).toNat
  | _ => 0
def plc : Datum → Int
  | .number _ _ i => i
  | _ => 0
def nn : Datum → Prop
  | .nan .. => False
  | _ => True
theorem scale {B base i : Int} (h1 : B ≤ base) (h2 : base ≤ i) (s : Bool) (m : Nat) : signed s m (i - B).toNat = signed s m (i - base).toNat * 2 ^ (base - B).toNat := by
  rw [← signed_add]; congr 1; omega
theorem order_gt (B : Int) (d e : Datum) (h1 : B ≤ plc d) (h2 : B ≤ plc e) : d.order e = some .gt ↔ nn d ∧ nn e ∧ (lev e < lev d ∨ (lev d = lev e ∧ vl B e < vl B d)) := by
  cases d with
  | nan => simp [Datum.order, nn]
  | infinity s =>
    cases e with
    | nan => simp [Datum.order, nn]
    | infinity t => cases s <;> cases t <;> simp [Datum.order, nn, lev, vl] <;> decide
    | number t n j => cases s <;> simp [Datum.order, nn, lev, vl]
  | number s m i =>
    cases e with
    | nan => simp [Datum.order, nn]
    | infinity t => cases t <;> simp [Datum.order, nn, lev, vl]
    | number t n j =>
      simp only [Datum.order, nn, lev, vl, Option.some.injEq, cmp_gt, true_and, Int.lt_irrefl, false_or]
      simp only [plc] at h1 h2
      have hB : B ≤ min i j := by omega
      rw [scale hB (by omega) s m, scale hB (by omega) t n]
      have hp : (0 : Int) < 2 ^ (min i j - B).toNat := Int.pow_pos (by omega)
      exact (Int.mul_lt_mul_right hp).symm
theorem order_eq (B : Int) (d e : Datum) (h1 : B ≤ plc d) (h2 : B ≤ plc e) : d.order e = some .eq ↔ nn d ∧ nn e ∧ lev d = lev e ∧ vl B d = vl B e := by
  cases d with
  | nan => simp [Datum.order, nn]
  | infinity s =>
    cases e with
    | nan => simp [Datum.order, nn]
    | infinity t => cases s <;> cases t <;> simp [Datum.order, nn, lev, vl] <;> decide
    | number t n j => cases s <;> simp [Datum.order, nn, lev, vl]
  | number s m i =>
    cases e with
    | nan => simp [Datum.order, nn]
    | infinity t => cases t <;> simp [Datum.order, nn, lev, vl]
    | number t n j =>
      simp only [Datum.order, nn, lev, vl, Option.some.injEq, cmp_eq', true_and]
      simp only [plc] at h1 h2
      have hB : B ≤ min i j := by omega
      rw [scale hB (by omega) s m, scale hB (by omega) t n]
      have hp : (0 : Int) < 2 ^ (min i j - B).toNat := Int.pow_pos (by omega)
      exact (Int.mul_eq_mul_right_iff (Int.ne_of_gt hp)).symm

/-- What the queue's order says of two variables with the activities x, y. -/
def bfB (x y : Nat) (a b : Int) : Bool := (FloatKind.f64.format.order x y == some .gt) || ((FloatKind.f64.format.order x y == some .eq) && decide (a < b))
theorem bfB_asymm {x y : Nat} {a b : Int} (h : bfB x y a b = true) : bfB y x b a = false := by
  unfold bfB at *
  unfold Format.order at *
  have g1 := order_gt (min (plc (FloatKind.f64.format.read x)) (plc (FloatKind.f64.format.read y))) (FloatKind.f64.format.read x) (FloatKind.f64.format.read y) (by omega) (by omega)
  have g2 := order_gt (min (plc (FloatKind.f64.format.read x)) (plc (FloatKind.f64.format.read y))) (FloatKind.f64.format.read y) (FloatKind.f64.format.read x) (by omega) (by omega)
  have q1 := order_eq (min (plc (FloatKind.f64.format.read x)) (plc (FloatKind.f64.format.read y))) (FloatKind.f64.format.read x) (FloatKind.f64.format.read y) (by omega) (by omega)
  have q2 := order_eq (min (plc (FloatKind.f64.format.read x)) (plc (FloatKind.f64.format.read y))) (FloatKind.f64.format.read y) (FloatKind.f64.format.read x) (by omega) (by omega)
  simp only [Bool.or_eq_true, Bool.and_eq_true, beq_iff_eq, decide_eq_true_eq] at h
  rw [g1, q1] at h
  rw [Bool.eq_false_iff]
  intro k
  simp only [ne_eq, Bool.or_eq_true, Bool.and_eq_true, beq_iff_eq, decide_eq_true_eq] at k
  rw [g2, q2] at k
  omega
theorem bfB_trans {x y z : Nat} {a b c : Int} (h : bfB x y a b = true) (k : bfB y z b c = true) : bfB x z a c = true := by
  unfold bfB at *
  unfold Format.order at *
  generalize FloatKind.f64.format.read x = d at *
  generalize FloatKind.f64.format.read y = e at *
  generalize FloatKind.f64.format.read z = f at *
  have g1 := order_gt (min (plc d) (min (plc e) (plc f))) d e (by omega) (by omega)
  have g2 := order_gt (min (plc d) (min (plc e) (plc f))) e f (by omega) (by omega)
  have g3 := order_gt (min (plc d) (min (plc e) (plc f))) d f (by omega) (by omega)
  have q1 := order_eq (min (plc d) (min (plc e) (plc f))) d e (by omega) (by omega)
  have q2 := order_eq (min (plc d) (min (plc e) (plc f))) e f (by omega) (by omega)
  have q3 := order_eq (min (plc d) (min (plc e) (plc f))) d f (by omega) (by omega)
  simp only [Bool.or_eq_true, Bool.and_eq_true, beq_iff_eq, decide_eq_true_eq] at h k ⊢
  rw [g1, q1] at h
  rw [g2, q2] at k
  rw [g3, q3]
  have nd : nn d := by rcases h with h | h; exact h.1; exact h.1.1
  have nf : nn f := by rcases k with k | k; exact k.2.1; exact k.1.2.1
  simp only [nd, nf, true_and]
  omega

end Go.Proofs.Qxb6601265a
