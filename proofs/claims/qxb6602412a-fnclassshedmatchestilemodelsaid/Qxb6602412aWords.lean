/-
  PLAIN MATHEMATICS: the law's numbers as float64 words: what each operation gives.
-/
import Derived.Test.Qxb6602412aShares
namespace Go.Proofs.Qxb6602412a.Fl
open Ieee

/-- Not negative, and not too great: 1e300 at most. -/
def Dom (w : Nat) (a : Int) : Prop := Fin w a ∧ 0 ≤ a ∧ a.natAbs < p2 2072

/-- The words' running sum, and the numbers' own. -/
def fsum (wf : Nat → Nat) : Nat → Nat
  | 0 => 0
  | k + 1 => (double.add (fsum wf k) (wf k)).getD 0
def ps (af : Nat → Int) : Nat → Int
  | 0 => 0
  | k + 1 => ps af k + af k

theorem big_sum {v a : Int} (hv : 0 ≤ v) (hv2 : v.natAbs ≤ 8 * p2 2072) (ha : 0 ≤ a) (ha2 : a.natAbs < p2 2072) : (v + a).natAbs < p2 2097 := by
  have h : p2 2097 = p2 2072 * p2 25 := p2_add 2072 25
  have h2 : p2 25 = 33554432 := by decide
  rw [h, h2]
  have := p2_pos 2072
  generalize p2 2072 = g at *
  omega

theorem add_next {x y : Nat} {v a : Int} (hx : Fin x v) (hy : Fin y a) (hb : (v + a).natAbs < p2 2097) : double.add x y = some ((double.add x y).getD 0) ∧ ∃ v', Fin ((double.add x y).getD 0) v' ∧ Near v' (v + a) := by
  obtain ⟨r, v', hr, hf, hn⟩ := add_spec hx hy hb
  rw [hr]
  exact ⟨rfl, v', hf, hn⟩

theorem chain (wf : Nat → Nat) (af : Nat → Int) (h : ∀ k, k < 4 → Dom (wf k) (af k)) :
    ∃ V : Nat → Int, (∀ k, k < 4 → double.add (fsum wf k) (wf k) = some (fsum wf (k + 1))) ∧ (∀ k, k ≤ 4 → Fin (fsum wf k) (V k)) ∧ V 0 = 0 ∧
      Acc 1 (V 1) (af 0) ∧ Acc 2 (V 2) (af 0 + af 1) ∧ Acc 3 (V 3) (af 0 + af 1 + af 2) ∧ Acc 4 (V 4) (af 0 + af 1 + af 2 + af 3) := by
  obtain ⟨f0, n0, b0⟩ := h 0 (by omega)
  obtain ⟨f1, n1, b1⟩ := h 1 (by omega)
  obtain ⟨f2, n2, b2⟩ := h 2 (by omega)
  obtain ⟨f3, n3, b3⟩ := h 3 (by omega)
  have z0 : Fin (fsum wf 0) 0 := fin_zero
  obtain ⟨e1, v1, g1, r1⟩ := add_next z0 f0 (big_sum (by omega) (by omega) n0 b0)
  have a1 : Acc 1 v1 (af 0) := by have := acc1 acc_zero (by omega) n0 r1; rw [Int.zero_add] at this; exact this
  obtain ⟨e2, v2, g2, r2⟩ := add_next (x := fsum wf 1) g1 f1 (big_sum a1.1 (by unfold Acc at a1; generalize p2 2072 = g at *; omega) n1 b1)
  have a2 := acc2 a1 n0 n1 r2
  obtain ⟨e3, v3, g3, r3⟩ := add_next (x := fsum wf 2) g2 f2 (big_sum a2.1 (by unfold Acc at a2; generalize p2 2072 = g at *; omega) n2 b2)
  have a3 := acc3 a2 (by omega) n2 r3
  obtain ⟨e4, v4, g4, r4⟩ := add_next (x := fsum wf 3) g3 f3 (big_sum a3.1 (by unfold Acc at a3; generalize p2 2072 = g at *; omega) n3 b3)
  have a4 := acc4 a3 (by omega) n3 r4
  refine ⟨fun k => match k with | 0 => 0 | 1 => v1 | 2 => v2 | 3 => v3 | _ => v4, ?_, ?_, rfl, a1, a2, a3, a4⟩
  · intro k hk
    match k, hk with
    | 0, _ => exact e1
    | 1, _ => exact e2
    | 2, _ => exact e3
    | 3, _ => exact e4
  · intro k hk
    match k, hk with
    | 0, _ => exact z0
    | 1, _ => exact g1
    | 2, _ => exact g2
    | 3, _ => exact g3
    | 4, _ => exact g4

/-- x is X, about; T is the whole. -/
def Abt (x X T : Int) : Prop := 0 ≤ x ∧ 1125899906842624 * x ≤ 1125899906842624 * X + T ∧ 1125899906842624 * X ≤ 1125899906842624 * x + T

theorem div_next {x y : Nat} {a b : Int} (hx : Fin x a) (hy : Fin y b) (ha : 0 ≤ a) (hb : 0 < b) (hab : a ≤ 2 * b) : ∃ r v, double.div x y = some r ∧ Fin r v ∧ Quo v a b ∧ (a < b → v ≤ U) := by
  obtain ⟨r, v, h1, h2, h3, h4, h5, h6⟩ := div_spec hx hy ha hb hab
  exact ⟨r, v, h1, h2, ⟨h3, h4, h5⟩, h6⟩

theorem big_gen {g G : Nat} (hg : 0 < g) (h : g * 1024 ≤ G) {z : Int} (h1 : -(8 * (g : Int)) ≤ z) (h2 : z ≤ 8 * (g : Int)) : z.natAbs < G := by omega
theorem p2_10 : p2 10 = 1024 := by decide
theorem one_small : p2 1074 * 1024 ≤ p2 2097 := by
  have h : p2 1074 * p2 10 ≤ p2 2097 := by rw [← p2_add]; exact p2_mono (by decide)
  rw [p2_10] at h
  exact h
/-- What is no greater than eight is not too great. -/
theorem small {z : Int} (h1 : -(8 * U) ≤ z) (h2 : z ≤ 8 * U) : z.natAbs < p2 2097 := big_gen (p2_pos 1074) one_small h1 h2

/-- ALL THE LAW's SHARES, as words. -/
theorem tile_words {S T1 Ab T2 wc : Nat} {vS vT1 vAb vT2 A B W : Int} (hA : 0 ≤ A) (hB : 0 ≤ B) (hW : 0 < W) (fS : Fin S vS) (fT1 : Fin T1 vT1) (fAb : Fin Ab vAb) (fT2 : Fin T2 vT2) (fwc : Fin wc W)
    (aS : Abt vS B (A + B + W)) (aT1 : Abt vT1 (A + B + W) (A + B + W)) (aAb : Abt vAb A (A + B + W)) (aT2 : Abt vT2 (A + B + W) (A + B + W)) :
    ∃ fb own1 ab own2 hi lo q1 o1 q2 o2 vhi vlo, double.div S T1 = some fb ∧ double.div wc T1 = some own1 ∧ double.div Ab T2 = some ab ∧ double.div wc T2 = some own2 ∧
      double.sub 4607182418800017408 ab = some hi ∧ double.sub hi own2 = some lo ∧ Fin fb q1 ∧ Fin own1 o1 ∧ Fin own2 o2 ∧ Fin hi vhi ∧ Fin lo vlo ∧ Tile q1 o1 q2 o2 vhi vlo := by
  have hU := U_big
  obtain ⟨s0, s1, s2⟩ := aS
  obtain ⟨t0, t1, t2⟩ := aT1
  obtain ⟨b0, b1, b2⟩ := aAb
  obtain ⟨u0, u1, u2⟩ := aT2
  obtain ⟨fb, q1, d1, f1, k1, _⟩ := div_next fS fT1 s0 (by omega) (by omega)
  obtain ⟨own1, o1, d2, f2, k2, _⟩ := div_next fwc fT1 (by omega) (by omega) (by omega)
  obtain ⟨ab, q2, d3, f3, k3, _⟩ := div_next fAb fT2 b0 (by omega) (by omega)
  obtain ⟨own2, o2, d4, f4, k4, _⟩ := div_next fwc fT2 (by omega) (by omega) (by omega)
  have h1 := share (T := A + B + W) (by omega) hB (by omega) t1 t2 s1 s2 k1
  have h2 := share (T := A + B + W) (X := W) (by omega) (by omega) (by omega) t1 t2 (by omega) (by omega) k2
  have h3 := share (T := A + B + W) (by omega) hA (by omega) u1 u2 b1 b2 k3
  have h4 := share (T := A + B + W) (X := W) (by omega) (by omega) (by omega) u1 u2 (by omega) (by omega) k4
  obtain ⟨c1, c2, c3, c4, c5, c6, c7, c8⟩ := shares hA hB hW h1 h2 h3 h4
  have q2n := h3.1
  obtain ⟨hi, vhi, d5, f5, n5⟩ := sub_spec fin_one f3 (small (by omega) (by omega))
  have o2n := h4.1
  obtain ⟨lo, vlo, d6, f6, n6⟩ := sub_spec f5 f4 (small (by unfold Near at n5; omega) (by unfold Near at n5; omega))
  exact ⟨fb, own1, ab, own2, hi, lo, q1, o1, q2, o2, vhi, vlo, d1, d2, d3, d4, d5, d6, f1, f2, f4, f5, f6, ⟨c1, c2, c3, c4, h1.1, h2.1, h3.1, h4.1, c5, c6, c7, c8, n5, n6⟩⟩

end Go.Proofs.Qxb6602412a.Fl
