/-
  PLAIN MATHEMATICS: shares of a total, reckoned with rounding, in units of 2^-1074 (U is one). No words, no Go.
-/
import Derived.Test.Qxb6602412aFloatOps
namespace Go.Proofs.Qxb6602412a.Fl
set_option linter.unusedVariables false

theorem p2_mono {a b : Nat} (h : a ≤ b) : p2 a ≤ p2 b := Nat.pow_le_pow_right (by decide) h
theorem U_big : 1180591620717411303424 ≤ U := by
  have h1 : p2 70 ≤ p2 1074 := p2_mono (by decide)
  have h2 : p2 70 = 1180591620717411303424 := by decide
  unfold U
  omega

theorem mul_l {c a b d v : Int} (hv : 0 ≤ v) (h : c * a ≤ c * b + d) : c * (v * a) ≤ c * (v * b) + v * d := by
  have h1 := Int.mul_le_mul_of_nonneg_left h hv
  rw [Int.mul_add, Int.mul_left_comm, Int.mul_left_comm v c b] at h1
  exact h1
theorem mul_u {c a b d u : Int} (hu : 0 ≤ u) (h : c * a ≤ c * b + d) : c * (a * u) ≤ c * (b * u) + d * u := by
  have h1 := Int.mul_le_mul_of_nonneg_right h hu
  rw [Int.add_mul, Int.mul_assoc, Int.mul_assoc] at h1
  exact h1

/-- S is the sum s, rounded k times on the way. -/
def Acc (k S s : Int) : Prop := 0 ≤ S ∧ 4503599627370496 * S ≤ 4503599627370496 * s + k * s ∧ 4503599627370496 * s ≤ 4503599627370496 * S + k * s

theorem acc_zero : Acc 0 0 0 := by unfold Acc; omega
theorem acc1 {S s a v : Int} (h : Acc 0 S s) (hs : 0 ≤ s) (ha : 0 ≤ a) (hn : Near v (S + a)) : Acc 1 v (s + a) := by unfold Acc Near at *; omega
theorem acc2 {S s a v : Int} (h : Acc 1 S s) (hs : 0 ≤ s) (ha : 0 ≤ a) (hn : Near v (S + a)) : Acc 2 v (s + a) := by unfold Acc Near at *; omega
theorem acc3 {S s a v : Int} (h : Acc 2 S s) (hs : 0 ≤ s) (ha : 0 ≤ a) (hn : Near v (S + a)) : Acc 3 v (s + a) := by unfold Acc Near at *; omega
theorem acc4 {S s a v : Int} (h : Acc 3 S s) (hs : 0 ≤ s) (ha : 0 ≤ a) (hn : Near v (S + a)) : Acc 4 v (s + a) := by unfold Acc Near at *; omega

/-- v is the quotient x / t, rounded. -/
def Quo (v x t : Int) : Prop := 0 ≤ v ∧ 9007199254740992 * (v * t) ≤ 9007199254740992 * (x * U) + 2 * (x * U) + 9007199254740992 * t ∧ 9007199254740992 * (x * U) ≤ 9007199254740992 * (v * t) + 2 * (x * U) + 9007199254740992 * t

/-- v is the share X / T, about. -/
def Share (v X T : Int) : Prop := 0 ≤ v ∧ 70368744177664 * (v * T) ≤ 70368744177664 * (X * U) + T * U ∧ 70368744177664 * (X * U) ≤ 70368744177664 * (v * T) + T * U

theorem share {T X x t v : Int} (hT : 0 < T) (hX0 : 0 ≤ X) (hXT : X ≤ T) (ht1 : 1125899906842624 * t ≤ 1125899906842624 * T + T) (ht2 : 1125899906842624 * T ≤ 1125899906842624 * t + T)
    (hx1 : 1125899906842624 * x ≤ 1125899906842624 * X + T) (hx2 : 1125899906842624 * X ≤ 1125899906842624 * x + T) (hv : Quo v x t) : Share v X T := by
  obtain ⟨hv0, hd1, hd2⟩ := hv
  have hU := U_big
  have a1 := mul_l hv0 ht1
  have a2 := mul_l hv0 ht2
  have a3 := mul_u (u := U) (by omega) hx1
  have a4 := mul_u (u := U) (by omega) hx2
  have a5 : X * U ≤ T * U := Int.mul_le_mul_of_nonneg_right hXT (by omega)
  have a6 : 0 ≤ X * U := Int.mul_nonneg hX0 (by omega)
  have a7 : T * 1180591620717411303424 ≤ T * U := Int.mul_le_mul_of_nonneg_left hU (by omega)
  have a8 : 0 ≤ v * T := Int.mul_nonneg hv0 (by omega)
  refine ⟨hv0, ?_, ?_⟩
  · generalize v * T = vT at *
    generalize v * t = vt at *
    generalize x * U = xU at *
    generalize X * U = XU at *
    generalize T * U = TU at *
    omega
  · generalize v * T = vT at *
    generalize v * t = vt at *
    generalize x * U = xU at *
    generalize X * U = XU at *
    generalize T * U = TU at *
    omega

theorem cancel {z u T : Int} (hT : 0 < T) (h : z * T ≤ u * T) : z ≤ u := Int.le_of_mul_le_mul_right h hT

/-- The three shares make up one; the same share reckoned twice is the same, about; none is above two. -/
theorem shares {A B W q1 o1 q2 o2 : Int} (hA : 0 ≤ A) (hB : 0 ≤ B) (hW : 0 < W) (h1 : Share q1 B (A + B + W)) (h2 : Share o1 W (A + B + W)) (h3 : Share q2 A (A + B + W)) (h4 : Share o2 W (A + B + W)) :
    17592186044416 * (q1 + o2 + q2) ≤ 17592186044416 * U + U ∧ 17592186044416 * U ≤ 17592186044416 * (q1 + o2 + q2) + U ∧
    35184372088832 * o1 ≤ 35184372088832 * o2 + U ∧ 35184372088832 * o2 ≤ 35184372088832 * o1 + U ∧
    q1 ≤ 2 * U ∧ o1 ≤ 2 * U ∧ q2 ≤ 2 * U ∧ o2 ≤ 2 * U := by
  have hU := U_big
  have hTU : (A + B + W) * U = A * U + B * U + W * U := by rw [Int.add_mul, Int.add_mul]
  have p1 : 0 ≤ A * U := Int.mul_nonneg hA (by omega)
  have p3 : 0 ≤ B * U := Int.mul_nonneg hB (by omega)
  have p4 : 0 ≤ W * U := Int.mul_nonneg (by omega) (by omega)
  have hT : 0 < A + B + W := by omega
  obtain ⟨_, a1, b1⟩ := h1
  obtain ⟨_, a2, b2⟩ := h2
  obtain ⟨_, a3, b3⟩ := h3
  obtain ⟨_, a4, b4⟩ := h4
  rw [hTU] at a1 b1 a2 b2 a3 b3 a4 b4
  have hUT : U * (A + B + W) = A * U + B * U + W * U := by rw [Int.mul_comm, hTU]
  generalize A + B + W = T at *
  refine ⟨cancel hT ?_, cancel hT ?_, cancel hT ?_, cancel hT ?_, cancel hT ?_, cancel hT ?_, cancel hT ?_, cancel hT ?_⟩
  all_goals
    simp only [Int.add_mul, Int.mul_add, Int.mul_assoc, hUT]
    generalize q1 * T = x1 at *
    generalize o1 * T = x2 at *
    generalize q2 * T = x3 at *
    generalize o2 * T = x4 at *
    generalize A * U = y1 at *
    generalize B * U = y2 at *
    generalize W * U = y3 at *
    omega

/-- m is the product x * y, rounded. -/
def Prod (m x y : Int) : Prop := 0 ≤ m ∧ 9007199254740992 * (m * U) ≤ 9007199254740992 * (x * y) + x * y + 9007199254740992 * U ∧ 9007199254740992 * (x * y) ≤ 9007199254740992 * (m * U) + x * y + 9007199254740992 * U

/-- What is known of the law's numbers. -/
structure Tile (q1 o1 q2 o2 hi lo : Int) : Prop where
  c1 : 17592186044416 * (q1 + o2 + q2) ≤ 17592186044416 * U + U
  c2 : 17592186044416 * U ≤ 17592186044416 * (q1 + o2 + q2) + U
  c3 : 35184372088832 * o1 ≤ 35184372088832 * o2 + U
  c4 : 35184372088832 * o2 ≤ 35184372088832 * o1 + U
  q1n : 0 ≤ q1
  o1n : 0 ≤ o1
  q2n : 0 ≤ q2
  o2n : 0 ≤ o2
  q1u : q1 ≤ 2 * U
  o1u : o1 ≤ 2 * U
  q2u : q2 ≤ 2 * U
  o2u : o2 ≤ 2 * U
  hiN : Near hi (U - q2)
  loN : Near lo (hi - o2)

/-- lo is q1, hi is q1 + o2, about. -/
theorem Tile.near {q1 o1 q2 o2 hi lo : Int} (t : Tile q1 o1 q2 o2 hi lo) : 8796093022208 * lo ≤ 8796093022208 * q1 + U ∧ 8796093022208 * q1 ≤ 8796093022208 * lo + U ∧ 8796093022208 * hi ≤ 8796093022208 * (q1 + o2) + U ∧ 8796093022208 * (q1 + o2) ≤ 8796093022208 * hi + U ∧
    -2 * U ≤ hi ∧ hi ≤ 2 * U - 1 ∧ -4 * U ≤ lo ∧ lo ≤ 4 * U := by
  obtain ⟨c1, c2, c3, c4, _, _, _, _, _, _, _, _, h1, h2⟩ := t
  have hU := U_big
  unfold Near at h1 h2
  omega

/-- What the law's last lines hold: the overlap, cut off at nought. -/
def Over (ov top lo : Int) : Prop := (top ≤ lo ∧ ov = 0) ∨ (0 ≤ ov ∧ Near ov (top - lo))

/-- NOTHING IS SHED: p does not pass what lies below. -/
theorem case_none {q1 o1 q2 o2 hi lo m top ov : Int} (t : Tile q1 o1 q2 o2 hi lo) (hm : Prod m o2 0) (hp : top ≤ q1) (hov : Over ov top lo) :
    2199023255552 * (m - ov) ≤ U ∧ 2199023255552 * (ov - m) ≤ U := by
  obtain ⟨n1, n2, n3, n4, n5, n6, n7, n8⟩ := t.near
  obtain ⟨m0, m1, m2⟩ := hm
  have hU := U_big
  rw [Int.mul_zero] at m1 m2
  have m3 : 9007199254740992 * m ≤ 9007199254740992 := cancel (T := U) (by omega) (by rw [Int.mul_assoc]; omega)
  clear m1 m2
  unfold Over Near at hov
  obtain ⟨_, _, _, _, _, _, _, _, _, _, _, _, _, _⟩ := t
  omega

/-- ALL IS SHED: p comes to the top of the tile, about. -/
theorem case_all {q1 o1 q2 o2 hi lo m top ov : Int} (t : Tile q1 o1 q2 o2 hi lo) (hm : Prod m o2 U) (hp1 : top ≤ hi) (hp2 : 1099511627776 * 4 * hi ≤ 1099511627776 * 4 * top + U) (hov : Over ov top lo) :
    2199023255552 * (m - ov) ≤ U ∧ 2199023255552 * (ov - m) ≤ U := by
  obtain ⟨n1, n2, n3, n4, n5, n6, n7, n8⟩ := t.near
  obtain ⟨m0, m1, m2⟩ := hm
  have hU := U_big
  have m3 : 9007199254740992 * m ≤ 9007199254740992 * o2 + o2 + 9007199254740992 := cancel (T := U) (by omega) (by rw [Int.add_mul, Int.add_mul, Int.mul_assoc, Int.mul_assoc]; omega)
  have m4 : 9007199254740992 * o2 ≤ 9007199254740992 * m + o2 + 9007199254740992 := cancel (T := U) (by omega) (by rw [Int.add_mul, Int.add_mul, Int.mul_assoc, Int.mul_assoc]; omega)
  clear m1 m2
  obtain ⟨c1, c2, c3, c4, p1, p2, p3, p4, p5, p6, p7, p8, h1, h2⟩ := t
  unfold Over Near at *
  omega

/-- A PART IS SHED. -/
theorem case_part {q1 o1 q2 o2 hi lo m P top ov ex r : Int} (t : Tile q1 o1 q2 o2 hi lo) (hr : Quo r ex o1) (hrU : r ≤ U) (hm : Prod m o2 r) (hex0 : 0 < ex) (hex1 : ex < o1) (hex : Near ex (P - q1))
    (htop : (top = P ∧ P ≤ hi) ∨ (top = hi ∧ hi < P)) (hov : Over ov top lo) :
    2199023255552 * (m - ov) ≤ U ∧ 2199023255552 * (ov - m) ≤ U := by
  obtain ⟨n1, n2, n3, n4, n5, n6, n7, n8⟩ := t.near
  obtain ⟨m0, m1, m2⟩ := hm
  obtain ⟨r0, r1, r2⟩ := hr
  have hU := U_big
  obtain ⟨c1, c2, c3, c4, p1, p2, p3, p4, p5, p6, p7, p8, h1, h2⟩ := t
  -- o2 * r is o1 * r, about
  have a1 := mul_u r0 c3
  have a2 := mul_u r0 c4
  have a3 : U * r ≤ U * U := Int.mul_le_mul_of_nonneg_left hrU (by omega)
  have a4 : r * o1 = o1 * r := Int.mul_comm _ _
  have a5 : U * 1180591620717411303424 ≤ U * U := Int.mul_le_mul_of_nonneg_left hU (by omega)
  have a6 : ex * U ≤ 2 * (U * U) := by
    have := Int.mul_le_mul_of_nonneg_right (show ex ≤ 2 * U by omega) (show 0 ≤ U by omega)
    rw [Int.mul_assoc] at this; exact this
  have a7 : 0 ≤ ex * U := Int.mul_nonneg (by omega) (by omega)
  have a8 : 0 ≤ o1 * r := Int.mul_nonneg (by omega) r0
  have a9 : 0 ≤ o2 * r := Int.mul_nonneg (by omega) r0
  rw [a4] at r1 r2
  have k1 : 17592186044416 * m ≤ 17592186044416 * ex + U := cancel (T := U) (by omega) (by
    rw [Int.add_mul, Int.mul_assoc, Int.mul_assoc]
    generalize o2 * r = z2 at *
    generalize o1 * r = z1 at *
    generalize ex * U = y at *
    generalize m * U = x at *
    generalize U * U = uu at *
    omega)
  have k2 : 17592186044416 * ex ≤ 17592186044416 * m + U := cancel (T := U) (by omega) (by
    rw [Int.add_mul, Int.mul_assoc, Int.mul_assoc]
    generalize o2 * r = z2 at *
    generalize o1 * r = z1 at *
    generalize ex * U = y at *
    generalize m * U = x at *
    generalize U * U = uu at *
    omega)
  clear a1 a2 a3 a4 a5 a6 a7 a8 a9 m1 m2 r1 r2
  unfold Over Near at *
  omega

/-- The last difference lies within the law's tolerance. -/
theorem last {m ov d : Int} (h1 : 2199023255552 * (m - ov) ≤ U) (h2 : 2199023255552 * (ov - m) ≤ U) (hd : Near d (m - ov)) : 1099511627776 * d ≤ U ∧ -U ≤ 1099511627776 * d := by
  have hU := U_big
  unfold Near at hd
  omega

end Go.Proofs.Qxb6602412a.Fl
