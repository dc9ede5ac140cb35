/-
  PLAIN MATHEMATICS ON float64: sum, difference, product, quotient, order, in units of 2^-1074.
-/
import Derived.Test.Qxb6602412aFloat
namespace Go.Proofs.Qxb6602412a.Fl
open Ieee
set_option linter.unusedSimpArgs false

/-- How a word is read. -/
theorem read_shape (x : Nat) : (∃ s m e, double.read x = .number s m e ∧ -1074 ≤ e ∧ e ≤ 971 ∧ m < 9007199254740992) ∨ (∃ s, double.read x = .infinity s) ∨ (∃ s f, double.read x = .nan s f) := by
  unfold Format.read
  rw [binade_eq, inf_eq, sign_eq, least_eq]
  simp only
  generalize x % 9223372036854775808 = R
  split
  · exact .inl ⟨_, _, _, rfl, by omega, by omega, by omega⟩
  · split
    · refine .inl ⟨_, _, _, rfl, by omega, by omega, ?_⟩
      have := Nat.mod_lt R (show 0 < 4503599627370496 by decide)
      omega
    · split
      · exact .inr (.inl ⟨_, rfl⟩)
      · exact .inr (.inr ⟨_, _, rfl⟩)

theorem Fin.read {x : Nat} {v : Int} (h : Fin x v) : ∃ s m e, double.read x = .number s m e ∧ -1074 ≤ e ∧ e ≤ 971 ∧ m < 9007199254740992 ∧ v = sv s (mv m e) := by
  obtain ⟨s, m, e, hr, he, hv⟩ := h
  rcases read_shape x with ⟨s', m', e', hr', h1, h2, h3⟩ | ⟨s', hr'⟩ | ⟨s', f, hr'⟩
  · rw [hr] at hr'
    injection hr' with i1 i2 i3
    subst i1; subst i2; subst i3
    exact ⟨s, m, e, hr, h1, h2, h3, hv⟩
  · rw [hr] at hr'; cases hr'
  · rw [hr] at hr'; cases hr'

/-- v is s, rounded: off by at most a part in 2^53. -/
def Near (v s : Int) : Prop := 9007199254740992 * v ≤ 9007199254740992 * s + (s.natAbs : Int) ∧ 9007199254740992 * s ≤ 9007199254740992 * v + (s.natAbs : Int)

theorem signed_eq (s : Bool) (m up : Nat) : signed s m up = sv s (m * 2 ^ up) := by
  unfold signed sv; rw [Nat.shiftLeft_eq]

theorem sv_mul (s : Bool) (v k : Nat) : sv s (v * k) = sv s v * (k : Int) := by
  cases s <;> simp [sv, Int.neg_mul]

theorem mv_split (m : Nat) (i base : Int) (h : base ≤ i) (hb : -1074 ≤ base) : mv m i = m * 2 ^ (i - base).toNat * 2 ^ (base + 1074).toNat := by
  unfold mv; rw [Nat.mul_assoc, ← Nat.pow_add, show (i - base).toNat + (base + 1074).toNat = (i + 1074).toNat by omega]

theorem sv_split (s : Bool) (m : Nat) (i base : Int) (h : base ≤ i) (hb : -1074 ≤ base) : sv s (mv m i) = sv s (m * 2 ^ (i - base).toNat) * ((2 ^ (base + 1074).toNat : Nat) : Int) := by
  rw [mv_split m i base h hb, sv_mul s (m * 2 ^ (i - base).toNat)]

theorem sv_natAbs (s : Bool) (v : Nat) : (sv s v).natAbs = v := by cases s <;> simp [sv]

theorem lt_of_p2 {a b : Nat} (h : 2 ^ a < p2 b) : a < b := (Nat.pow_lt_pow_iff_right (by decide : 1 < 2)).1 h

/-- THE SUM OF TWO NUMBERS. -/
theorem sum_spec (s t : Bool) (m n : Nat) (i j : Int) (hi : -1074 ≤ i) (hj : -1074 ≤ j) (hbig : (sv s (mv m i) + sv t (mv n j)).natAbs < p2 2097) :
    ∃ d v, Datum.sum (.number s m i) (.number t n j) = some d ∧ Fin (double.write d) v ∧ Near v (sv s (mv m i) + sv t (mv n j)) := by
  simp only [Datum.sum]
  generalize hb : min i j = base
  have hb1 : base ≤ i := by omega
  have hb2 : base ≤ j := by omega
  have hb3 : -1074 ≤ base := by omega
  rw [sv_split s m i base hb1 hb3, sv_split t n j base hb2 hb3, ← Int.add_mul] at hbig ⊢
  rw [signed_eq, signed_eq]
  generalize sv s (m * 2 ^ (i - base).toNat) + sv t (n * 2 ^ (j - base).toNat) = total at *
  by_cases h0 : total = 0
  · subst h0
    refine ⟨_, 0, rfl, ?_, by unfold Near; simp⟩
    simp only [if_true, Format.write, Format.nearest, Int.natAbs_zero]
    refine ⟨s && t, 0, -1074, ?_, by omega, by simp [sv, mv]⟩
    rw [read_word _ 0 (by omega)]
    rfl
  · rw [if_neg h0]
    have hm : total.natAbs ≠ 0 := by omega
    have hlt : base + (total.natAbs.log2 : Int) ≤ 1022 := by
      have h1 := Nat.log2_self_le hm
      have h2 : 2 ^ total.natAbs.log2 * 2 ^ (base + 1074).toNat ≤ total.natAbs * 2 ^ (base + 1074).toNat := Nat.mul_le_mul_right _ h1
      rw [Int.natAbs_mul, Int.natAbs_natCast] at hbig
      rw [← Nat.pow_add] at h2
      have h3 := lt_of_p2 (Nat.lt_of_le_of_lt h2 hbig)
      omega
    obtain ⟨m', e', hr, he, _, hspec⟩ := nearest_spec (decide (total < 0)) total.natAbs base hm hlt 0 (by omega)
    refine ⟨_, sv (decide (total < 0)) (mv m' e'), rfl, ⟨_, m', e', hr, he, rfl⟩, ?_⟩
    rcases hspec with hspec | hspec
    · rw [Nat.pow_zero, Nat.mul_one, show (base + 1074 + ((0 : Nat) : Int)).toNat = (base + 1074).toNat by omega] at hspec
      generalize 2 ^ (base + 1074).toNat = g at *
      generalize mv m' e' = v at *
      unfold Near
      rw [Int.natAbs_mul, Int.natAbs_natCast]
      by_cases hneg : total < 0
      · obtain ⟨k, rfl⟩ : ∃ k : Nat, total = -(k : Int) := ⟨total.natAbs, by omega⟩
        rw [show decide (-(k : Int) < 0) = true from decide_eq_true hneg]
        simp only [sv, if_true, Int.natAbs_neg, Int.natAbs_natCast, Int.neg_mul] at *
        rw [← Int.natCast_mul]
        generalize k * g = x at *
        omega
      · obtain ⟨k, rfl⟩ : ∃ k : Nat, total = (k : Int) := ⟨total.natAbs, by omega⟩
        rw [show decide ((k : Int) < 0) = false from decide_eq_false hneg]
        simp only [sv, Bool.false_eq_true, if_false, Int.natAbs_natCast] at *
        rw [← Int.natCast_mul]
        generalize k * g = x at *
        omega
    · omega

theorem add_spec {x y : Nat} {a b : Int} (hx : Fin x a) (hy : Fin y b) (hbig : (a + b).natAbs < p2 2097) : ∃ r v, double.add x y = some r ∧ Fin r v ∧ Near v (a + b) := by
  obtain ⟨s, m, i, hr, hi, rfl⟩ := hx
  obtain ⟨t, n, j, hr', hj, rfl⟩ := hy
  obtain ⟨d, v, hd, hf, hn⟩ := sum_spec s t m n i j hi hj hbig
  exact ⟨_, v, by unfold Format.add; rw [hr, hr', hd]; rfl, hf, hn⟩

theorem sv_not (t : Bool) (v : Nat) : sv (!t) v = -sv t v := by cases t <;> simp [sv]

theorem sub_spec {x y : Nat} {a b : Int} (hx : Fin x a) (hy : Fin y b) (hbig : (a - b).natAbs < p2 2097) : ∃ r v, double.sub x y = some r ∧ Fin r v ∧ Near v (a - b) := by
  obtain ⟨s, m, i, hr, hi, rfl⟩ := hx
  obtain ⟨t, n, j, hr', hj, rfl⟩ := hy
  have hb : (sv s (mv m i) + sv (!t) (mv n j)).natAbs < p2 2097 := by rw [sv_not, ← Int.sub_eq_add_neg]; exact hbig
  obtain ⟨d, v, hd, hf, hn⟩ := sum_spec s (!t) m n i j hi hj hb
  rw [sv_not, ← Int.sub_eq_add_neg] at hn
  exact ⟨_, v, by unfold Format.sub; rw [hr, hr']; simp only [Datum.opposite]; rw [hd]; rfl, hf, hn⟩

/-- THE ORDER OF TWO FINITE WORDS is that of their values. -/
theorem order_spec {x y : Nat} {a b : Int} (hx : Fin x a) (hy : Fin y b) : double.order x y = some (compare a b) := by
  obtain ⟨s, m, i, hr, hi, rfl⟩ := hx
  obtain ⟨t, n, j, hr', hj, rfl⟩ := hy
  unfold Format.order
  rw [hr, hr']
  simp only [Datum.order]
  generalize hb : min i j = base
  have hb1 : base ≤ i := by omega
  have hb2 : base ≤ j := by omega
  have hb3 : -1074 ≤ base := by omega
  rw [sv_split s m i base hb1 hb3, sv_split t n j base hb2 hb3, signed_eq, signed_eq]
  have hp : 0 < ((2 ^ (base + 1074).toNat : Nat) : Int) := by have := Nat.two_pow_pos (base + 1074).toNat; omega
  generalize ((2 ^ (base + 1074).toNat : Nat) : Int) = g at *
  generalize sv s (m * 2 ^ (i - base).toNat) = a
  generalize sv t (n * 2 ^ (j - base).toNat) = b
  congr 1
  rcases Int.lt_trichotomy a b with h | h | h
  · rw [Int.compare_eq_lt.2 h, Int.compare_eq_lt.2 (Int.mul_lt_mul_of_pos_right h hp)]
  · subst h; rw [Int.compare_eq_eq.2 rfl, Int.compare_eq_eq.2 rfl]
  · rw [Int.compare_eq_gt.2 h, Int.compare_eq_gt.2 (Int.mul_lt_mul_of_pos_right h hp)]

theorem le_of_p2 {a b : Nat} (h : 2 ^ a ≤ p2 b) : a ≤ b := (Nat.pow_le_pow_iff_right (by decide : 1 < 2)).1 h
theorem pow_p2 (a b : Nat) : 2 ^ a * p2 b = 2 ^ (a + b) := (Nat.pow_add 2 a b).symm
theorem p2_succ (n : Nat) : p2 (n + 1) = p2 n * 2 := Nat.pow_succ ..
theorem p2_lt {a b : Nat} (h : p2 a < 2 ^ b) : a < b := (Nat.pow_lt_pow_iff_right (by decide : 1 < 2)).1 h
theorem pow_is (a b : Nat) (h : a = b) : 2 ^ a = p2 b := by rw [h]; rfl

theorem mul_r1 {N a b c : Nat} (k : Nat) (h : N * a ≤ N * b + c) : N * (a * k) ≤ N * (b * k) + c * k := by
  have := Nat.mul_le_mul_right k h
  rw [Nat.add_mul, Nat.mul_assoc, Nat.mul_assoc] at this
  exact this

/-- One, in units. -/
def U : Int := (p2 1074 : Nat)

theorem mv_mul (m n : Nat) (i j : Int) (hi : -1074 ≤ i) (hj : -1074 ≤ j) : m * n * 2 ^ (i + j + 1074 + ((1074 : Nat) : Int)).toNat = mv m i * mv n j := by
  unfold mv
  rw [show (i + j + 1074 + ((1074 : Nat) : Int)).toNat = (i + 1074).toNat + (j + 1074).toNat by omega, Nat.pow_add]
  rw [Nat.mul_assoc, Nat.mul_assoc, ← Nat.mul_assoc n, Nat.mul_comm n, Nat.mul_assoc]

theorem sv_pos {s : Bool} {v : Nat} (h : 0 ≤ sv s v) (hv : v ≠ 0) : s = false := by
  cases s with
  | false => rfl
  | true => simp [sv] at h; omega

theorem mv_ne {m : Nat} {e : Int} (h : m ≠ 0) : mv m e ≠ 0 := by
  unfold mv
  have := Nat.two_pow_pos (e + 1074).toNat
  exact Nat.mul_ne_zero h (by omega)

/-- THE PRODUCT of two that are not negative. -/
theorem mul_spec {x y : Nat} {a b : Int} (hx : Fin x a) (hy : Fin y b) (ha : 0 ≤ a) (hb : 0 ≤ b) (hbig : a.natAbs * b.natAbs < p2 3171) :
    ∃ r v, double.mul x y = some r ∧ Fin r v ∧ 0 ≤ v ∧ 9007199254740992 * (v * U) ≤ 9007199254740992 * (a * b) + a * b + 9007199254740992 * U ∧ 9007199254740992 * (a * b) ≤ 9007199254740992 * (v * U) + a * b + 9007199254740992 * U := by
  obtain ⟨s, m, i, hr, hi, rfl⟩ := hx
  obtain ⟨t, n, j, hr', hj, rfl⟩ := hy
  have hU : 0 ≤ U := Int.natCast_nonneg _
  unfold Format.mul
  rw [hr, hr']
  simp only [Datum.product, Option.map_some, Format.write]
  by_cases hm : m * n = 0
  · refine ⟨_, 0, rfl, ⟨s ^^ t, 0, -1074, ?_, by omega, by simp [sv, mv]⟩, by omega, ?_⟩
    · rw [hm]; simp only [Format.nearest, if_true]
      rw [read_word _ 0 (by omega)]; rfl
    · have h0 : sv s (mv m i) * sv t (mv n j) = 0 := by
        rcases Nat.mul_eq_zero.1 hm with h | h
        · subst h; simp [sv, mv]
        · subst h; simp [sv, mv]
      rw [h0, Int.zero_mul]
      omega
  · have hm0 : m ≠ 0 := fun h => hm (by rw [h, Nat.zero_mul])
    have hn0 : n ≠ 0 := fun h => hm (by rw [h, Nat.mul_zero])
    obtain rfl := sv_pos ha (mv_ne hm0)
    obtain rfl := sv_pos hb (mv_ne hn0)
    rw [sv_natAbs, sv_natAbs] at hbig
    have hlog : i + j + ((m * n).log2 : Int) ≤ 1022 := by
      have h1 := Nat.log2_self_le hm
      have h2 : 2 ^ (m * n).log2 * 2 ^ (i + j + 1074 + ((1074 : Nat) : Int)).toNat ≤ m * n * 2 ^ (i + j + 1074 + ((1074 : Nat) : Int)).toNat := Nat.mul_le_mul_right _ h1
      rw [mv_mul m n i j hi hj, ← Nat.pow_add] at h2
      have h3 := lt_of_p2 (Nat.lt_of_le_of_lt h2 hbig)
      omega
    obtain ⟨m', e', hr2, he, _, hspec⟩ := nearest_spec (false ^^ false) (m * n) (i + j) hm hlog 1074 (by omega)
    refine ⟨_, sv false (mv m' e'), rfl, ⟨_, m', e', hr2, he, rfl⟩, by simp [sv], ?_⟩
    rw [mv_mul m n i j hi hj, p2_of 1074] at hspec
    simp only [sv, Bool.false_eq_true, if_false]
    unfold U
    rw [← Int.natCast_mul, ← Int.natCast_mul]
    generalize mv m' e' * p2 1074 = z at *
    generalize mv m i * mv n j = x at *
    generalize p2 1074 = u at *
    rcases hspec with h | h <;> omega

/-- THE QUOTIENT of one that is not negative by one that is positive, and at most twice it. -/
theorem div_spec {x y : Nat} {a b : Int} (hx : Fin x a) (hy : Fin y b) (ha : 0 ≤ a) (hb : 0 < b) (hab : a ≤ 2 * b) :
    ∃ r v, double.div x y = some r ∧ Fin r v ∧ 0 ≤ v ∧ 9007199254740992 * (v * b) ≤ 9007199254740992 * (a * U) + 2 * (a * U) + 9007199254740992 * b ∧ 9007199254740992 * (a * U) ≤ 9007199254740992 * (v * b) + 2 * (a * U) + 9007199254740992 * b ∧
      (a < b → v ≤ U) := by
  obtain ⟨s, m, i, hr, hi, hi2, hm53, rfl⟩ := hx.read
  obtain ⟨t, n, j, hr', hj, hj2, hn53, rfl⟩ := hy.read
  have hU : 0 ≤ U := Int.natCast_nonneg _
  have hn0 : n ≠ 0 := fun h => by subst h; simp [sv, mv] at hb
  obtain rfl := sv_pos (Int.le_of_lt hb) (mv_ne hn0)
  unfold Format.div
  rw [hr, hr', show double.fractionBits + 2 = 54 from rfl]
  simp only [Datum.quotient]
  rw [if_neg hn0]
  simp only [Option.map_some, Format.write]
  by_cases hm0 : m = 0
  · subst hm0
    simp only [Nat.zero_shiftLeft, Nat.zero_div, Nat.zero_mod, Nat.mul_zero]
    refine ⟨_, 0, rfl, ⟨s ^^ false, 0, -1074, ?_, by omega, by simp [sv, mv]⟩, by omega, ?_⟩
    · simp only [Format.nearest, if_true, bne_self_eq_false, Bool.toNat_false, Nat.add_zero]
      rw [read_word _ 0 (by omega)]; rfl
    · have h0 : sv s (mv 0 i) = 0 := by simp [sv, mv]
      rw [h0, Int.zero_mul, Int.zero_mul]
      refine ⟨by omega, by omega, fun _ => hU⟩
  · obtain rfl := sv_pos ha (mv_ne hm0)
    simp only [sv, Bool.false_eq_true, if_false] at hb hab ⊢
    have hlm := Nat.log2_self_le hm0
    have hln : n < 2 ^ (n.log2 + 1) := Nat.lt_log2_self
    have hlm2 : m.log2 < 53 := (Nat.log2_lt hm0).2 hm53
    have hln2 : n.log2 < 53 := (Nat.log2_lt hn0).2 hn53
    obtain ⟨more, hmore⟩ : ∃ k, 54 + n.log2 - m.log2 = k := ⟨_, rfl⟩
    rw [hmore, Nat.shiftLeft_eq]
    have hq53 : 9007199254740992 ≤ m * 2 ^ more / n := by
      rw [Nat.le_div_iff_mul_le (by omega)]
      have h1 : 2 ^ m.log2 * 2 ^ more ≤ m * 2 ^ more := Nat.mul_le_mul_right _ hlm
      rw [← Nat.pow_add, show m.log2 + more = 53 + (n.log2 + 1) by omega, Nat.pow_add 2 53] at h1
      have h2 : 9007199254740992 * n ≤ 2 ^ 53 * 2 ^ (n.log2 + 1) := Nat.mul_le_mul (by decide) (by omega)
      omega
    have hdm := Nat.div_add_mod (m * 2 ^ more) n
    have hrl := Nat.mod_lt (m * 2 ^ more) (show 0 < n by omega)
    obtain ⟨st, hst, hst1⟩ : ∃ st, (m * 2 ^ more % n != 0).toNat = st ∧ ((m * 2 ^ more % n = 0 ∧ st = 0) ∨ (m * 2 ^ more % n ≠ 0 ∧ st = 1)) := by
      refine ⟨_, rfl, ?_⟩
      by_cases h : m * 2 ^ more % n = 0
      · exact .inl ⟨h, by simp [h]⟩
      · exact .inr ⟨h, by simp [h]⟩
    rw [hst]
    clear hst
    generalize hdv : m * 2 ^ more = dv at *
    generalize dv / n = q at *
    generalize dv % n = rm at *
    -- the number that is written, against the exact quotient
    have hmag0 : 2 * q + st ≠ 0 := by omega
    have hmg1 : (2 * q + st) * n ≤ 2 * dv + n := by
      rw [Nat.add_mul, Nat.mul_assoc, Nat.mul_comm q]
      rcases hst1 with ⟨h1, h2⟩ | ⟨h1, h2⟩ <;> subst h2 <;> simp only [Nat.zero_mul, Nat.one_mul] <;> omega
    have hmg2 : 2 * dv ≤ (2 * q + st) * n + n := by
      rw [Nat.add_mul, Nat.mul_assoc, Nat.mul_comm q]
      rcases hst1 with ⟨h1, h2⟩ | ⟨h1, h2⟩ <;> subst h2 <;> simp only [Nat.zero_mul, Nat.one_mul] <;> omega
    have hmag54 : 18014398509481984 ≤ 2 * q + st := by omega
    have hqn : q * n ≤ dv := by rw [Nat.mul_comm]; omega
    have hstle : st ≤ 1 := by omega
    have hq1 : 1 ≤ q := by omega
    clear hst1 hdm hrl hq53
    -- the exponents
    obtain ⟨L, hL⟩ : ∃ L, (i - j - (more : Int) - 1 + 1074 + ((2148 : Nat) : Int)).toNat = L := ⟨_, rfl⟩
    obtain ⟨J, hJ⟩ : ∃ J, (j + 1074).toNat = J := ⟨_, rfl⟩
    obtain ⟨I, hI⟩ : ∃ I, (i + 1074).toNat = I := ⟨_, rfl⟩
    have hexp : more + 1 + (L + J) = I + (1074 + 2148) := by omega
    have hBn : mv n j = n * 2 ^ J := by unfold mv; rw [hJ]
    have hA : mv m i = m * 2 ^ I := by unfold mv; rw [hI]
    have hE : 2 * dv * (2 ^ L * 2 ^ J) = mv m i * (p2 1074 * p2 2148) := by
      rw [hA, ← p2_add, Nat.mul_assoc m, pow_p2, ← hexp, ← hdv, Nat.pow_add 2 (more + 1), Nat.pow_add 2 more 1, Nat.pow_add 2 L J, Nat.pow_one]
      simp only [Nat.mul_assoc, Nat.mul_comm, Nat.mul_left_comm]
    have hBpos : 0 < mv n j := Nat.pos_of_ne_zero (mv_ne hn0)
    have hY1 : (2 * q + st) * 2 ^ L * mv n j ≤ mv m i * (p2 1074 * p2 2148) + 2 ^ L * mv n j := by
      have h := Nat.mul_le_mul_right (2 ^ L * 2 ^ J) hmg1
      rw [Nat.add_mul (2 * dv), hE] at h
      rw [hBn]
      have e1 : (2 * q + st) * 2 ^ L * (n * 2 ^ J) = (2 * q + st) * n * (2 ^ L * 2 ^ J) := by simp only [Nat.mul_assoc, Nat.mul_comm, Nat.mul_left_comm]
      have e2 : 2 ^ L * (n * 2 ^ J) = n * (2 ^ L * 2 ^ J) := by simp only [Nat.mul_assoc, Nat.mul_comm, Nat.mul_left_comm]
      rw [e1, e2]; exact h
    have hY2 : mv m i * (p2 1074 * p2 2148) ≤ (2 * q + st) * 2 ^ L * mv n j + 2 ^ L * mv n j := by
      have h := Nat.mul_le_mul_right (2 ^ L * 2 ^ J) hmg2
      rw [Nat.add_mul, hE] at h
      rw [hBn]
      have e1 : (2 * q + st) * 2 ^ L * (n * 2 ^ J) = (2 * q + st) * n * (2 ^ L * 2 ^ J) := by simp only [Nat.mul_assoc, Nat.mul_comm, Nat.mul_left_comm]
      have e2 : 2 ^ L * (n * 2 ^ J) = n * (2 ^ L * 2 ^ J) := by simp only [Nat.mul_assoc, Nat.mul_comm, Nat.mul_left_comm]
      rw [e1, e2]; exact h
    have hY3 : 18014398509481984 * (2 ^ L * mv n j) ≤ (2 * q + st) * 2 ^ L * mv n j := by
      have h := Nat.mul_le_mul_right (2 ^ L * mv n j) hmag54
      rw [← Nat.mul_assoc (2 * q + st)] at h
      exact h
    -- not too great
    have hlog0 : 2 ^ ((2 * q + st).log2 + L) ≤ (2 * q + st) * 2 ^ L := by
      rw [Nat.pow_add]; exact Nat.mul_le_mul_right _ (Nat.log2_self_le hmag0)
    have hlog : i - j - (more : Int) - 1 + ((2 * q + st).log2 : Int) ≤ 1022 := by
      have h1 : mv m i * (p2 1074 * p2 2148) ≤ 2 * mv n j * (p2 1074 * p2 2148) := Nat.mul_le_mul_right _ (by omega)
      have h2 : (2 * q + st) * 2 ^ L * mv n j ≤ (p2 2 * (p2 1074 * p2 2148)) * mv n j := by
        have e1 : (p2 2 * (p2 1074 * p2 2148)) * mv n j = 2 * (2 * mv n j * (p2 1074 * p2 2148)) := by
          rw [show p2 2 = 2 * 2 from rfl]; simp only [Nat.mul_assoc, Nat.mul_comm, Nat.mul_left_comm]
        rw [e1]
        generalize (2 * q + st) * 2 ^ L * mv n j = Y at *
        generalize 2 ^ L * mv n j = h at *
        generalize mv m i * (p2 1074 * p2 2148) = G at *
        generalize 2 * mv n j * (p2 1074 * p2 2148) = G2 at *
        omega
      have h3 := Nat.le_of_mul_le_mul_right h2 hBpos
      rw [← p2_add, ← p2_add] at h3
      have h4 := le_of_p2 (b := 2 + (1074 + 2148)) (Nat.le_trans hlog0 h3)
      omega
    obtain ⟨m', e', hr2, he, hone, hspec⟩ := nearest_spec (false ^^ false) (2 * q + st) (i - j - (more : Int) - 1) hmag0 hlog 2148 (by omega)
    rw [hL, p2_of 2148] at hspec
    refine ⟨_, sv false (mv m' e'), rfl, ⟨_, m', e', hr2, he, rfl⟩, by simp [sv], ?_⟩
    simp only [sv, Bool.false_eq_true, if_false]
    have hSpos : 0 < p2 2148 := p2_pos _
    have hmain : 9007199254740992 * (mv m' e' * mv n j) ≤ 9007199254740992 * (mv m i * p2 1074) + 2 * (mv m i * p2 1074) + 9007199254740992 * mv n j ∧
        9007199254740992 * (mv m i * p2 1074) ≤ 9007199254740992 * (mv m' e' * mv n j) + 2 * (mv m i * p2 1074) + 9007199254740992 * mv n j := by
      have hZ : (9007199254740992 * (mv m' e' * p2 2148 * mv n j) ≤ 9007199254740992 * ((2 * q + st) * 2 ^ L * mv n j) + (2 * q + st) * 2 ^ L * mv n j + 9007199254740992 * (p2 2148 * mv n j)) ∧
          (9007199254740992 * ((2 * q + st) * 2 ^ L * mv n j) ≤ 9007199254740992 * (mv m' e' * p2 2148 * mv n j) + (2 * q + st) * 2 ^ L * mv n j + 9007199254740992 * (p2 2148 * mv n j)) := by
        rcases hspec with ⟨h1, h2⟩ | ⟨_, h1, h2⟩
        · have k1 := mul_r1 (mv n j) h1
          have k2 := mul_r1 (mv n j) h2
          generalize (2 * q + st) * 2 ^ L * mv n j = Y at *
          generalize mv m' e' * p2 2148 * mv n j = Z at *
          generalize p2 2148 * mv n j = T at *
          omega
        · have k1 := mul_r1 (mv n j) h1
          have k2 := mul_r1 (mv n j) h2
          generalize (2 * q + st) * 2 ^ L * mv n j = Y at *
          generalize mv m' e' * p2 2148 * mv n j = Z at *
          generalize p2 2148 * mv n j = T at *
          omega
      have e1 : mv m' e' * p2 2148 * mv n j = mv m' e' * mv n j * p2 2148 := by simp only [Nat.mul_assoc, Nat.mul_comm, Nat.mul_left_comm]
      have e2 : mv m i * (p2 1074 * p2 2148) = mv m i * p2 1074 * p2 2148 := by rw [Nat.mul_assoc]
      have e3 : p2 2148 * mv n j = mv n j * p2 2148 := Nat.mul_comm _ _
      rw [e1, e3] at hZ
      rw [e2] at hY1 hY2
      constructor
      · refine Nat.le_of_mul_le_mul_right ?_ hSpos
        rw [Nat.add_mul, Nat.add_mul, Nat.mul_assoc 9007199254740992, Nat.mul_assoc 9007199254740992, Nat.mul_assoc 2, Nat.mul_assoc 9007199254740992]
        generalize (2 * q + st) * 2 ^ L * mv n j = Y at *
        generalize 2 ^ L * mv n j = h at *
        generalize mv m i * p2 1074 * p2 2148 = G at *
        generalize mv m' e' * mv n j * p2 2148 = Z at *
        generalize mv n j * p2 2148 = T at *
        omega
      · refine Nat.le_of_mul_le_mul_right ?_ hSpos
        rw [Nat.add_mul, Nat.add_mul, Nat.mul_assoc 9007199254740992, Nat.mul_assoc 9007199254740992, Nat.mul_assoc 2, Nat.mul_assoc 9007199254740992]
        generalize (2 * q + st) * 2 ^ L * mv n j = Y at *
        generalize 2 ^ L * mv n j = h at *
        generalize mv m i * p2 1074 * p2 2148 = G at *
        generalize mv m' e' * mv n j * p2 2148 = Z at *
        generalize mv n j * p2 2148 = T at *
        omega
    unfold U
    rw [← Int.natCast_mul, ← Int.natCast_mul]
    refine ⟨by have := hmain.1; generalize mv m' e' * mv n j = z at *; generalize mv m i * p2 1074 = y at *; omega, by have := hmain.2; generalize mv m' e' * mv n j = z at *; generalize mv m i * p2 1074 = y at *; omega, fun hlt => ?_⟩
    have hlt' : mv m i < mv n j := by omega
    have hle : i - j - (more : Int) - 1 + ((2 * q + st).log2 : Int) ≤ -1 := by
      by_cases hbad : 3222 ≤ (2 * q + st).log2 + L
      · exfalso
        have h1 : 2 * dv * (2 ^ L * 2 ^ J) < n * p2 (1074 + 2148) * 2 ^ J := by
          rw [hE, ← p2_add]
          have h := Nat.mul_lt_mul_of_pos_right hlt' (p2_pos (1074 + 2148))
          rw [hBn] at h
          have e : n * 2 ^ J * p2 (1074 + 2148) = n * p2 (1074 + 2148) * 2 ^ J := by simp only [Nat.mul_assoc, Nat.mul_comm, Nat.mul_left_comm]
          rw [e] at h; exact h
        rw [← Nat.mul_assoc] at h1
        have h2 := Nat.lt_of_mul_lt_mul_right h1
        by_cases hg : 3222 ≤ L
        · have h3 : p2 (1074 + 2148) ≤ 2 ^ L := p2_le (by omega)
          have h4 : n ≤ 2 * dv := by
            have : n ≤ q * n := Nat.le_mul_of_pos_left n (by omega)
            omega
          have h5 : n * p2 (1074 + 2148) ≤ 2 * dv * 2 ^ L := Nat.mul_le_mul h4 h3
          omega
        · obtain ⟨g, hgg⟩ : ∃ g, g + 1 + L = 1074 + 2148 := ⟨1074 + 2148 - L - 1, by omega⟩
          have h3 : 2 ^ (g + 1) ≤ 2 * q + st := Nat.le_trans (Nat.pow_le_pow_right (by decide) (by omega)) (Nat.log2_self_le hmag0)
          rw [Nat.pow_succ] at h3
          have h4 : 2 ^ g ≤ q := by omega
          have h5 : 2 ^ g * n ≤ dv := Nat.le_trans (Nat.mul_le_mul_right n h4) hqn
          have h6 : 2 * (2 ^ g * n) * 2 ^ L ≤ 2 * dv * 2 ^ L := Nat.mul_le_mul_right _ (Nat.mul_le_mul_left 2 h5)
          have h7 : 2 * (2 ^ g * n) * 2 ^ L = n * p2 (1074 + 2148) := by
            rw [← hgg, ← p2_of, Nat.pow_add, Nat.pow_succ]
            simp only [Nat.mul_assoc, Nat.mul_comm, Nat.mul_left_comm]
          omega
      · omega
    have := hone hle
    omega

/-! ### a difference of whatever size: its sign -/
/-- Nought or less. -/
def Lo (r : Nat) : Prop := double.read r = .infinity true ∨ ∃ v, Fin r v ∧ v ≤ 0
/-- Two or more. -/
def Hi (r : Nat) : Prop := double.read r = .infinity false ∨ ∃ v, Fin r v ∧ 2 * U ≤ v

theorem sum_any (s t : Bool) (m n : Nat) (i j : Int) (hi : -1074 ≤ i) (hj : -1074 ≤ j) :
    ∃ d, Datum.sum (.number s m i) (.number t n j) = some d ∧ (sv s (mv m i) + sv t (mv n j) ≤ 0 → Lo (double.write d)) ∧ (2 * U ≤ sv s (mv m i) + sv t (mv n j) → Hi (double.write d)) := by
  simp only [Datum.sum]
  generalize hb : min i j = base
  have hb1 : base ≤ i := by omega
  have hb2 : base ≤ j := by omega
  have hb3 : -1074 ≤ base := by omega
  have hUpos : 0 < U := by unfold U; have := p2_pos 1074; omega
  rw [sv_split s m i base hb1 hb3, sv_split t n j base hb2 hb3, ← Int.add_mul]
  rw [signed_eq, signed_eq]
  generalize sv s (m * 2 ^ (i - base).toNat) + sv t (n * 2 ^ (j - base).toNat) = total at *
  have hgpos : 0 < 2 ^ (base + 1074).toNat := Nat.two_pow_pos _
  by_cases h0 : total = 0
  · subst h0
    refine ⟨_, rfl, fun _ => .inr ⟨0, ?_, by omega⟩, fun h => by rw [Int.zero_mul] at h; omega⟩
    simp only [if_true, Format.write, Format.nearest, Int.natAbs_zero]
    refine ⟨s && t, 0, -1074, ?_, by omega, by simp [sv, mv]⟩
    rw [read_word _ 0 (by omega)]
    rfl
  · rw [if_neg h0]
    have hm : total.natAbs ≠ 0 := by omega
    refine ⟨_, rfl, fun hle => ?_, fun hge => ?_⟩
    · have hneg : total < 0 := by
        rcases Int.lt_trichotomy total 0 with h | h | h
        · exact h
        · exact absurd h h0
        · have := Int.mul_pos h (show (0 : Int) < ((2 ^ (base + 1074).toNat : Nat) : Int) by omega)
          omega
      rw [show decide (total < 0) = true from decide_eq_true hneg]
      simp only [Format.write]
      rcases nearest_any true total.natAbs base hm with h | ⟨m', e', hr, he, _⟩
      · exact .inl h
      · exact .inr ⟨_, ⟨_, m', e', hr, he, rfl⟩, by simp [sv]⟩
    · have hpos : 0 < total := by
        rcases Int.lt_trichotomy total 0 with h | h | h
        · have := Int.mul_neg_of_neg_of_pos h (show (0 : Int) < ((2 ^ (base + 1074).toNat : Nat) : Int) by omega)
          omega
        · exact absurd h h0
        · exact h
      rw [show decide (total < 0) = false from decide_eq_false (by omega)]
      simp only [Format.write]
      rcases nearest_any false total.natAbs base hm with h | ⟨m', e', hr, he, hbig⟩
      · exact .inl h
      · refine .inr ⟨_, ⟨_, m', e', hr, he, rfl⟩, ?_⟩
        have hlog : 1 ≤ base + (total.natAbs.log2 : Int) := by
          obtain ⟨k, rfl⟩ : ∃ k : Nat, total = (k : Int) := ⟨total.natAbs, by omega⟩
          rw [Int.natAbs_natCast] at *
          have h1 : p2 1074 * 2 ≤ k * 2 ^ (base + 1074).toNat := by
            unfold U at hge
            rw [← Int.natCast_mul] at hge
            omega
          have h2 : k < 2 ^ (k.log2 + 1) := Nat.lt_log2_self
          have h3 : k * 2 ^ (base + 1074).toNat < 2 ^ (k.log2 + 1) * 2 ^ (base + 1074).toNat := Nat.mul_lt_mul_of_pos_right h2 hgpos
          rw [← Nat.pow_add] at h3
          rw [← p2_succ] at h1
          have h5 := p2_lt (Nat.lt_of_le_of_lt h1 h3)
          omega
        have h6 := hbig hlog
        have h7 : p2 1075 = p2 1074 * 2 := p2_succ 1074
        simp only [sv, Bool.false_eq_true, if_false]
        unfold U
        omega

theorem sub_any {x y : Nat} {a b : Int} (hx : Fin x a) (hy : Fin y b) : ∃ r, double.sub x y = some r ∧ (a - b ≤ 0 → Lo r) ∧ (2 * U ≤ a - b → Hi r) := by
  obtain ⟨s, m, i, hr, hi, rfl⟩ := hx
  obtain ⟨t, n, j, hr', hj, rfl⟩ := hy
  obtain ⟨d, hd, h1, h2⟩ := sum_any s (!t) m n i j hi hj
  rw [sv_not, ← Int.sub_eq_add_neg] at h1 h2
  exact ⟨_, by unfold Format.sub; rw [hr, hr']; simp only [Datum.opposite]; rw [hd]; rfl, h1, h2⟩

/-- From an infinity. -/
theorem sub_inf {x y : Nat} {b : Int} {s : Bool} (hx : double.read x = .infinity s) (hy : Fin y b) : ∃ r, double.sub x y = some r ∧ double.read r = .infinity s := by
  obtain ⟨t, n, j, hr', hj, rfl⟩ := hy
  refine ⟨_, by unfold Format.sub; rw [hx, hr']; rfl, ?_⟩
  simp only [Format.write]
  rw [inf_eq, read_word s _ (by omega)]
  rfl

theorem Lo.order {r y : Nat} (h : Lo r) (hy : Fin y 0) : double.order r y = some .lt ∨ double.order r y = some .eq := by
  rcases h with h | ⟨v, hv, hle⟩
  · obtain ⟨t, n, j, hr', _⟩ := hy
    left; unfold Format.order; rw [h, hr']; rfl
  · rw [order_spec hv hy]
    by_cases h0 : v = 0
    · right; rw [Int.compare_eq_eq.2 h0]
    · left; rw [Int.compare_eq_lt.2 (by omega)]

theorem Hi.order {r y : Nat} {c : Int} (h : Hi r) (hy : Fin y c) (hc : c < 2 * U) : double.order r y = some .gt := by
  rcases h with h | ⟨v, hv, hle⟩
  · obtain ⟨t, n, j, hr', _⟩ := hy
    unfold Format.order; rw [h, hr']; rfl
  · rw [order_spec hv hy, Int.compare_eq_gt.2 (by omega)]

/-! ### the constants -/
theorem fin_zero : Fin 0 0 := ⟨false, 0, -1074, by decide, by omega, by simp [sv, mv]⟩
theorem fin_one : Fin 4607182418800017408 U := by
  refine ⟨false, 4503599627370496, -52, by decide, by omega, ?_⟩
  simp only [sv, Bool.false_eq_true, if_false, U, mv]
  rw [show (-52 + 1074 : Int).toNat = 1022 from rfl, show (4503599627370496 : Nat) = p2 52 from by decide, p2_of 1022, ← p2_add]

/-- The sign turned. -/
theorem fin_neg {x : Nat} {v : Int} (hx : Fin x v) (h64 : x < 18446744073709551616) : Fin (x ^^^ 2 ^ 63) (-v) := by
  have e1 : (x ^^^ 2 ^ 63) % 9223372036854775808 = x % 9223372036854775808 := by
    have := @Nat.xor_mod_two_pow x (2 ^ 63) 63
    simpa using this
  have e2 : (x ^^^ 2 ^ 63) / 9223372036854775808 = x / 9223372036854775808 ^^^ 1 := by
    have := @Nat.xor_div_two_pow x (2 ^ 63) 63
    simpa using this
  obtain ⟨s, m, e, hr, he, rfl⟩ := hx
  have hq : x / 9223372036854775808 = 0 ∨ x / 9223372036854775808 = 1 := by omega
  refine ⟨!s, m, e, ?_, he, by rw [sv_not]⟩
  unfold Format.read at hr ⊢
  rw [binade_eq, inf_eq, sign_eq, least_eq] at hr ⊢
  simp only [e1, e2]
  simp only at hr
  generalize x % 9223372036854775808 = R at *
  have flip : ((x / 9223372036854775808 ^^^ 1) % 2 == 1) = !(x / 9223372036854775808 % 2 == 1) := by
    rcases hq with h | h <;> rw [h] <;> rfl
  rw [flip]
  generalize (x / 9223372036854775808 % 2 == 1) = b at *
  by_cases h1 : R < 4503599627370496
  · rw [if_pos h1] at hr ⊢
    injection hr with i1 i2 i3
    rw [i1, i2, i3]
  · rw [if_neg h1] at hr ⊢
    by_cases h2 : R < 9218868437227405312
    · rw [if_pos h2] at hr ⊢
      injection hr with i1 i2 i3
      rw [i1, i2, i3]
    · rw [if_neg h2] at hr
      split at hr <;> cases hr

end Go.Proofs.Qxb6602412a.Fl
