/-
  PLAIN MATHEMATICS ON float64: a finite word's value as a whole number of units of 2^-1074; how far a sum, a product, a quotient lies from the exact one.
-/
import Ieee.Arith
namespace Go.Proofs.Qxb6602412a.Fl
open Ieee

/-- What a number's magnitude is, in units of 2^-1074. -/
def mv (m : Nat) (e : Int) : Nat := m * 2 ^ (e + 1074).toNat
/-- .. with its sign. -/
def sv (s : Bool) (v : Nat) : Int := if s then -(v : Int) else v

/-- The word x is finite, and is v units. -/
def Fin (x : Nat) (v : Int) : Prop := ∃ s m e, double.read x = .number s m e ∧ -1074 ≤ e ∧ v = sv s (mv m e)

/-- A power of two, under a name (so that no great numeral is ever reckoned out). -/
def p2 (n : Nat) : Nat := 2 ^ n
theorem le_p2 {a b : Nat} (h : a ≤ b) : 2 ^ a ≤ p2 b := Nat.pow_le_pow_right (by decide) h
theorem p2_le {a b : Nat} (h : a ≤ b) : p2 a ≤ 2 ^ b := Nat.pow_le_pow_right (by decide) h
theorem p2_add (a b : Nat) : p2 (a + b) = p2 a * p2 b := Nat.pow_add 2 a b
theorem p2_pos (a : Nat) : 0 < p2 a := Nat.two_pow_pos a
theorem p2_of (a : Nat) : 2 ^ a = p2 a := rfl

theorem binade_eq : double.binade = 4503599627370496 := by decide
theorem inf_eq : double.infRung = 9218868437227405312 := by decide
theorem sign_eq : double.signWeight = 9223372036854775808 := by decide
theorem least_eq : double.leastPlace = -1074 := by decide

theorem read_word (s : Bool) (R : Nat) (h : R < 9223372036854775808) : double.read (double.word s R) =
    if R < 4503599627370496 then .number s R (-1074)
    else if R < 9218868437227405312 then .number s (4503599627370496 + R % 4503599627370496) (-1074 + (R / 4503599627370496 - 1 : Nat))
    else if R = 9218868437227405312 then .infinity s else .nan s (R - 9218868437227405312) := by
  unfold Format.read Format.word
  rw [binade_eq, inf_eq, sign_eq, least_eq]
  cases s with
  | true =>
    have e1 : (9223372036854775808 + R) / 9223372036854775808 % 2 = 1 := by omega
    have e2 : (9223372036854775808 + R) % 9223372036854775808 = R := by omega
    simp only [if_true, e1, e2]
    rfl
  | false =>
    have e1 : R / 9223372036854775808 % 2 = 0 := by omega
    have e2 : R % 9223372036854775808 = R := by omega
    simp only [Bool.false_eq_true, if_false, e1, e2]
    rfl

/-- A rung that is 'd' binades and 'kept' more. -/
theorem read_rung (s : Bool) (d kept : Nat) (hk : kept ≤ 9007199254740992) (hn : 0 < d → 4503599627370496 ≤ kept) (hd : d ≤ 2044) :
    ∃ m e, double.read (double.word s (d * 4503599627370496 + kept)) = .number s m e ∧ -1074 ≤ e ∧ mv m e = kept * 2 ^ d := by
  rw [read_word s _ (by omega)]
  by_cases h1 : d * 4503599627370496 + kept < 4503599627370496
  · rw [if_pos h1]
    have hd0 : d = 0 := by omega
    subst hd0
    exact ⟨_, _, rfl, by omega, by unfold mv; simp⟩
  · rw [if_neg h1, if_pos (by omega)]
    refine ⟨_, _, rfl, by omega, ?_⟩
    unfold mv
    by_cases h2 : kept = 9007199254740992
    · subst h2
      have e1 : (d * 4503599627370496 + 9007199254740992) % 4503599627370496 = 0 := by omega
      have e2 : (d * 4503599627370496 + 9007199254740992) / 4503599627370496 = d + 2 := by omega
      rw [e1, e2, show (-1074 + ((d + 2 - 1 : Nat) : Int) + 1074).toNat = d + 1 by omega, Nat.pow_succ]
      omega
    · by_cases h3 : kept < 4503599627370496
      · omega
      · have e1 : (d * 4503599627370496 + kept) % 4503599627370496 = kept - 4503599627370496 := by omega
        have e2 : (d * 4503599627370496 + kept) / 4503599627370496 = d + 1 := by omega
        rw [e1, e2, show (-1074 + ((d + 1 - 1 : Nat) : Int) + 1074).toNat = d by omega, show 4503599627370496 + (kept - 4503599627370496) = kept by omega]

/-- Rounding to a whole number: at most half a unit off. -/
theorem cut_spec (s : Bool) (n drop : Nat) : 2 * (Toward.even.cut s n drop * 2 ^ drop) ≤ 2 * n + 2 ^ drop ∧ 2 * n ≤ 2 * (Toward.even.cut s n drop * 2 ^ drop) + 2 ^ drop := by
  unfold Toward.cut
  by_cases hd : drop ≤ n.log2 + 2
  · rw [Nat.min_eq_left hd, Nat.one_shiftLeft]
    have hp : 0 < 2 ^ drop := Nat.two_pow_pos drop
    generalize 2 ^ drop = g at *
    have h1 := Nat.div_add_mod n g
    have h2 := Nat.mod_lt n hp
    rw [Nat.mul_comm] at h1
    simp only
    generalize n % g = r at *
    generalize n / g = q at *
    by_cases c : (decide (g < 2 * r) || (g == 2 * r && q % 2 == 1)) = true
    · rw [c]
      have c' : g ≤ 2 * r := by
        simp only [Bool.or_eq_true, decide_eq_true_eq, Bool.and_eq_true, beq_iff_eq] at c
        omega
      simp only [Bool.toNat_true]
      rw [Nat.add_mul, Nat.one_mul]
      generalize q * g = t at *
      omega
    · have c' : 2 * r ≤ g := by
        simp only [Bool.or_eq_true, decide_eq_true_eq, Bool.and_eq_true, beq_iff_eq] at c
        omega
      rw [Bool.not_eq_true] at c
      rw [c]
      simp only [Bool.toNat_false, Nat.add_zero]
      generalize q * g = t at *
      omega
  · rw [Nat.min_eq_right (by omega), Nat.one_shiftLeft]
    have h0 : n < 2 ^ (n.log2 + 1) := Nat.lt_log2_self
    have h1 : 2 ^ (n.log2 + 2) = 2 ^ (n.log2 + 1) * 2 := Nat.pow_succ ..
    have h2 : 2 ^ (n.log2 + 2) ≤ 2 ^ drop := Nat.pow_le_pow_right (by decide) (by omega)
    generalize 2 ^ (n.log2 + 2) = g at *
    generalize 2 ^ drop = G at *
    generalize 2 ^ (n.log2 + 1) = g1 at *
    have e1 : n / g = 0 := Nat.div_eq_of_lt (by omega)
    have e2 : n % g = n := Nat.mod_eq_of_lt (by omega)
    simp only [e1, e2]
    have c : (decide (g < 2 * n) || (g == 2 * n && 0 % 2 == 1)) = false := by
      have c1 : decide (g < 2 * n) = false := decide_eq_false (by omega)
      have c2 : (g == 2 * n) = false := by rw [beq_eq_false_iff_ne]; omega
      rw [c1, c2]; rfl
    rw [c]
    simp only [Bool.toNat_false, Nat.add_zero, Nat.zero_mul, Nat.mul_zero]
    omega

/-- THE WORD NEAREST TO 'mag * 2^place': its rung, and how it stands to the exact number. -/
theorem nearest_form (s : Bool) (mag : Nat) (place : Int) (hm : mag ≠ 0) :
    ∃ d kept, double.nearest s mag place = double.word s (min (d * 4503599627370496 + kept) 9218868437227405312) ∧ kept ≤ 9007199254740992 ∧ (0 < d → 4503599627370496 ≤ kept) ∧
      (d : Int) = max (place + (mag.log2 : Int) - 52) (-1074) + 1074 ∧
      ∀ K : Nat, 0 ≤ place + 1074 + K →
      ((9007199254740992 * (kept * 2 ^ d * 2 ^ K) ≤ 9007199254740992 * (mag * 2 ^ (place + 1074 + K).toNat) + mag * 2 ^ (place + 1074 + K).toNat ∧
        9007199254740992 * (mag * 2 ^ (place + 1074 + K).toNat) ≤ 9007199254740992 * (kept * 2 ^ d * 2 ^ K) + mag * 2 ^ (place + 1074 + K).toNat) ∨
       (place < -1074 ∧ 2 * (kept * 2 ^ d * 2 ^ K) ≤ 2 * (mag * 2 ^ (place + 1074 + K).toNat) + 2 ^ K ∧ 2 * (mag * 2 ^ (place + 1074 + K).toNat) ≤ 2 * (kept * 2 ^ d * 2 ^ K) + 2 ^ K)) := by
  have hlo := Nat.log2_self_le hm
  have hhi : mag < 2 ^ (mag.log2 + 1) := Nat.lt_log2_self
  have hfb : (double.fractionBits : Int) = 52 := rfl
  unfold Format.nearest
  rw [if_neg hm, least_eq, binade_eq, inf_eq, hfb]
  simp only
  -- the place of the last digit that is kept
  generalize hlast : max (place + (mag.log2 : Int) - 52) (-1074) = last
  have hl1 : -1074 ≤ last := by omega
  have hl2 : place + (mag.log2 : Int) - 52 ≤ last := by omega
  have hl3 : last = place + (mag.log2 : Int) - 52 ∨ last = -1074 := by omega
  clear hlast
  obtain ⟨d, hd⟩ : ∃ d : Nat, (last - -1074).toNat = d := ⟨_, rfl⟩
  rw [hd]
  have hdl : last = (d : Int) - 1074 := by omega
  by_cases hpl : last ≤ place
  · -- nothing is dropped
    obtain ⟨u, hu⟩ : ∃ u : Nat, (place - last).toNat = u := ⟨_, rfl⟩
    have hz : (last - place).toNat = 0 := by omega
    rw [hu, hz]
    have hcut : Toward.even.cut s (mag <<< u) 0 = mag * 2 ^ u := by
      have h1 := cut_spec s (mag <<< u) 0
      rw [Nat.shiftLeft_eq] at h1 ⊢
      simp only [Nat.pow_zero, Nat.mul_one] at h1
      omega
    rw [hcut]
    have hk1 : mag * 2 ^ u < 9007199254740992 := by
      have h1 : mag * 2 ^ u < 2 ^ (mag.log2 + 1) * 2 ^ u := Nat.mul_lt_mul_of_pos_right hhi (Nat.two_pow_pos u)
      rw [← Nat.pow_add] at h1
      have h2 : 2 ^ (mag.log2 + 1 + u) ≤ 2 ^ 53 := Nat.pow_le_pow_right (by decide) (by omega)
      have h3 : (2 : Nat) ^ 53 = 9007199254740992 := by decide
      omega
    have hk2 : 0 < d → 4503599627370496 ≤ mag * 2 ^ u := by
      intro hd0
      have h1 : 2 ^ mag.log2 * 2 ^ u ≤ mag * 2 ^ u := Nat.mul_le_mul_right _ hlo
      rw [← Nat.pow_add] at h1
      have h2 : mag.log2 + u = 52 := by omega
      rw [h2] at h1
      have h3 : (2 : Nat) ^ 52 = 4503599627370496 := by decide
      omega
    refine ⟨d, mag * 2 ^ u, rfl, by omega, hk2, by omega, fun K hK => .inl ?_⟩
    have hx : mag * 2 ^ u * 2 ^ d * 2 ^ K = mag * 2 ^ (place + 1074 + K).toNat := by
      rw [Nat.mul_assoc, Nat.mul_assoc, ← Nat.pow_add, ← Nat.pow_add, show u + (d + K) = (place + 1074 + (K : Int)).toNat by omega]
    rw [hx]
    omega
  · -- some digits are dropped
    obtain ⟨u, hu⟩ : ∃ u : Nat, (last - place).toNat = u := ⟨_, rfl⟩
    have hz : (place - last).toNat = 0 := by omega
    rw [hu, hz, Nat.shiftLeft_zero]
    have hc := cut_spec s mag u
    generalize Toward.even.cut s mag u = kept at *
    have hpu : 0 < 2 ^ u := Nat.two_pow_pos u
    have hkk : kept ≤ 9007199254740992 := by
      have h2 : 2 ^ (mag.log2 + 1) ≤ 2 ^ (53 + u) := Nat.pow_le_pow_right (by decide) (by omega)
      rw [Nat.pow_add 2 53 u] at h2
      have h3 : (2 : Nat) ^ 53 = 9007199254740992 := by decide
      rw [h3] at h2
      have h4 : 2 * (kept * 2 ^ u) < (2 * 9007199254740992 + 1) * 2 ^ u := by rw [Nat.add_mul, Nat.mul_assoc]; omega
      have h5 : (2 * kept) * 2 ^ u < (2 * 9007199254740992 + 1) * 2 ^ u := by rw [Nat.mul_assoc]; exact h4
      have h6 := Nat.lt_of_mul_lt_mul_right h5
      omega
    have hk2 : 0 < d → 4503599627370496 ≤ kept := by
      intro hd0
      have h2 : mag.log2 = 52 + u := by omega
      rw [h2, Nat.pow_add] at hlo
      have h3 : (2 : Nat) ^ 52 = 4503599627370496 := by decide
      rw [h3] at hlo
      have h4 : (2 * 4503599627370496) * 2 ^ u < (2 * kept + 2) * 2 ^ u := by rw [Nat.add_mul, Nat.mul_assoc, Nat.mul_assoc]; omega
      have h6 := Nat.lt_of_mul_lt_mul_right h4
      omega
    refine ⟨d, kept, rfl, hkk, hk2, by omega, fun K hK => ?_⟩
    obtain ⟨t, ht⟩ : ∃ t : Nat, (place + 1074 + (K : Int)).toNat = t := ⟨_, rfl⟩
    rw [ht]
    have hut : u + t = d + K := by omega
    have hx : kept * 2 ^ d * 2 ^ K = (kept * 2 ^ u) * 2 ^ t := by
      rw [Nat.mul_assoc, Nat.mul_assoc, ← Nat.pow_add, ← Nat.pow_add, hut]
    rw [hx]
    have hc1 : 2 * (kept * 2 ^ u * 2 ^ t) ≤ 2 * (mag * 2 ^ t) + 2 ^ u * 2 ^ t := by
      have := Nat.mul_le_mul_right (2 ^ t) hc.1
      rw [Nat.add_mul, Nat.mul_assoc, Nat.mul_assoc 2 mag] at this
      exact this
    have hc2 : 2 * (mag * 2 ^ t) ≤ 2 * (kept * 2 ^ u * 2 ^ t) + 2 ^ u * 2 ^ t := by
      have := Nat.mul_le_mul_right (2 ^ t) hc.2
      rw [Nat.add_mul, Nat.mul_assoc, Nat.mul_assoc 2 (kept * 2 ^ u)] at this
      exact this
    by_cases hcase : last = place + (mag.log2 : Int) - 52
    · left
      have h2 : mag.log2 = 52 + u := by omega
      rw [h2, Nat.pow_add] at hlo
      have h3 : (2 : Nat) ^ 52 = 4503599627370496 := by decide
      rw [h3] at hlo
      have h5 : 4503599627370496 * (2 ^ u * 2 ^ t) ≤ mag * 2 ^ t := by
        have := Nat.mul_le_mul_right (2 ^ t) hlo
        rw [Nat.mul_assoc] at this
        exact this
      generalize kept * 2 ^ u * 2 ^ t = z at *
      generalize 2 ^ u * 2 ^ t = q at *
      generalize mag * 2 ^ t = x at *
      omega
    · right
      have h1 : last = -1074 := by omega
      have h2 : 2 ^ u * 2 ^ t = 2 ^ K := by rw [← Nat.pow_add, show u + t = K by omega]
      rw [h2] at hc1 hc2
      exact ⟨by omega, hc1, hc2⟩

/-- Not too great: its value, against the exact one, both scaled by 2^K units; and a number below 1 gives none above 1. -/
theorem nearest_spec (s : Bool) (mag : Nat) (place : Int) (hm : mag ≠ 0) (hbig : place + mag.log2 ≤ 1022) (K : Nat) (hK : 0 ≤ place + 1074 + K) :
    ∃ m e, double.read (double.nearest s mag place) = .number s m e ∧ -1074 ≤ e ∧ (place + mag.log2 ≤ -1 → mv m e ≤ p2 1074) ∧
      ((9007199254740992 * (mv m e * 2 ^ K) ≤ 9007199254740992 * (mag * 2 ^ (place + 1074 + K).toNat) + mag * 2 ^ (place + 1074 + K).toNat ∧
        9007199254740992 * (mag * 2 ^ (place + 1074 + K).toNat) ≤ 9007199254740992 * (mv m e * 2 ^ K) + mag * 2 ^ (place + 1074 + K).toNat) ∨
       (place < -1074 ∧ 2 * (mv m e * 2 ^ K) ≤ 2 * (mag * 2 ^ (place + 1074 + K).toNat) + 2 ^ K ∧ 2 * (mag * 2 ^ (place + 1074 + K).toNat) ≤ 2 * (mv m e * 2 ^ K) + 2 ^ K)) := by
  obtain ⟨d, kept, hw, hk1, hk2, hd, hspec⟩ := nearest_form s mag place hm
  rw [Nat.min_eq_left (by omega)] at hw
  obtain ⟨m, e, hr, he, hv⟩ := read_rung s d kept hk1 hk2 (by omega)
  refine ⟨m, e, by rw [hw]; exact hr, he, fun hone => ?_, by rw [hv]; exact hspec K hK⟩
  rw [hv]
  have h1 : kept * 2 ^ d ≤ 9007199254740992 * 2 ^ d := Nat.mul_le_mul_right _ hk1
  rw [show (9007199254740992 : Nat) = 2 ^ 53 by decide, ← Nat.pow_add] at h1
  exact Nat.le_trans h1 (le_p2 (by omega))

/-- Whatever its size: a number of that sign, or infinity of that sign; and 2 or more gives 2 or more. -/
theorem nearest_any (s : Bool) (mag : Nat) (place : Int) (hm : mag ≠ 0) :
    double.read (double.nearest s mag place) = .infinity s ∨ ∃ m e, double.read (double.nearest s mag place) = .number s m e ∧ -1074 ≤ e ∧ (1 ≤ place + mag.log2 → p2 1075 ≤ mv m e) := by
  obtain ⟨d, kept, hw, hk1, hk2, hd, _⟩ := nearest_form s mag place hm
  rw [hw]
  by_cases hbig : d * 4503599627370496 + kept < 9218868437227405312
  · right
    rw [Nat.min_eq_left (by omega), read_word s _ (by omega)]
    by_cases h1 : d * 4503599627370496 + kept < 4503599627370496
    · rw [if_pos h1]
      exact ⟨_, _, rfl, by omega, fun h => by omega⟩
    · rw [if_neg h1, if_pos hbig]
      refine ⟨_, _, rfl, by omega, fun h => ?_⟩
      have h2 := hk2 (by omega)
      have h3 : 1024 ≤ (d * 4503599627370496 + kept) / 4503599627370496 := by omega
      generalize (d * 4503599627370496 + kept) / 4503599627370496 = q at *
      generalize (d * 4503599627370496 + kept) % 4503599627370496 = r at *
      unfold mv
      have h7 : 4503599627370496 * 2 ^ (-1074 + ((q - 1 : Nat) : Int) + 1074).toNat ≤ (4503599627370496 + r) * 2 ^ (-1074 + ((q - 1 : Nat) : Int) + 1074).toNat := Nat.mul_le_mul_right _ (by omega)
      rw [show (4503599627370496 : Nat) * 2 ^ (-1074 + ((q - 1 : Nat) : Int) + 1074).toNat = 2 ^ (52 + (-1074 + ((q - 1 : Nat) : Int) + 1074).toNat) by rw [Nat.pow_add]] at h7
      exact Nat.le_trans (p2_le (by omega)) h7
  · left
    rw [Nat.min_eq_right (by omega), read_word s _ (by omega)]
    rfl

end Go.Proofs.Qxb6602412a.Fl
