/-
  PLAIN MATHEMATICS: what classShedProbability answers, as a word, and that the law's last lines accept it.
-/
import Derived.Test.Qxb6602412aWords
import Derived.Laws.FloatBits
namespace Go.Proofs.Qxb6602412a.Fl
open Ieee
set_option linter.unusedVariables false

def ltB (a b : Nat) : Bool := double.order a b == some .lt
def leB (a b : Nat) : Bool := double.order a b == some .lt || double.order a b == some .eq
def gtB (a b : Nat) : Bool := double.order a b == some .gt
def geB (a b : Nat) : Bool := double.order a b == some .gt || double.order a b == some .eq
def neB (a b : Nat) : Bool := double.order a b != some .eq

section
variable {x y : Nat} {a b : Int}
theorem ltB_yes (hx : Fin x a) (hy : Fin y b) (h : a < b) : ltB x y = true := by unfold ltB; rw [order_spec hx hy, Int.compare_eq_lt.2 h]; rfl
theorem ltB_no (hx : Fin x a) (hy : Fin y b) (h : b ≤ a) : ltB x y = false := by
  unfold ltB; rw [order_spec hx hy]
  rcases Int.lt_or_eq_of_le h with h | h
  · rw [Int.compare_eq_gt.2 h]; rfl
  · rw [Int.compare_eq_eq.2 h.symm]; rfl
theorem leB_yes (hx : Fin x a) (hy : Fin y b) (h : a ≤ b) : leB x y = true := by
  unfold leB; rw [order_spec hx hy]
  rcases Int.lt_or_eq_of_le h with h | h
  · rw [Int.compare_eq_lt.2 h]; rfl
  · rw [Int.compare_eq_eq.2 h]; rfl
theorem leB_no (hx : Fin x a) (hy : Fin y b) (h : b < a) : leB x y = false := by unfold leB; rw [order_spec hx hy, Int.compare_eq_gt.2 h]; rfl
theorem geB_yes (hx : Fin x a) (hy : Fin y b) (h : b ≤ a) : geB x y = true := by
  unfold geB; rw [order_spec hx hy]
  rcases Int.lt_or_eq_of_le h with h | h
  · rw [Int.compare_eq_gt.2 h]; rfl
  · rw [Int.compare_eq_eq.2 h.symm]; rfl
theorem geB_no (hx : Fin x a) (hy : Fin y b) (h : a < b) : geB x y = false := by unfold geB; rw [order_spec hx hy, Int.compare_eq_lt.2 h]; rfl
end

theorem leB_of_order {x y : Nat} (h : double.order x y = some .lt ∨ double.order x y = some .eq) : leB x y = true := by
  unfold leB; rcases h with h | h <;> rw [h] <;> rfl
theorem leB_gt {x y : Nat} (h : double.order x y = some .gt) : leB x y = false := by unfold leB; rw [h]; rfl
theorem geB_gt {x y : Nat} (h : double.order x y = some .gt) : geB x y = true := by unfold geB; rw [h]; rfl
theorem neB_zero : neB 0 0 = false := by unfold neB; rw [order_spec fin_zero fin_zero]; rfl

/-- The law's tolerance: 1e-12. -/
theorem fin_tol : ∃ v, Fin 4427486594234968593 v ∧ U ≤ 1099511627776 * v := by
  refine ⟨_, ⟨false, 4951760157141521, -92, by decide, by omega, rfl⟩, ?_⟩
  simp only [sv, Bool.false_eq_true, if_false, mv, U]
  rw [show (-92 + 1074 : Int).toNat = 982 from rfl, p2_of 982]
  have h1 : p2 1074 = p2 92 * p2 982 := p2_add 92 982
  have h2 : p2 92 = 4951760157141521099596496896 := by decide
  rw [h1, h2]
  have := p2_pos 982
  generalize p2 982 = g at *
  omega

/-- 1e300. -/
theorem fin_big : ∃ v, Fin 9094988921128908188 v ∧ v.natAbs < p2 2072 := by
  refine ⟨_, ⟨false, 6724873095247260, 944, by decide, by omega, rfl⟩, ?_⟩
  rw [sv_natAbs]
  unfold mv
  rw [show (944 + 1074 : Int).toNat = 2018 from rfl, p2_of 2018]
  have h1 : p2 2072 = p2 54 * p2 2018 := p2_add 54 2018
  have h2 : p2 54 = 18014398509481984 := by decide
  rw [h1, h2]
  have := p2_pos 2018
  generalize p2 2018 = g at *
  omega

/-- A weight that the law takes. -/
theorem dom_of {w : Nat} (h1 : geB w 0 = true) (h2 : leB w 9094988921128908188 = true) : ∃ a, Dom w a := by
  obtain ⟨vb, fb, hb⟩ := fin_big
  obtain ⟨_, mb, ib, rb, _⟩ := fb
  rcases read_shape w with ⟨s, m, e, hr, he, _, _⟩ | ⟨s, hr⟩ | ⟨s, f, hr⟩
  · have hf : Fin w (sv s (mv m e)) := ⟨s, m, e, hr, he, rfl⟩
    refine ⟨_, hf, ?_, ?_⟩
    · by_cases h : 0 ≤ sv s (mv m e)
      · exact h
      · rw [geB_no hf fin_zero (by omega)] at h1; cases h1
    · obtain ⟨vb, fb, hb⟩ := fin_big
      by_cases h : sv s (mv m e) ≤ vb
      · by_cases h0 : 0 ≤ sv s (mv m e)
        · generalize p2 2072 = g at *; omega
        · rw [geB_no hf fin_zero (by omega)] at h1; cases h1
      · rw [leB_no hf fb (by omega)] at h2; cases h2
  · exfalso
    unfold geB Format.order at h1
    unfold leB Format.order at h2
    rw [hr] at h1 h2
    rw [rb] at h2
    have r0 : double.read 0 = .number false 0 (-1074) := by decide
    rw [r0] at h1
    cases s
    · simp [Datum.order] at h2
    · simp [Datum.order] at h1
  · exfalso
    unfold geB Format.order at h1
    rw [hr] at h1
    simp [Datum.order] at h1

theorem pos_of {w : Nat} {a : Int} (hw : Fin w a) (h : gtB w 0 = true) : 0 < a := by
  unfold gtB at h
  rw [order_spec hw fin_zero] at h
  rcases Int.lt_trichotomy a 0 with h0 | h0 | h0
  · rw [Int.compare_eq_lt.2 h0] at h; cases h
  · rw [Int.compare_eq_eq.2 h0] at h; cases h
  · exact h0

/-- The overlap, from a difference that is nought or less. -/
theorem over_low {ov0 : Nat} (h : Lo ov0) : ∃ ov, ((ltB ov0 0 = true ∧ ov = 0) ∨ (ltB ov0 0 = false ∧ ov = ov0)) ∧ Fin ov 0 := by
  rcases h with h | ⟨v, hv, hle⟩
  · refine ⟨0, .inl ⟨?_, rfl⟩, fin_zero⟩
    unfold ltB Format.order
    rw [h, show double.read 0 = .number false 0 (-1074) by decide]
    rfl
  · by_cases h0 : v < 0
    · exact ⟨0, .inl ⟨ltB_yes hv fin_zero h0, rfl⟩, fin_zero⟩
    · obtain rfl : v = 0 := by omega
      exact ⟨ov0, .inr ⟨ltB_no hv fin_zero (by omega), rfl⟩, hv⟩

theorem over_next {top lo : Nat} {vtop vlo : Int} (ht : Fin top vtop) (hl : Fin lo vlo) (hb : vtop - vlo ≤ 8 * U) :
    ∃ ov0 ov vov, double.sub top lo = some ov0 ∧ ((ltB ov0 0 = true ∧ ov = 0) ∨ (ltB ov0 0 = false ∧ ov = ov0)) ∧ Fin ov vov ∧ Over vov vtop vlo := by
  by_cases h : vtop - vlo ≤ 0
  · obtain ⟨r, hr, hlo, _⟩ := sub_any ht hl
    obtain ⟨ov, h1, h2⟩ := over_low (hlo h)
    exact ⟨r, ov, 0, hr, h1, h2, .inl ⟨by omega, rfl⟩⟩
  · have hU := U_big
    obtain ⟨r, v, hr, hf, hn⟩ := sub_spec ht hl (small (by omega) (by omega))
    have hv : 0 ≤ v := by unfold Near at hn; omega
    exact ⟨r, r, v, hr, .inr ⟨ltB_no hf fin_zero hv, rfl⟩, hf, .inr ⟨hv, hn⟩⟩

/-- THE LAW's LAST LINE. -/
theorem the_end {own2 R ov : Nat} {o2 rv vov : Int} (h2 : Fin own2 o2) (hR : Fin R rv) (hov : Fin ov vov) (o20 : 0 ≤ o2) (o2u : o2 ≤ 2 * U) (r0 : 0 ≤ rv) (ru : rv ≤ U)
    (hend : ∀ m, Prod m o2 rv → 2199023255552 * (m - vov) ≤ U ∧ 2199023255552 * (vov - m) ≤ U) :
    ∃ m d, double.mul own2 R = some m ∧ double.sub m ov = some d ∧ ((ltB d 0 = true ∧ leB (d ^^^ 2 ^ 63) 4427486594234968593 = true) ∨ (ltB d 0 = false ∧ leB d 4427486594234968593 = true)) := by
  have hU := U_big
  have hbig : o2.natAbs * rv.natAbs < p2 3171 := by
    have h1 : o2.natAbs * rv.natAbs ≤ (2 * p2 1074) * p2 1074 := by
      refine Nat.mul_le_mul ?_ ?_
      · unfold U at o2u; omega
      · unfold U at ru; omega
    have h3 : p2 1074 * p2 1074 * p2 2 ≤ p2 3171 := by rw [← p2_add, ← p2_add]; exact p2_mono (by decide)
    have h4 : p2 2 = 4 := by decide
    rw [h4] at h3
    have h5 := Nat.mul_pos (p2_pos 1074) (p2_pos 1074)
    rw [Nat.mul_assoc] at h1
    generalize p2 1074 * p2 1074 = q at *
    generalize o2.natAbs * rv.natAbs = z at *
    generalize p2 3171 = G at *
    omega
  obtain ⟨m, vm, hm, fm, m0, m1, m2⟩ := mul_spec h2 hR o20 r0 hbig
  obtain ⟨e1, e2⟩ := hend vm ⟨m0, m1, m2⟩
  obtain ⟨d, vd, hd, fd, nd⟩ := sub_spec fm hov (small (by omega) (by omega))
  obtain ⟨l1, l2⟩ := last e1 e2 nd
  obtain ⟨vt, ft, ht⟩ := fin_tol
  refine ⟨m, d, hm, hd, ?_⟩
  by_cases hneg : vd < 0
  · left
    have hlt : d < 18446744073709551616 := double.sub_lt hd
    exact ⟨ltB_yes fd fin_zero hneg, leB_yes (fin_neg fd hlt) ft (by omega)⟩
  · right
    exact ⟨ltB_no fd fin_zero (by omega), leB_yes fd ft (by omega)⟩

/-- What the walks want. -/
def Good (p fb own1 own2 hi lo : Nat) : Prop :=
  ∃ ex R, double.sub p fb = some ex ∧
    ((leB ex 0 = true ∧ R = 0) ∨ (leB ex 0 = false ∧ geB ex own1 = true ∧ R = 4607182418800017408) ∨ (leB ex 0 = false ∧ geB ex own1 = false ∧ double.div ex own1 = some R)) ∧
    geB R 0 = true ∧ leB R 4607182418800017408 = true ∧ (leB p 0 = true → neB R 0 = false) ∧
    ∃ top ov0 ov m d, ((ltB hi p = true ∧ top = hi) ∨ (ltB hi p = false ∧ top = p)) ∧ double.sub top lo = some ov0 ∧ ((ltB ov0 0 = true ∧ ov = 0) ∨ (ltB ov0 0 = false ∧ ov = ov0)) ∧
      double.mul own2 R = some m ∧ double.sub m ov = some d ∧ ((ltB d 0 = true ∧ leB (d ^^^ 2 ^ 63) 4427486594234968593 = true) ∨ (ltB d 0 = false ∧ leB d 4427486594234968593 = true))

theorem fin_read {x : Nat} {v : Int} (h : Fin x v) : ∃ s m e, double.read x = .number s m e := by
  obtain ⟨s, m, e, hr, _⟩ := h; exact ⟨s, m, e, hr⟩

theorem outcome {p fb own1 own2 hi lo : Nat} {q1 o1 q2 o2 vhi vlo : Int} (hp : double.order p p = some .eq) (f1 : Fin fb q1) (f2 : Fin own1 o1) (f4 : Fin own2 o2) (f5 : Fin hi vhi) (f6 : Fin lo vlo) (t : Tile q1 o1 q2 o2 vhi vlo) :
    Good p fb own1 own2 hi lo := by
  have hU := U_big
  obtain ⟨n1, n2, n3, n4, n5, n6, n7, n8⟩ := t.near
  have g00 : geB 0 0 = true := geB_yes fin_zero fin_zero (by omega)
  have l01 : leB 0 4607182418800017408 = true := leB_yes fin_zero fin_one (by omega)
  have g10 : geB 4607182418800017408 0 = true := geB_yes fin_one fin_zero (by omega)
  have l11 : leB 4607182418800017408 4607182418800017408 = true := leB_yes fin_one fin_one (by omega)
  have o1lt : o1 < 2 * U := by obtain ⟨c1, c2, c3, c4, _, _, _, _, _, _, _, _, _, _⟩ := t; omega
  rcases read_shape p with ⟨s, mp, ep, hr, he, _, _⟩ | ⟨s, hr⟩ | ⟨s, f, hr⟩
  · -- p is finite
    have fp : Fin p (sv s (mv mp ep)) := ⟨s, mp, ep, hr, he, rfl⟩
    generalize sv s (mv mp ep) = P at *
    by_cases hlow : P ≤ q1
    · -- nothing is shed
      obtain ⟨ex, hex, hlo, _⟩ := sub_any fp f1
      refine ⟨ex, 0, hex, .inl ⟨leB_of_order ((hlo (by omega)).order fin_zero), rfl⟩, g00, l01, fun _ => neB_zero, ?_⟩
      obtain ⟨top, vtop, htop, ftop, hle⟩ : ∃ top vtop, ((ltB hi p = true ∧ top = hi) ∨ (ltB hi p = false ∧ top = p)) ∧ Fin top vtop ∧ vtop ≤ q1 := by
        by_cases h : vhi < P
        · exact ⟨hi, vhi, .inl ⟨ltB_yes f5 fp h, rfl⟩, f5, by omega⟩
        · exact ⟨p, P, .inr ⟨ltB_no f5 fp (by omega), rfl⟩, fp, hlow⟩
      obtain ⟨ov0, ov, vov, h1, h2, h3, h4⟩ := over_next ftop f6 (by have := t.q1u; omega)
      obtain ⟨m, d, k1, k2, k3⟩ := the_end f4 fin_zero h3 t.o2n t.o2u (by omega) (by omega) (fun m hm => case_none t hm hle h4)
      exact ⟨top, ov0, ov, m, d, htop, h1, h2, k1, k2, k3⟩
    · have hpn : leB p 0 = false := leB_no fp fin_zero (by have := t.q1n; omega)
      have hno : leB p 0 = true → neB 4607182418800017408 0 = false := fun h => by rw [hpn] at h; cases h
      by_cases hhigh : 2 * U ≤ P - q1
      · -- all is shed, far beyond
        obtain ⟨ex, hex, _, hhi⟩ := sub_any fp f1
        have hH := hhi hhigh
        refine ⟨ex, 4607182418800017408, hex, .inr (.inl ⟨leB_gt (hH.order fin_zero (by omega)), geB_gt (hH.order f2 o1lt), rfl⟩), g10, l11, hno, ?_⟩
        obtain ⟨ov0, ov, vov, h1, h2, h3, h4⟩ := over_next f5 f6 (by omega)
        obtain ⟨m, d, k1, k2, k3⟩ := the_end f4 fin_one h3 t.o2n t.o2u (by omega) (by omega) (fun m hm => case_all t hm (by omega) (by omega) h4)
        exact ⟨hi, ov0, ov, m, d, .inl ⟨ltB_yes f5 fp (by have := t.q1n; omega), rfl⟩, h1, h2, k1, k2, k3⟩
      · -- between
        obtain ⟨ex, vex, hex, fex, nex⟩ := sub_spec fp f1 (small (by omega) (by omega))
        have hexp : 0 < vex := by unfold Near at nex; omega
        have hl0 : leB ex 0 = false := leB_no fex fin_zero hexp
        obtain ⟨top, vtop, htop, ftop, hle, hcs⟩ : ∃ top vtop, ((ltB hi p = true ∧ top = hi) ∨ (ltB hi p = false ∧ top = p)) ∧ Fin top vtop ∧ vtop ≤ vhi ∧ ((vtop = P ∧ P ≤ vhi) ∨ (vtop = vhi ∧ vhi < P)) := by
          by_cases h : vhi < P
          · exact ⟨hi, vhi, .inl ⟨ltB_yes f5 fp h, rfl⟩, f5, by omega, .inr ⟨rfl, h⟩⟩
          · exact ⟨p, P, .inr ⟨ltB_no f5 fp (by omega), rfl⟩, fp, by omega, .inl ⟨rfl, by omega⟩⟩
        obtain ⟨ov0, ov, vov, h1, h2, h3, h4⟩ := over_next ftop f6 (by omega)
        by_cases hall : o1 ≤ vex
        · -- all is shed
          refine ⟨ex, 4607182418800017408, hex, .inr (.inl ⟨hl0, geB_yes fex f2 hall, rfl⟩), g10, l11, hno, ?_⟩
          have hnear : 1099511627776 * 4 * vhi ≤ 1099511627776 * 4 * vtop + U := by
            obtain ⟨c1, c2, c3, c4, _, _, _, _, _, _, _, _, _, _⟩ := t
            unfold Near at nex
            omega
          obtain ⟨m, d, k1, k2, k3⟩ := the_end f4 fin_one h3 t.o2n t.o2u (by omega) (by omega) (fun m hm => case_all t hm hle hnear h4)
          exact ⟨top, ov0, ov, m, d, htop, h1, h2, k1, k2, k3⟩
        · -- a part is shed
          obtain ⟨R, rv, hR, fR, qR, uR⟩ := div_next fex f2 (by omega) (by omega) (by omega)
          have ru := uR (by omega)
          refine ⟨ex, R, hex, .inr (.inr ⟨hl0, geB_no fex f2 (by omega), hR⟩), geB_yes fR fin_zero qR.1, leB_yes fR fin_one ru, (fun h => by rw [hpn] at h; cases h), ?_⟩
          obtain ⟨m, d, k1, k2, k3⟩ := the_end f4 fR h3 t.o2n t.o2u qR.1 ru (fun m hm => case_part t qR ru hm hexp (by omega) nex hcs h4)
          exact ⟨top, ov0, ov, m, d, htop, h1, h2, k1, k2, k3⟩
  · -- p is an infinity
    obtain ⟨ex, hex, rex⟩ := sub_inf hr f1
    obtain ⟨s1, m1, e1, r1⟩ := fin_read f5
    cases s with
    | true =>
      have hL : Lo ex := .inl rex
      refine ⟨ex, 0, hex, .inl ⟨leB_of_order (hL.order fin_zero), rfl⟩, g00, l01, fun _ => neB_zero, ?_⟩
      obtain ⟨ov0, hov0, rov0⟩ := sub_inf hr f6
      obtain ⟨ov, h2, h3⟩ := over_low (ov0 := ov0) (.inl rov0)
      have hlt : ltB hi p = false := by unfold ltB Format.order; rw [hr, r1]; rfl
      obtain ⟨m, d, k1, k2, k3⟩ := the_end f4 fin_zero h3 t.o2n t.o2u (by omega) (by omega) (fun m hm => case_none t hm (Int.min_le_left q1 vlo) (.inl ⟨Int.min_le_right q1 vlo, rfl⟩))
      exact ⟨p, ov0, ov, m, d, .inr ⟨hlt, rfl⟩, hov0, h2, k1, k2, k3⟩
    | false =>
      have hH : Hi ex := .inl rex
      have hpn : leB p 0 = false := by
        unfold leB Format.order; rw [hr, show double.read 0 = .number false 0 (-1074) by decide]; rfl
      refine ⟨ex, 4607182418800017408, hex, .inr (.inl ⟨leB_gt (hH.order fin_zero (by omega)), geB_gt (hH.order f2 o1lt), rfl⟩), g10, l11, (fun h => by rw [hpn] at h; cases h), ?_⟩
      have hlt : ltB hi p = true := by unfold ltB Format.order; rw [hr, r1]; rfl
      obtain ⟨ov0, ov, vov, h1, h2, h3, h4⟩ := over_next f5 f6 (by omega)
      obtain ⟨m, d, k1, k2, k3⟩ := the_end f4 fin_one h3 t.o2n t.o2u (by omega) (by omega) (fun m hm => case_all t hm (by omega) (by omega) h4)
      exact ⟨hi, ov0, ov, m, d, .inl ⟨hlt, rfl⟩, h1, h2, k1, k2, k3⟩
  · exfalso
    unfold Format.order at hp
    rw [hr] at hp
    simp [Datum.order] at hp

end Go.Proofs.Qxb6602412a.Fl
