/-
  THE WALK of FnClassShedMatchesTileModel (3).
-/
import Derived.Test.Qxb6602412aShedWalks
namespace Go.Proofs.Qxb6602412a
open Go.RowKit
open Fl (ltB leB gtB geB neB fsum)

/-- The weights from the top down. -/
def wrev (wf : Nat → Nat) (i : Nat) : Nat := wf (3 - i)

/-- The boxed weights in a later world. -/
structure Boxed (w wx : World) (wf : Nat → Nat) : Prop where
  b0 : wx.cell? ⟨w.heap.size, 0, none⟩ = some (.float .f64 (wf 0))
  b1 : wx.cell? ⟨w.heap.size, 1, none⟩ = some (.float .f64 (wf 1))
  b2 : wx.cell? ⟨w.heap.size, 2, none⟩ = some (.float .f64 (wf 2))
  b3 : wx.cell? ⟨w.heap.size, 3, none⟩ = some (.float .f64 (wf 3))

theorem boxed_start (w : World) (wf : Nat → Nat) : Boxed w (w.alloc (.cells (arr wf) 23)) wf := ⟨box_cell w wf 0 (by omega), box_cell w wf 1 (by omega), box_cell w wf 2 (by omega), box_cell w wf 3 (by omega)⟩
theorem Boxed.kept {w wx wy : World} {wf : Nat → Nat} (h : Boxed w wx wf) (hb : Below wx.heap.size wx wy) : Boxed w wy wf :=
  ⟨by rw [hb.cell (block_lt_of_cell h.b0)]; exact h.b0, by rw [hb.cell (block_lt_of_cell h.b1)]; exact h.b1, by rw [hb.cell (block_lt_of_cell h.b2)]; exact h.b2, by rw [hb.cell (block_lt_of_cell h.b3)]; exact h.b3⟩
theorem Boxed.at {w wx : World} {wf : Nat → Nat} (h : Boxed w wx wf) {c : Nat} (hc : c ≤ 3) : wx.cell? ⟨w.heap.size, c, none⟩ = some (.float .f64 (wf c)) := by
  have : c = 0 ∨ c = 1 ∨ c = 2 ∨ c = 3 := by omega
  rcases this with rfl | rfl | rfl | rfl
  · exact h.b0
  · exact h.b1
  · exact h.b2
  · exact h.b3

theorem law_out (p : Nat) (wf : Nat → Nat) (c : Int) (w : World) (h : c < 0 ∨ 3 < c) :
    Calls Try.prog 3 #[.float .f64 p, .agg (arr wf), .int .i64 c] w fun e w' => e = .returned (.bool true) ∧ Below w.heap.size w w' := by
  rcases h with h | h
  · go_enter Try.func3, Try.ntmps3
    go_wp2_with fail
    go_ret
    exact ⟨rfl, (Below.refl _ _).alloc (Nat.le_refl _) _⟩
  · have h' : decide (c < 0) = false := decide_eq_false (by omega)
    go_enter Try.func3, Try.ntmps3
    go_wp2_with fail
    go_ret
    exact ⟨rfl, (Below.refl _ _).alloc (Nat.le_refl _) _⟩

theorem law_nan (p : Nat) (wf : Nat → Nat) (c : Nat) (w : World) (hc : c ≤ 3) (h : neB p p = true) :
    Calls Try.prog 3 #[.float .f64 p, .agg (arr wf), .int .i64 c] w fun e w' => e = .returned (.bool true) ∧ Below w.heap.size w w' := by
  have h' : decide ((c : Int) < 0) = false := decide_eq_false (by omega)
  have c1 := c_ne h
  go_enter Try.func3, Try.ntmps3
  go_wp2_with fail
  go_ret
  exact ⟨rfl, (Below.refl _ _).alloc (Nat.le_refl _) _⟩

theorem absf_any (d : Nat) (hend : (ltB d 0 = true ∧ leB (d ^^^ 2 ^ 63) 4427486594234968593 = true) ∨ (ltB d 0 = false ∧ leB d 4427486594234968593 = true)) :
    ∃ D, leB D 4427486594234968593 = true ∧ ∀ wx, Calls Try.prog 12 #[.float .f64 d] wx fun e w' => e = .returned (.float .f64 D) ∧ w' = wx := by
  rcases hend with ⟨h1, h2⟩ | ⟨h1, h2⟩
  · exact ⟨_, h2, fun wx => absf_neg d wx h1⟩
  · exact ⟨_, h2, fun wx => absf_pos d wx h1⟩

/-- The weights are not in the law's domain. -/
theorem law_off (p : Nat) (wf : Nat → Nat) (c : Nat) (w : World) (hc : c ≤ 3) (hpp : neB p p = false) (hno : ¬ ((∀ k, k < 4 → geB (wf k) 0 = true ∧ leB (wf k) 9094988921128908188 = true) ∧ gtB (wf c) 0 = true)) :
    Calls Try.prog 3 #[.float .f64 p, .agg (arr wf), .int .i64 c] w fun e w' => e = .returned (.bool true) ∧ Below w.heap.size w w' := by
  have hcz : decide ((c : Int) < 0) = false := decide_eq_false (by omega)
  have hc3 : decide ((3 : Int) < (c : Int)) = false := decide_eq_false (by omega)
  have g0 := c_ne hpp
  have HNO : Hid _ := hno
  clear hno hpp
  have hst := boxed_start w wf
  have s0 := hst.b0
  have s1 := hst.b1
  have s2 := hst.b2
  have s3 := hst.b3
  go_enter Try.func3, Try.ntmps3
  go_wp2_with fail
  refine (dom_any wf c _ hc).mono ?_
  rintro e w1 ⟨⟨r, rfl, hr⟩, hb1⟩
  have hB1 : Below w.heap.size w w1 := ((Below.refl _ w).alloc (Nat.le_refl _) _).trans (hb1.mono (by simp))
  cases r with
  | true => exact absurd (hr rfl) HNO.out
  | false =>
    clear hst s0 s1 s2 s3 hb1 hr HNO
    go_wp2_with fail
    go_ret
    exact ⟨rfl, hB1⟩

set_option maxHeartbeats 4000000 in
theorem law_good (p fb own1 own2 hi lo ab ex R top ov0 ov m d : Nat) (wf : Nat → Nat) (c : Nat) (w : World) (hc : c ≤ 3) (hpp : neB p p = false)
    (hS : ∀ k, k < 4 → Ieee.double.add (fsum wf k) (wf k) = some (fsum wf (k + 1)))
    (hfb : Ieee.double.div (fsum wf c) (fsum wf 4) = some fb) (hex : Ieee.double.sub p fb = some ex) (hown : Ieee.double.div (wf c) (fsum wf 4) = some own1)
    (hR : (leB ex 0 = true ∧ R = 0) ∨ (leB ex 0 = false ∧ geB ex own1 = true ∧ R = 4607182418800017408) ∨ (leB ex 0 = false ∧ geB ex own1 = false ∧ Ieee.double.div ex own1 = some R))
    (hR0 : geB R 0 = true) (hR1 : leB R 4607182418800017408 = true) (hp0 : leB p 0 = true → neB R 0 = false)
    (hV : ∀ k, k < 4 → Ieee.double.add (fsum (wrev wf) k) (wrev wf k) = some (fsum (wrev wf) (k + 1)))
    (hab : Ieee.double.div (fsum (wrev wf) (3 - c)) (fsum (wrev wf) 4) = some ab) (hhi : Ieee.double.sub 4607182418800017408 ab = some hi) (hown2 : Ieee.double.div (wf c) (fsum (wrev wf) 4) = some own2) (hlo : Ieee.double.sub hi own2 = some lo)
    (htop : (ltB hi p = true ∧ top = hi) ∨ (ltB hi p = false ∧ top = p)) (hov0 : Ieee.double.sub top lo = some ov0) (hov : (ltB ov0 0 = true ∧ ov = 0) ∨ (ltB ov0 0 = false ∧ ov = ov0))
    (hm : Ieee.double.mul own2 R = some m) (hd : Ieee.double.sub m ov = some d) (hend : (ltB d 0 = true ∧ leB (d ^^^ 2 ^ 63) 4427486594234968593 = true) ∨ (ltB d 0 = false ∧ leB d 4427486594234968593 = true)) :
    Calls Try.prog 3 #[.float .f64 p, .agg (arr wf), .int .i64 c] w fun e w' => e = .returned (.bool true) ∧ Below w.heap.size w w' := by
  obtain ⟨D, hD, hab2⟩ := absf_any d hend
  have HAB : Hid (∀ wx, Calls Try.prog 12 #[.float .f64 d] wx fun e w' => e = .returned (.float .f64 D) ∧ w' = wx) := hab2
  have c9 := c_le hD
  clear hab2 hend hD
  have hcz : decide ((c : Int) < 0) = false := decide_eq_false (by omega)
  have hc3 : decide ((3 : Int) < (c : Int)) = false := decide_eq_false (by omega)
  have g0 := c_ne hpp
  have HSH := fun wx => zzShed_any p fb ex own1 R wf c wx hc hS hfb hex hown hR
  have HSH2 : Hid _ := HSH
  clear HSH hS hfb hex hown hR hpp
  have a3 := r_add (show Ieee.double.add (fsum (wrev wf) 0) (wf 3) = some (fsum (wrev wf) 1) from hV 0 (by omega))
  have a2 := r_add (show Ieee.double.add (fsum (wrev wf) 1) (wf 2) = some (fsum (wrev wf) 2) from hV 1 (by omega))
  have a1 := r_add (show Ieee.double.add (fsum (wrev wf) 2) (wf 1) = some (fsum (wrev wf) 3) from hV 2 (by omega))
  have a0 := r_add (show Ieee.double.add (fsum (wrev wf) 3) (wf 0) = some (fsum (wrev wf) 4) from hV 3 (by omega))
  clear hV
  have g1 := c_ge hR0
  have g2 := c_le hR1
  have d1 := r_div hab
  have d2 := r_sub hhi
  have d3 := r_div hown2
  have d4 := r_sub hlo
  have d6 := r_mul hm
  clear hR0 hR1 hab hhi hown2 hlo hm
  have hst := boxed_start w wf
  have s0 := hst.b0
  have s1 := hst.b1
  have s2 := hst.b2
  have s3 := hst.b3
  go_enter Try.func3, Try.ntmps3
  go_wp2_with fail
  refine (dom_any wf c _ hc).mono ?_
  rintro e w1 ⟨⟨r, rfl, _⟩, hb1⟩
  have hbx1 := hst.kept hb1
  have hB1 : Below w.heap.size w w1 := ((Below.refl _ w).alloc (Nat.le_refl _) _).trans (hb1.mono (by simp))
  clear hst s0 s1 s2 s3 hb1
  have s0 := hbx1.b0
  have s1 := hbx1.b1
  have s2 := hbx1.b2
  have s3 := hbx1.b3
  cases r with
  | false =>
    go_wp2_with fail
    go_ret
    exact ⟨rfl, hB1⟩
  | true =>
    go_wp2_with fail
    refine Calls.mono (HSH2.out _) ?_
    rintro e w2 ⟨rfl, hb2⟩
    have hbx2 := hbx1.kept hb2
    have hB2 := hB1.trans (hb2.mono hB1.size)
    clear hbx1 s0 s1 s2 s3 hb2 hB1 HSH2
    have s0 := hbx2.b0
    have s1 := hbx2.b1
    have s2 := hbx2.b2
    have s3 := hbx2.b3
    have sc := hbx2.at hc
    cases hpz : leB p 0 with
    | true =>
      have g3 := c_le hpz
      have g4 := c_ne (hp0 hpz)
      clear hp0 hpz
      go_wp2_with fail
      go_loop [8, 9, 10] (fun t8 t9 t10 => ∃ (j aw : Nat), j ≤ 4 ∧ t10 = .int .i64 ((3 : Int) - j) ∧ t8 = .float .f64 (fsum (wrev wf) j) ∧ t9 = .float .f64 aw ∧ aw = fsum (wrev wf) (min j (3 - c))) (fun _ _ t => (intOf t + 1).toNat)
      case atStart => exact ⟨0, 0, by omega, rfl, rfl, rfl, by rw [Nat.zero_min]; rfl⟩
      case round =>
        obtain ⟨j, aw, hj, rfl, rfl, rfl, haw⟩ := hrel
        by_cases hlt : j < 4
        · clear d1 d2 d3 d4 d6 htop hov0 hov hd c9
          have hj4 : j = 0 ∨ j = 1 ∨ j = 2 ∨ j = 3 := by omega
          by_cases hjc : j < 3 - c
          · rw [Nat.min_eq_left (by omega)] at haw
            subst haw
            have HB : Hid (fsum (wrev wf) (j + 1) = fsum (wrev wf) (min (j + 1) (3 - c))) := by unfold Hid; rw [Nat.min_eq_left (by omega)]
            have hj3 : j = 0 ∨ j = 1 ∨ j = 2 := by omega
            clear hj4
            rcases hj3 with rfl | rfl | rfl
            all_goals
              go_wp2_with fail
              go_round
              case rel => exact ⟨_, _, by omega, by go_num, rfl, rfl, HB.out⟩
              case measure => simp [intOf]
          · have HB : Hid (aw = fsum (wrev wf) (min (j + 1) (3 - c))) := by unfold Hid; rw [haw, Nat.min_eq_right (by omega), Nat.min_eq_right (by omega)]
            clear haw
            rcases hj4 with rfl | rfl | rfl | rfl
            all_goals
              go_wp2_with fail
              go_round
              case rel => exact ⟨_, _, by omega, by go_num, rfl, rfl, HB.out⟩
              case measure => simp [intOf]
        · have hj4 : j = 4 := by omega
          subst hj4
          rw [Nat.min_eq_right (by omega)] at haw
          subst haw
          clear a0 a1 a2 a3 g0 g1 g2 g3 g4
          have d5 := r_sub hov0
          have d7 := r_sub hd
          clear hov0 hd
          rcases htop with ⟨h1, rfl⟩ | ⟨h1, rfl⟩ <;> rcases hov with ⟨h2, rfl⟩ | ⟨h2, rfl⟩
          all_goals
            have c1 := c_lt h1
            have c2 := c_lt h2
            clear h1 h2
            go_wp2_with fail
            refine Calls.mono (HAB.out _) ?_
            rintro e w3 ⟨rfl, hw⟩
            subst hw
            clear HAB
            go_wp2_with fail
            go_ret
            exact ⟨rfl, hB2⟩
    | false =>
      have g3 := c_le hpz
      clear hp0 hpz
      go_wp2_with fail
      go_loop [8, 9, 10] (fun t8 t9 t10 => ∃ (j aw : Nat), j ≤ 4 ∧ t10 = .int .i64 ((3 : Int) - j) ∧ t8 = .float .f64 (fsum (wrev wf) j) ∧ t9 = .float .f64 aw ∧ aw = fsum (wrev wf) (min j (3 - c))) (fun _ _ t => (intOf t + 1).toNat)
      case atStart => exact ⟨0, 0, by omega, rfl, rfl, rfl, by rw [Nat.zero_min]; rfl⟩
      case round =>
        obtain ⟨j, aw, hj, rfl, rfl, rfl, haw⟩ := hrel
        by_cases hlt : j < 4
        · clear d1 d2 d3 d4 d6 htop hov0 hov hd c9
          have hj4 : j = 0 ∨ j = 1 ∨ j = 2 ∨ j = 3 := by omega
          by_cases hjc : j < 3 - c
          · rw [Nat.min_eq_left (by omega)] at haw
            subst haw
            have HB : Hid (fsum (wrev wf) (j + 1) = fsum (wrev wf) (min (j + 1) (3 - c))) := by unfold Hid; rw [Nat.min_eq_left (by omega)]
            have hj3 : j = 0 ∨ j = 1 ∨ j = 2 := by omega
            clear hj4
            rcases hj3 with rfl | rfl | rfl
            all_goals
              go_wp2_with fail
              go_round
              case rel => exact ⟨_, _, by omega, by go_num, rfl, rfl, HB.out⟩
              case measure => simp [intOf]
          · have HB : Hid (aw = fsum (wrev wf) (min (j + 1) (3 - c))) := by unfold Hid; rw [haw, Nat.min_eq_right (by omega), Nat.min_eq_right (by omega)]
            clear haw
            rcases hj4 with rfl | rfl | rfl | rfl
            all_goals
              go_wp2_with fail
              go_round
              case rel => exact ⟨_, _, by omega, by go_num, rfl, rfl, HB.out⟩
              case measure => simp [intOf]
        · have hj4 : j = 4 := by omega
          subst hj4
          rw [Nat.min_eq_right (by omega)] at haw
          subst haw
          clear a0 a1 a2 a3 g0 g1 g2 g3
          have d5 := r_sub hov0
          have d7 := r_sub hd
          clear hov0 hd
          rcases htop with ⟨h1, rfl⟩ | ⟨h1, rfl⟩ <;> rcases hov with ⟨h2, rfl⟩ | ⟨h2, rfl⟩
          all_goals
            have c1 := c_lt h1
            have c2 := c_lt h2
            clear h1 h2
            go_wp2_with fail
            refine Calls.mono (HAB.out _) ?_
            rintro e w3 ⟨rfl, hw⟩
            subst hw
            clear HAB
            go_wp2_with fail
            go_ret
            exact ⟨rfl, hB2⟩

theorem abt_of {V s T : Int} (h : Fl.Acc 4 V s) (_hs : 0 ≤ s) (hT : s ≤ T) : Fl.Abt V s T := by
  unfold Fl.Acc at h; unfold Fl.Abt; omega
theorem abt3 {V s T : Int} (h : Fl.Acc 3 V s) (hs : 0 ≤ s) (hT : s ≤ T) : Fl.Abt V s T := by
  unfold Fl.Acc at h; unfold Fl.Abt; omega
theorem abt2 {V s T : Int} (h : Fl.Acc 2 V s) (hs : 0 ≤ s) (hT : s ≤ T) : Fl.Abt V s T := by
  unfold Fl.Acc at h; unfold Fl.Abt; omega
theorem abt1 {V s T : Int} (h : Fl.Acc 1 V s) (hs : 0 ≤ s) (hT : s ≤ T) : Fl.Abt V s T := by
  unfold Fl.Acc at h; unfold Fl.Abt; omega
theorem abt0 {T : Int} (hT : 0 ≤ T) : Fl.Abt 0 0 T := by
  unfold Fl.Abt; omega

/-- The weights are in the law's domain. -/
theorem law_on (p : Nat) (wf : Nat → Nat) (c : Nat) (w : World) (hc : c ≤ 3) (hp : Ieee.double.order p p = some .eq) (hdom : ∀ k, k < 4 → geB (wf k) 0 = true ∧ leB (wf k) 9094988921128908188 = true) (hpos : gtB (wf c) 0 = true) :
    Calls Try.prog 3 #[.float .f64 p, .agg (arr wf), .int .i64 c] w fun e w' => e = .returned (.bool true) ∧ Below w.heap.size w w' := by
  have hpp : neB p p = false := by unfold Fl.neB; rw [hp]; rfl
  obtain ⟨a0, D0⟩ := Fl.dom_of (hdom 0 (by omega)).1 (hdom 0 (by omega)).2
  obtain ⟨a1, D1⟩ := Fl.dom_of (hdom 1 (by omega)).1 (hdom 1 (by omega)).2
  obtain ⟨a2, D2⟩ := Fl.dom_of (hdom 2 (by omega)).1 (hdom 2 (by omega)).2
  obtain ⟨a3, D3⟩ := Fl.dom_of (hdom 3 (by omega)).1 (hdom 3 (by omega)).2
  obtain ⟨af, e0, e1, e2, e3⟩ : ∃ af : Nat → Int, af 0 = a0 ∧ af 1 = a1 ∧ af 2 = a2 ∧ af 3 = a3 := ⟨fun k => match k with | 0 => a0 | 1 => a1 | 2 => a2 | _ => a3, rfl, rfl, rfl, rfl⟩
  have hD : ∀ k, k < 4 → Fl.Dom (wf k) (af k) := by
    intro k hk
    have : k = 0 ∨ k = 1 ∨ k = 2 ∨ k = 3 := by omega
    rcases this with rfl | rfl | rfl | rfl
    · rw [e0]; exact D0
    · rw [e1]; exact D1
    · rw [e2]; exact D2
    · rw [e3]; exact D3
  obtain ⟨V, hS, fV, v0, A1, A2, A3, A4⟩ := Fl.chain wf af hD
  obtain ⟨X, hX, fX, x0, B1, B2, B3, B4⟩ := Fl.chain (wrev wf) (fun i => af (3 - i)) (fun k hk => hD (3 - k) (by omega))
  have n0 := (hD 0 (by omega)).2.1
  have n1 := (hD 1 (by omega)).2.1
  have n2 := (hD 2 (by omega)).2.1
  have n3 := (hD 3 (by omega)).2.1
  have fwc : Fl.Fin (wf c) (af c) := (hD c (by omega)).1
  have hW : 0 < af c := Fl.pos_of fwc hpos
  simp only [Nat.sub_zero, show 3 - 1 = 2 from rfl, show 3 - 2 = 1 from rfl, show 3 - 3 = 0 from rfl] at B1 B2 B3 B4
  -- what lies above, what below
  obtain ⟨A, B, hA, hB, hT, hSc, hAc⟩ : ∃ A B : Int, 0 ≤ A ∧ 0 ≤ B ∧ A + B + af c = af 0 + af 1 + af 2 + af 3 ∧ Fl.Abt (V c) B (af 0 + af 1 + af 2 + af 3) ∧ Fl.Abt (X (3 - c)) A (af 0 + af 1 + af 2 + af 3) := by
    have : c = 0 ∨ c = 1 ∨ c = 2 ∨ c = 3 := by omega
    rcases this with rfl | rfl | rfl | rfl
    · exact ⟨af 3 + af 2 + af 1, 0, by omega, by omega, by omega, by rw [v0]; exact abt0 (by omega), abt3 B3 (by omega) (by omega)⟩
    · exact ⟨af 3 + af 2, af 0, by omega, by omega, by omega, abt1 A1 (by omega) (by omega), abt2 B2 (by omega) (by omega)⟩
    · exact ⟨af 3, af 0 + af 1, by omega, by omega, by omega, abt2 A2 (by omega) (by omega), abt1 B1 (by omega) (by omega)⟩
    · exact ⟨0, af 0 + af 1 + af 2, by omega, by omega, by omega, abt3 A3 (by omega) (by omega), by rw [show 3 - 3 = 0 from rfl, x0]; exact abt0 (by omega)⟩
  have t4 := abt_of A4 (by omega) (Int.le_refl _)
  have u4 := abt_of B4 (by omega) (Int.le_refl _)
  rw [show af 3 + af 2 + af 1 + af 0 = af 0 + af 1 + af 2 + af 3 by omega] at u4
  rw [← hT] at t4 u4 hSc hAc
  obtain ⟨fb, own1, ab, own2, hi, lo, q1, o1, q2, o2, vhi, vlo, d1, d2, d3, d4, d5, d6, f1, f2, f4, f5, f6, t⟩ := Fl.tile_words hA hB hW (fV c (by omega)) (fV 4 (by omega)) (fX (3 - c) (by omega)) (fX 4 (by omega)) fwc hSc t4 hAc u4
  obtain ⟨ex, R, hex, hR, hR0, hR1, hp0, top, ov0, ov, m, d, htop, hov0, hov, hm, hd, hend⟩ := Fl.outcome hp f1 f2 f4 f5 f6 t
  exact law_good p fb own1 own2 hi lo ab ex R top ov0 ov m d wf c w hc hpp hS d1 hex d2 hR hR0 hR1 hp0 hX d3 d5 d4 d6 htop hov0 hov hm hd hend

/-- THE LAW, whatever the input. -/
theorem law_any (p : Nat) (wf : Nat → Nat) (c : Int) (w : World) :
    Calls Try.prog 3 #[.float .f64 p, .agg (arr wf), .int .i64 c] w fun e w' => e = .returned (.bool true) ∧ Below w.heap.size w w' := by
  by_cases hc : c < 0 ∨ 3 < c
  · exact law_out p wf c w hc
  · obtain ⟨k, rfl⟩ : ∃ k : Nat, c = k := ⟨c.toNat, by omega⟩
    by_cases hp : Ieee.double.order p p = some .eq
    · have hpp : neB p p = false := by unfold Fl.neB; rw [hp]; rfl
      by_cases hdom : (∀ j, j < 4 → geB (wf j) 0 = true ∧ leB (wf j) 9094988921128908188 = true) ∧ gtB (wf k) 0 = true
      · exact law_on p wf k w (by omega) hp hdom.1 hdom.2
      · exact law_off p wf k w (by omega) hpp hdom
    · exact law_nan p wf k w (by omega) (by unfold Fl.neB; simpa using hp)

end Go.Proofs.Qxb6602412a
