/-
  THE WALKS of classShedProbability (16), ZZClassShedProbability (11), weightsInDomain (10), absf (12).
-/
import Derived.Test.Qxb6602412aRows
import Derived.WalkKit
import Derived.Outline
import Derived.ProofKit
import Derived.Below
import Derived.Test.Qxb6602412aOutcome
namespace Go.Proofs.Qxb6602412a
open Go.RowKit
open Fl (ltB leB gtB geB neB fsum)

section
variable {x y r : Nat} {b : Bool}
theorem r_add (h : Ieee.double.add x y = some r) : ∀ wx, (binOp .add 22 (.float .f64 x) (.float .f64 y)).run Try.prog wx = .ok (.float .f64 r) wx := by
  intro wx
  have h' : FloatKind.f64.format.add x y = some r := h
  simp [binOp, Op.floatArith, h']
theorem r_sub (h : Ieee.double.sub x y = some r) : ∀ wx, (binOp .sub 22 (.float .f64 x) (.float .f64 y)).run Try.prog wx = .ok (.float .f64 r) wx := by
  intro wx
  have h' : FloatKind.f64.format.sub x y = some r := h
  simp [binOp, Op.floatArith, h']
theorem r_mul (h : Ieee.double.mul x y = some r) : ∀ wx, (binOp .mul 22 (.float .f64 x) (.float .f64 y)).run Try.prog wx = .ok (.float .f64 r) wx := by
  intro wx
  have h' : FloatKind.f64.format.mul x y = some r := h
  simp [binOp, Op.floatArith, h']
theorem r_div (h : Ieee.double.div x y = some r) : ∀ wx, (binOp .quo 22 (.float .f64 x) (.float .f64 y)).run Try.prog wx = .ok (.float .f64 r) wx := by
  intro wx
  have h' : FloatKind.f64.format.div x y = some r := h
  simp [binOp, Op.floatArith, h']
theorem c_lt (h : ltB x y = b) : ∀ wx, (binOp .lss 22 (.float .f64 x) (.float .f64 y)).run Try.prog wx = .ok (.bool b) wx := by
  intro wx; rw [← h]; simp [binOp, Op.floatCmp, ltB, FloatKind.format]
theorem c_le (h : leB x y = b) : ∀ wx, (binOp .leq 22 (.float .f64 x) (.float .f64 y)).run Try.prog wx = .ok (.bool b) wx := by
  intro wx; rw [← h]; simp [binOp, Op.floatCmp, leB, FloatKind.format]
theorem c_gt (h : gtB x y = b) : ∀ wx, (binOp .gtr 22 (.float .f64 x) (.float .f64 y)).run Try.prog wx = .ok (.bool b) wx := by
  intro wx; rw [← h]; simp [binOp, Op.floatCmp, gtB, FloatKind.format]
theorem c_ge (h : geB x y = b) : ∀ wx, (binOp .geq 22 (.float .f64 x) (.float .f64 y)).run Try.prog wx = .ok (.bool b) wx := by
  intro wx; rw [← h]; simp [binOp, Op.floatCmp, geB, FloatKind.format]
theorem c_ne (h : neB x y = b) : ∀ wx, (binOp .neq 22 (.float .f64 x) (.float .f64 y)).run Try.prog wx = .ok (.bool b) wx := by
  intro wx; rw [← h]; simp [binOp, Op.floatCmp, neB, FloatKind.format]
theorem u_neg : ∀ wx, (Op.unary .neg (.float .f64 x)).run Try.prog wx = .ok (.float .f64 (x ^^^ 2 ^ 63)) wx := by
  intro wx; rfl
end

theorem absf_neg (d : Nat) (w : World) (h : ltB d 0 = true) :
    Calls Try.prog 12 #[.float .f64 d] w fun e w' => e = .returned (.float .f64 (d ^^^ 2 ^ 63)) ∧ w' = w := by
  have h1 := c_lt h
  have h2 := @u_neg d
  go_enter Try.func12, Try.ntmps12
  go_wp2
  go_ret
  exact ⟨rfl, rfl⟩

theorem absf_pos (d : Nat) (w : World) (h : ltB d 0 = false) :
    Calls Try.prog 12 #[.float .f64 d] w fun e w' => e = .returned (.float .f64 d) ∧ w' = w := by
  have h1 := c_lt h
  go_enter Try.func12, Try.ntmps12
  go_wp2
  go_ret
  exact ⟨rfl, rfl⟩

/-- The four weights, as an array. -/
abbrev arr (wf : Nat → Nat) : Array Value := #[.float .f64 (wf 0), .float .f64 (wf 1), .float .f64 (wf 2), .float .f64 (wf 3)]

theorem box_cell (w : World) (wf : Nat → Nat) (c : Nat) (hc : c ≤ 3) : (w.alloc (.cells (arr wf) 23)).cell? ⟨w.heap.size, c, none⟩ = some (.float .f64 (wf c)) := by
  have : c = 0 ∨ c = 1 ∨ c = 2 ∨ c = 3 := by omega
  rcases this with rfl | rfl | rfl | rfl <;> simp

set_option maxHeartbeats 1000000 in
theorem shed_any (p fb ex own R : Nat) (wf : Nat → Nat) (c : Nat) (w : World) (hc : c ≤ 3) (hS : ∀ k, k < 4 → Ieee.double.add (fsum wf k) (wf k) = some (fsum wf (k + 1)))
    (hfb : Ieee.double.div (fsum wf c) (fsum wf 4) = some fb) (hex : Ieee.double.sub p fb = some ex) (hown : Ieee.double.div (wf c) (fsum wf 4) = some own)
    (hR : (leB ex 0 = true ∧ R = 0) ∨ (leB ex 0 = false ∧ geB ex own = true ∧ R = 4607182418800017408) ∨ (leB ex 0 = false ∧ geB ex own = false ∧ Ieee.double.div ex own = some R)) :
    Calls Try.prog 16 #[.float .f64 p, .agg (arr wf), .int .i64 c] w fun e w' => e = .returned (.float .f64 R) ∧ Below w.heap.size w w' := by
  have HS : Hid (∀ k, k < 4 → Ieee.double.add (fsum wf k) (wf k) = some (fsum wf (k + 1))) := hS
  clear hS
  have i0 : ∀ wx, (Instr.index 23 (.agg (arr wf)) (.int .i64 0)).run Try.prog wx = .ok (.float .f64 (wf 0)) wx := fun _ => by kernel_rfl
  have i1 : ∀ wx, (Instr.index 23 (.agg (arr wf)) (.int .i64 1)).run Try.prog wx = .ok (.float .f64 (wf 1)) wx := fun _ => by kernel_rfl
  have i2 : ∀ wx, (Instr.index 23 (.agg (arr wf)) (.int .i64 2)).run Try.prog wx = .ok (.float .f64 (wf 2)) wx := fun _ => by kernel_rfl
  have i3 : ∀ wx, (Instr.index 23 (.agg (arr wf)) (.int .i64 3)).run Try.prog wx = .ok (.float .f64 (wf 3)) wx := fun _ => by kernel_rfl
  have hcell := box_cell w wf c hc
  have d1 := r_div hfb
  have d2 := r_sub hex
  have d3 := r_div hown
  go_enter Try.func16, Try.ntmps16
  go_wp2
  go_loop [7, 8, 14] (fun t7 t8 t14 => ∃ (k bw : Nat), k ≤ 4 ∧ t14 = .int .i64 k ∧ t8 = .float .f64 (fsum wf k) ∧ t7 = .float .f64 bw ∧ bw = fsum wf (min k c)) (fun _ _ t => 4 - (intOf t).toNat)
  case atStart => exact ⟨0, 0, by omega, rfl, rfl, rfl, by rw [Nat.zero_min]; rfl⟩
  case round =>
    obtain ⟨k, bw, hk, rfl, rfl, rfl, hbw⟩ := hrel
    by_cases hlt : k < 4
    · have hadd := r_add (HS.out k hlt)
      have hk4 : k = 0 ∨ k = 1 ∨ k = 2 ∨ k = 3 := by omega
      by_cases hkc : k < c
      · rw [Nat.min_eq_left (by omega)] at hbw
        subst hbw
        have HB : Hid (fsum wf (k + 1) = fsum wf (min (k + 1) c)) := by unfold Hid; rw [Nat.min_eq_left (by omega)]
        have hk3 : k = 0 ∨ k = 1 ∨ k = 2 := by omega
        clear hk4
        rcases hk3 with rfl | rfl | rfl
        all_goals
          go_wp2
          go_round
          case rel => exact ⟨_, _, by omega, by go_num, rfl, rfl, HB.out⟩
          case measure => simp [intOf]
      · have HB : Hid (bw = fsum wf (min (k + 1) c)) := by unfold Hid; rw [hbw, Nat.min_eq_right (by omega), Nat.min_eq_right (by omega)]
        clear hbw
        rcases hk4 with rfl | rfl | rfl | rfl
        all_goals
          go_wp2
          go_round
          case rel => exact ⟨_, _, by omega, by go_num, rfl, rfl, HB.out⟩
          case measure => simp [intOf]
    · have hk4 : k = 4 := by omega
      subst hk4
      rw [Nat.min_eq_right (by omega)] at hbw
      subst hbw
      clear i0 i1 i2 i3
      rcases hR with ⟨h1, rfl⟩ | ⟨h1, h2, rfl⟩ | ⟨h1, h2, h3⟩
      · have c1 := c_le h1
        go_wp2
        go_ret
        exact ⟨rfl, (Below.refl _ _).alloc (Nat.le_refl _) _⟩
      · have c1 := c_le h1
        have c2 := c_ge h2
        go_wp2
        go_ret
        exact ⟨rfl, (Below.refl _ _).alloc (Nat.le_refl _) _⟩
      · have c1 := c_le h1
        have c2 := c_ge h2
        have c3 := r_div h3
        go_wp2
        go_ret
        exact ⟨rfl, (Below.refl _ _).alloc (Nat.le_refl _) _⟩

theorem zzShed_any (p fb ex own R : Nat) (wf : Nat → Nat) (c : Nat) (w : World) (hc : c ≤ 3) (hS : ∀ k, k < 4 → Ieee.double.add (fsum wf k) (wf k) = some (fsum wf (k + 1)))
    (hfb : Ieee.double.div (fsum wf c) (fsum wf 4) = some fb) (hex : Ieee.double.sub p fb = some ex) (hown : Ieee.double.div (wf c) (fsum wf 4) = some own)
    (hR : (leB ex 0 = true ∧ R = 0) ∨ (leB ex 0 = false ∧ geB ex own = true ∧ R = 4607182418800017408) ∨ (leB ex 0 = false ∧ geB ex own = false ∧ Ieee.double.div ex own = some R)) :
    Calls Try.prog 11 #[.float .f64 p, .agg (arr wf), .int .i64 c] w fun e w' => e = .returned (.float .f64 R) ∧ Below w.heap.size w w' := by
  have hh := fun wx => shed_any p fb ex own R wf c wx hc hS hfb hex hown hR
  clear hS hfb hex hown hR
  have HH : Hid _ := hh
  clear hh
  go_enter Try.func11, Try.ntmps11
  go_wp2_with fail
  refine Calls.mono (HH.out _) ?_
  rintro e w' ⟨rfl, hb⟩
  have hb2 : Below w.heap.size w w' := ((Below.refl _ _).alloc (Nat.le_refl _) _).trans (hb.mono (by simp))
  clear HH hb
  go_wp2_with fail
  go_ret
  exact ⟨rfl, hb2⟩

/-- A bool is handed back; where it is true, the weights are in the law's domain. -/
def DomAsked (wf : Nat → Nat) (c : Nat) (e : Ending) : Prop := ∃ r : Bool, e = .returned (.bool r) ∧ (r = true → (∀ k, k < 4 → geB (wf k) 0 = true ∧ leB (wf k) 9094988921128908188 = true) ∧ gtB (wf c) 0 = true)

set_option maxHeartbeats 1000000 in
theorem dom_any (wf : Nat → Nat) (c : Nat) (w : World) (hc : c ≤ 3) :
    Calls Try.prog 10 #[.agg (arr wf), .int .i64 c] w fun e w' => DomAsked wf c e ∧ Below w.heap.size w w' := by
  have hcell := box_cell w wf c hc
  go_enter Try.func10, Try.ntmps10
  go_wp2
  go_loop [5] (fun t => ∃ k : Nat, k ≤ 4 ∧ t = .int .i64 k ∧ ∀ j, j < k → geB (wf j) 0 = true ∧ leB (wf j) 9094988921128908188 = true) (fun t => 4 - (intOf t).toNat)
  case atStart => exact ⟨0, by omega, rfl, fun j h => by omega⟩
  case round =>
    obtain ⟨k, hk, rfl, hall⟩ := hrel
    have HA : Hid (∀ j, j < k → geB (wf j) 0 = true ∧ leB (wf j) 9094988921128908188 = true) := hall
    clear hall
    by_cases hlt : k < 4
    · have hcell2 := box_cell w wf k (by omega)
      clear hcell
      have hk4 : k = 0 ∨ k = 1 ∨ k = 2 ∨ k = 3 := by omega
      cases h1 : geB (wf k) 0 with
      | false =>
        have HN : Hid (geB (wf k) 0 = false) := h1
        have c1 := c_ge h1
        clear h1
        rcases hk4 with rfl | rfl | rfl | rfl
        all_goals
          go_wp2
          go_ret
          exact ⟨⟨false, rfl, fun h => by cases h⟩, (Below.refl _ _).alloc (Nat.le_refl _) _⟩
      | true =>
        cases h2 : leB (wf k) 9094988921128908188 with
        | false =>
          have c1 := c_ge h1
          have c2 := c_le h2
          clear h1 h2
          rcases hk4 with rfl | rfl | rfl | rfl
          all_goals
            go_wp2
            go_ret
            exact ⟨⟨false, rfl, fun h => by cases h⟩, (Below.refl _ _).alloc (Nat.le_refl _) _⟩
        | true =>
          have c1 := c_ge h1
          have c2 := c_le h2
          have HN : Hid (∀ j, j < k + 1 → geB (wf j) 0 = true ∧ leB (wf j) 9094988921128908188 = true) := fun j hj => by
            by_cases e : j = k
            · rw [e]; exact ⟨h1, h2⟩
            · exact HA.out j (by omega)
          clear h1 h2 HA
          rcases hk4 with rfl | rfl | rfl | rfl
          all_goals
            go_wp2
            go_round
            case rel => exact ⟨_, by omega, by go_num, HN.out⟩
            case measure => simp [intOf]
    · have hk4 : k = 4 := by omega
      subst hk4
      have c1 := c_gt (x := wf c) (y := 0) rfl
      go_wp2
      go_ret
      exact ⟨⟨gtB (wf c) 0, rfl, fun h => ⟨HA.out, h⟩⟩, (Below.refl _ _).alloc (Nat.le_refl _) _⟩

end Go.Proofs.Qxb6602412a
