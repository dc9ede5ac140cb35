/-
  PLAIN MATHEMATICS FOR dnsLabel and ldhGrammar.
-/
import GoSem.Dispatch
import Derived.IntWalk
import Derived.WalkKit
namespace Go.Proofs.Qxb6602378a.Label

/-- The class of a byte: 1 a letter or a digit, 2 a hyphen, 0 else. -/
def cls (x : Nat) : Int := if (97 ≤ x ∧ x ≤ 122) ∨ (65 ≤ x ∧ x ≤ 90) ∨ (48 ≤ x ∧ x ≤ 57) then 1 else if x = 45 then 2 else 0

theorem cls_one {x : Nat} (h : (97 ≤ x ∧ x ≤ 122) ∨ (65 ≤ x ∧ x ≤ 90) ∨ (48 ≤ x ∧ x ≤ 57)) : cls x = 1 := by unfold cls; rw [if_pos h]
theorem cls_two {x : Nat} (h : x = 45) : cls x = 2 := by unfold cls; rw [if_neg (by omega), if_pos h]
theorem cls_nil {x : Nat} (h : ¬ ((97 ≤ x ∧ x ≤ 122) ∨ (65 ≤ x ∧ x ≤ 90) ∨ (48 ≤ x ∧ x ≤ 57))) (h' : x ≠ 45) : cls x = 0 := by unfold cls; rw [if_neg h, if_neg h']
theorem cls_012 (x : Nat) : cls x = 0 ∨ cls x = 1 ∨ cls x = 2 := by
  unfold cls; split
  · simp
  · split <;> simp
theorem cls_two_iff (x : Nat) : cls x = 2 ↔ x = 45 := by
  unfold cls; split
  · simp; omega
  · split <;> simp_all

theorem or32_all : ∀ n : Fin 256, (97 ≤ bits .or .u8 (n.val : Int) 32 ∧ bits .or .u8 (n.val : Int) 32 ≤ 122) ↔ ((97 ≤ n.val ∧ n.val ≤ 122) ∨ (65 ≤ n.val ∧ n.val ≤ 90)) := by decide +kernel
theorem or32 (x : UInt8) : (97 ≤ bits .or .u8 (x.toNat : Int) 32 ∧ bits .or .u8 (x.toNat : Int) 32 ≤ 122) ↔ ((97 ≤ x.toNat ∧ x.toNat ≤ 122) ∨ (65 ≤ x.toNat ∧ x.toNat ≤ 90)) :=
  or32_all ⟨x.toNat, x.toNat_lt⟩

/-- The labels that are taken: 'n' bytes, 'c j' the class of byte j. -/
def OK (n : Nat) (c : Nat → Int) : Prop := 1 ≤ n ∧ n ≤ 63 ∧ c 0 ≠ 2 ∧ c (n - 1) ≠ 2 ∧ ∀ j, j < n → c j ≠ 0

/-- A bool is handed back: whether p. -/
def Says (p : Prop) (e : Ending) : Prop := ∃ r : Bool, e = .returned (.bool r) ∧ (r = true ↔ p)

end Go.Proofs.Qxb6602378a.Label
