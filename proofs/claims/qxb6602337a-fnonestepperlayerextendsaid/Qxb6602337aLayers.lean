/-
  PLAIN MATHEMATICS FOR oneStepPerLayer: no Go in sight but 'wrap64'. 'D j' is the id of layer j, 'T j' the size of step j.
-/
import Derived.IntWalk
namespace Go.Proofs.Qxb6602337a.Lay
open Go.RowKit

/-- The bytes of the empty layer's digest. -/
def emptyId : List UInt8 := [115, 104, 97, 50, 53, 54, 58, 53, 102, 55, 48, 98, 102, 49, 56, 97, 48, 56, 54, 48, 48, 55, 48, 49, 54, 101, 57, 52, 56, 98, 48, 52, 97, 101, 100, 51, 98, 56, 50, 49, 48, 51, 97, 51, 54, 98, 101, 97, 52, 49, 55, 53, 53, 98, 54, 99, 100, 100, 102, 97, 102, 49, 48, 97, 99, 101, 51, 99, 54, 101, 102]
def isE (s : ByteArray) : Bool := s.toList == emptyId

theorem isE_yes {s : ByteArray} (h : isE s = true) : (s.toList == [115, 104, 97, 50, 53, 54, 58, 53, 102, 55, 48, 98, 102, 49, 56, 97, 48, 56, 54, 48, 48, 55, 48, 49, 54, 101, 57, 52, 56, 98, 48, 52, 97, 101, 100, 51, 98, 56, 50, 49, 48, 51, 97, 51, 54, 98, 101, 97, 52, 49, 55, 53, 53, 98, 54, 99, 100, 100, 102, 97, 102, 49, 48, 97, 99, 101, 51, 99, 54, 101, 102]) = true := h
theorem isE_no {s : ByteArray} (h : isE s = false) : (s.toList == [115, 104, 97, 50, 53, 54, 58, 53, 102, 55, 48, 98, 102, 49, 56, 97, 48, 56, 54, 48, 48, 55, 48, 49, 54, 101, 57, 52, 56, 98, 48, 52, 97, 101, 100, 51, 98, 56, 50, 49, 48, 51, 97, 51, 54, 98, 101, 97, 52, 49, 55, 53, 53, 98, 54, 99, 100, 100, 102, 97, 102, 49, 48, 97, 99, 101, 51, 99, 54, 101, 102]) = false := h

/-- From step k on, 'f' steps to go. -/
def run (D : Nat → ByteArray) (T : Nat → Int) (size : Int) : Nat → Nat → Int → Bool
  | 0, _, told => told == size
  | f + 1, k, told => if 0 < T k ∧ isE (D k) = true then false else run D T size f (k + 1) (wrap64 (told + T k))

theorem run_succ (D : Nat → ByteArray) (T : Nat → Int) (size : Int) (f k : Nat) (told : Int) :
    run D T size (f + 1) k told = if 0 < T k ∧ isE (D k) = true then false else run D T size f (k + 1) (wrap64 (told + T k)) := rfl

/-- What oneStepPerLayer answers. -/
def one (D : Nat → ByteArray) (T : Nat → Int) (nd ns : Nat) (size : Int) : Bool := if ns = nd then run D T size ns 0 0 else false

theorem wrap_range (x : Int) : -9223372036854775808 ≤ wrap64 x ∧ wrap64 x ≤ 9223372036854775807 := by unfold wrap64; omega
theorem wrap_add_cancel (a b s : Int) (ha : -9223372036854775808 ≤ a) (ha' : a ≤ 9223372036854775807) (hb : -9223372036854775808 ≤ b) (hb' : b ≤ 9223372036854775807) :
    (wrap64 (a + s) == wrap64 (b + s)) = (a == b) := by
  rw [Bool.eq_iff_iff]
  simp only [beq_iff_eq]
  unfold wrap64
  constructor
  · intro h; omega
  · intro h; rw [h]

theorem run_stop {D : Nat → ByteArray} {T : Nat → Int} {size : Int} {n k : Nat} {told : Int} (hk : k < n) (c : 0 < T k) (e : isE (D k) = true) : run D T size (n - k) k told = false := by
  rw [show n - k = (n - (k + 1)) + 1 by omega, run_succ, if_pos ⟨c, e⟩]
theorem run_on {D : Nat → ByteArray} {T : Nat → Int} {size : Int} {n k : Nat} {told : Int} (hk : k < n) (c : ¬ (0 < T k ∧ isE (D k) = true)) : run D T size (n - k) k told = run D T size (n - (k + 1)) (k + 1) (wrap64 (told + T k)) := by
  rw [show n - k = (n - (k + 1)) + 1 by omega, run_succ, if_neg c]
theorem run_end {D : Nat → ByteArray} {T : Nat → Int} {size : Int} {n k : Nat} {told : Int} (hk : n ≤ k) : run D T size (n - k) k told = (told == size) := by
  rw [show n - k = 0 by omega]; rfl

/-- One more layer, with its step. -/
theorem run_more (D D2 : Nat → ByteArray) (T T2 : Nat → Int) (size : Int) (n : Nat) (id : ByteArray) (step : Int) (hs : -9223372036854775808 ≤ size) (hs' : size ≤ 9223372036854775807)
    (hD : ∀ j, j < n → D2 j = D j) (hT : ∀ j, j < n → T2 j = T j) (hDn : D2 n = id) (hTn : T2 n = step) :
    ∀ f k told, k + f = n → -9223372036854775808 ≤ told → told ≤ 9223372036854775807 →
      run D2 T2 (wrap64 (size + step)) (f + 1) k told = (run D T size f k told && !(decide (0 < step) && isE id)) := by
  intro f
  induction f with
  | zero =>
    intro k told hk h1 h2
    obtain rfl : k = n := by omega
    simp only [run]
    rw [hDn, hTn, wrap_add_cancel told size step h1 h2 hs hs']
    by_cases c : 0 < step <;> by_cases e : isE id = true <;> simp [c, e]
  | succ f ih =>
    intro k told hk h1 h2
    rw [run_succ D2 T2 _ (f + 1) k, run_succ D T _ f k, hD k (by omega), hT k (by omega)]
    by_cases c : 0 < T k ∧ isE (D k) = true
    · rw [if_pos c, if_pos c]; rfl
    · rw [if_neg c, if_neg c]
      exact ih (k + 1) _ (by omega) (wrap_range _).1 (wrap_range _).2

theorem one_more (D D2 : Nat → ByteArray) (T T2 : Nat → Int) (size : Int) (nd ns : Nat) (id : ByteArray) (step : Int) (hs : -9223372036854775808 ≤ size) (hs' : size ≤ 9223372036854775807)
    (hD : ∀ j, j < nd → D2 j = D j) (hT : ∀ j, j < ns → T2 j = T j) (hDn : D2 nd = id) (hTn : T2 ns = step) :
    one D2 T2 (nd + 1) (ns + 1) (wrap64 (size + step)) = (one D T nd ns size && !(decide (0 < step) && isE id)) := by
  unfold one
  by_cases e : ns = nd
  · subst e
    rw [if_pos rfl, if_pos rfl]
    exact run_more D D2 T T2 size ns id step hs hs' hD hT hDn hTn ns 0 0 (by omega) (by omega) (by omega)
  · rw [if_neg (by omega), if_neg e]; rfl

theorem one_none (D : Nat → ByteArray) (T : Nat → Int) (size : Int) : one D T 0 0 size = (0 == size) := by
  unfold one; rw [if_pos rfl]; rfl

end Go.Proofs.Qxb6602337a.Lay
