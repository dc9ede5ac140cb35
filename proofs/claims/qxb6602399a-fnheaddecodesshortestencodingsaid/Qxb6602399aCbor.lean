/-
  PLAIN MATHEMATICS FOR CBOR heads: big-endian numbers; the three upper and the five lower bits of a byte.
-/
import Derived.WalkKit
namespace Go.Proofs.Qxb6602399a

/-- The number that k bytes spell from place s on, the greatest first. -/
def be (g : Nat → Int) (s : Nat) : Nat → Int
  | 0 => 0
  | k + 1 => be g s k * 256 + g (s + k)

theorem be_range (g : Nat → Int) (s : Nat) : ∀ k, (∀ j, j < k → 0 ≤ g (s + j) ∧ g (s + j) ≤ 255) → 0 ≤ be g s k ∧ be g s k < 256 ^ k := by
  intro k
  induction k with
  | zero => intro _; simp [be]
  | succ k ih =>
    intro h
    have h1 := ih fun j hj => h j (by omega)
    have h2 := h k (by omega)
    simp only [be]
    rw [Int.pow_succ]
    omega

theorem pow_le56 (k : Nat) (hk : k ≤ 7) : (256 : Int) ^ k ≤ 72057594037927936 := by
  match k, hk with
  | 0, _ => decide
  | 1, _ => decide
  | 2, _ => decide
  | 3, _ => decide
  | 4, _ => decide
  | 5, _ => decide
  | 6, _ => decide
  | 7, _ => decide

theorem be_small (g : Nat → Int) (s k : Nat) (hk : k ≤ 7) (h : ∀ j, j < k → 0 ≤ g (s + j) ∧ g (s + j) ≤ 255) : 0 ≤ be g s k ∧ be g s k < 72057594037927936 := by
  have h1 := be_range g s k h
  have h2 := pow_le56 k hk
  omega

/-- 'n<<8 | uint64(b)'. -/
theorem or_join (a b : Int) (ha : 0 ≤ a) (ha' : a < 72057594037927936) (hb : 0 ≤ b) (hb' : b ≤ 255) : bits .or .u64 (IntKind.u64.wrap (a * 256)) (IntKind.u64.wrap b) = a * 256 + b := by
  have e1 : IntKind.u64.wrap (a * 256) = a * 256 := by simp [IntKind.wrap, IntKind.bits, IntKind.signed]; omega
  have e2 : IntKind.u64.wrap b = b := by simp [IntKind.wrap, IntKind.bits, IntKind.signed]; omega
  rw [e1, e2, u64_or _ _ (by omega) (by omega) hb (by omega), nat_join 8 _ _ (by omega) (by omega)]
  omega

theorem byte_parts_all : ∀ n : Fin 256, bits .and .u8 (n.val : Int) 224 + bits .and .u8 (n.val : Int) 31 = (n.val : Int) ∧ 0 ≤ bits .and .u8 (n.val : Int) 31 ∧ bits .and .u8 (n.val : Int) 31 ≤ 31 ∧ bits .and .u8 (n.val : Int) 224 % 32 = 0 := by decide +kernel
theorem byte_parts (x : Int) (h : 0 ≤ x) (h' : x ≤ 255) : bits .and .u8 x 224 + bits .and .u8 x 31 = x ∧ 0 ≤ bits .and .u8 x 31 ∧ bits .and .u8 x 31 ≤ 31 ∧ bits .and .u8 x 224 % 32 = 0 := by
  have := byte_parts_all ⟨x.toNat, by omega⟩
  rw [show ((⟨x.toNat, by omega⟩ : Fin 256).val : Int) = x by simp; omega] at this
  exact this

end Go.Proofs.Qxb6602399a
