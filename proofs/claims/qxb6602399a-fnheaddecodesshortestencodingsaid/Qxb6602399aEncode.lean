/-
  PLAIN MATHEMATICS FOR FnHeadDecodesShortestEncoding: what the reader makes of the bytes that the law lays.
-/
import Derived.Test.Qxb6602399aZZWalks
namespace Go.Proofs.Qxb6602399a

/-- The first n numbers of g. -/
def pre (g : Nat → Int) (n : Nat) : List Int := (List.range n).map g
theorem pre_zero (g : Nat → Int) : pre g 0 = [] := rfl
theorem pre_succ (g : Nat → Int) (n : Nat) : pre g (n + 1) = pre g n ++ [g n] := by unfold pre; rw [List.range_succ, List.map_append]; rfl
theorem pre_length (g : Nat → Int) (n : Nat) : (pre g n).length = n := by unfold pre; simp
theorem pre_getD (g : Nat → Int) (n j : Nat) (h : j < n) : (pre g n).getD j 0 = g j := by
  unfold pre; rw [List.getD_eq_getElem?_getD, List.getElem?_map, List.getElem?_range h]; rfl
theorem pre_mem (g : Nat → Int) (n : Nat) (x : Int) (h : x ∈ pre g n) : ∃ j, j < n ∧ x = g j := by
  unfold pre at h
  obtain ⟨j, hj, rfl⟩ := List.mem_map.1 h
  exact ⟨j, List.mem_range.1 hj, rfl⟩

/-- Byte j of the sz bytes that spell v, the greatest first. -/
def hb (v : Int) (sz j : Nat) : Int := v / 2 ^ (8 * (sz - 1 - j)) % 256

theorem hb_range (v : Int) (sz j : Nat) : 0 ≤ hb v sz j ∧ hb v sz j ≤ 255 := by unfold hb; omega

/-- k of the bytes spell the number's upper part. -/
theorem be_hb (g : Nat → Int) (s : Nat) (v : Int) (sz : Nat) (h0 : 0 ≤ v) (h1 : v < 2 ^ (8 * sz)) (hg : ∀ j, j < sz → g (s + j) = hb v sz j) : ∀ k, k ≤ sz → be g s k = v / 2 ^ (8 * (sz - k)) := by
  intro k
  induction k with
  | zero =>
    intro _
    show (0 : Int) = _
    rw [Nat.sub_zero, Int.ediv_eq_zero_of_lt h0 h1]
  | succ k ih =>
    intro hk
    show be g s k * 256 + g (s + k) = _
    rw [ih (by omega), hg k (by omega)]
    unfold hb
    have e1 : sz - k = (sz - (k + 1)) + 1 := by omega
    have e2 : sz - 1 - k = sz - (k + 1) := by omega
    rw [e1, e2, Nat.mul_add, Int.pow_add, show ((2 : Int) ^ (8 * 1)) = 256 by decide, ← Int.ediv_ediv_of_nonneg (Int.pow_nonneg (by decide))]
    generalize v / 2 ^ (8 * (sz - (k + 1))) = q
    omega

theorem be_all (g : Nat → Int) (s : Nat) (v : Int) (sz : Nat) (h0 : 0 ≤ v) (h1 : v < 2 ^ (8 * sz)) (hg : ∀ j, j < sz → g (s + j) = hb v sz j) : be g s sz = v := by
  rw [be_hb g s v sz h0 h1 hg sz (Nat.le_refl _), Nat.sub_self]
  simp

theorem or_parts_all : ∀ a : Fin 8, ∀ i : Fin 32, bits .or .u8 ((32 * a.val : Nat) : Int) ((i.val : Nat) : Int) = ((32 * a.val + i.val : Nat) : Int) ∧
    bits .and .u8 ((32 * a.val + i.val : Nat) : Int) 224 = ((32 * a.val : Nat) : Int) ∧ bits .and .u8 ((32 * a.val + i.val : Nat) : Int) 31 = ((i.val : Nat) : Int) := by decide +kernel
theorem or_parts (m i : Int) (hm0 : 0 ≤ m) (hm1 : m ≤ 255) (hm : m % 32 = 0) (hi0 : 0 ≤ i) (hi1 : i ≤ 31) : bits .or .u8 m i = m + i ∧ bits .and .u8 (m + i) 224 = m ∧ bits .and .u8 (m + i) 31 = i := by
  have h := or_parts_all ⟨(m / 32).toNat, by omega⟩ ⟨i.toNat, by omega⟩
  have e1 : ((32 * (m / 32).toNat : Nat) : Int) = m := by omega
  have e2 : ((i.toNat : Nat) : Int) = i := by omega
  have e3 : ((32 * (m / 32).toNat + i.toNat : Nat) : Int) = m + i := by omega
  simp only [e1, e2, e3] at h
  exact h

theorem getD_at {l1 l2 : List Int} {x : Int} {k : Nat} (h : l1.length = k) : (l1 ++ [x] ++ l2).getD k 0 = x := by
  rw [List.getD_eq_getElem?_getD, List.append_assoc, List.getElem?_append_right (by omega)]
  simp [h]

theorem getD_behind {l1 l2 l3 : List Int} {x : Int} {k j : Nat} (h : l1.length = k) (hj : j < l2.length) : (l1 ++ [x] ++ l2 ++ l3).getD (k + 1 + j) 0 = l2.getD j 0 := by
  rw [List.getD_eq_getElem?_getD, List.getD_eq_getElem?_getD, List.append_assoc, List.append_assoc, List.getElem?_append_right (by omega)]
  have e : k + 1 + j - l1.length = j + 1 := by omega
  rw [e]
  simp only [List.cons_append, List.nil_append, List.getElem?_cons_succ]
  rw [List.getElem?_append_left hj]

theorem headOut_short (g0 g3 : Nat → Int) (k n3 : Nat) (m v : Int) (hm0 : 0 ≤ m) (hm1 : m ≤ 255) (hm : m % 32 = 0) (hv0 : 0 ≤ v) (hv1 : v < 24) :
    headOut (fun j => (pre g0 k ++ [bits .or .u8 m v] ++ pre g3 n3).getD j 0) (k + 1 + n3) k false m = (v, (k : Int) + 1, false) := by
  obtain ⟨o1, o2, o3⟩ := or_parts m v hm0 hm1 hm hv0 (by omega)
  unfold headOut
  rw [if_neg (by simp; omega), Int.toNat_natCast]
  simp only [getD_at (pre_length g0 k)]
  rw [o1, o2, o3, if_neg (by simp), if_pos hv1]

theorem headOut_long (g0 g3 : Nat → Int) (k n3 : Nat) (m v y : Int) (z : Nat) (hm0 : 0 ≤ m) (hm1 : m ≤ 255) (hm : m % 32 = 0) (hy0 : 24 ≤ y) (hy1 : y ≤ 27) (hz : sz y = z) (hv0 : 0 ≤ v) (hv1 : v < 2 ^ (8 * z)) :
    headOut (fun j => (pre g0 k ++ [bits .or .u8 m y] ++ pre (hb v z) z ++ pre g3 n3).getD j 0) (k + 1 + z + n3) k false m = (v, (k : Int) + 1 + z, false) := by
  obtain ⟨o1, o2, o3⟩ := or_parts m y hm0 hm1 hm (by omega) (by omega)
  have hk : (pre g0 k ++ [bits .or .u8 m y] ++ pre (hb v z) z ++ pre g3 n3).getD k 0 = m + y := by
    rw [List.append_assoc _ (pre (hb v z) z), getD_at (pre_length g0 k), o1]
  unfold headOut
  rw [if_neg (by simp; omega), Int.toNat_natCast]
  simp only [hk, o2, o3]
  rw [if_neg (by simp), if_neg (by omega), if_neg (by omega), hz, if_neg (by omega)]
  rw [be_all _ _ v z hv0 hv1 (fun j hj => by
    show (pre g0 k ++ [bits .or .u8 m y] ++ pre (hb v z) z ++ pre g3 n3).getD (k + 1 + j) 0 = _
    rw [getD_behind (pre_length g0 k) (by rw [pre_length]; exact hj), pre_getD _ _ _ hj])]

end Go.Proofs.Qxb6602399a
