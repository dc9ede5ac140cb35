/-
  PLAIN MATHEMATICS FOR lawSkipModel: the one-pass state machine, and that it answers as skipValue does. No Go in sight.
-/
import Derived.Test.Qxb6602337aSkip
namespace Go.Proofs.Qxb6602337a.Skip

def smEnd (g : Nat → Int) (n : Nat) : Nat → Int → Bool → Bool → Nat → Nat
  | 0, _, _, _, _ => n
  | f + 1, d, s, e, j =>
    if j < n then
      if s = true then
        if e = true then smEnd g n f d true false (j + 1)
        else if g j = 92 then smEnd g n f d true true (j + 1)
        else if g j = 34 then (if d = 0 then j + 1 else smEnd g n f d false false (j + 1))
        else smEnd g n f d true false (j + 1)
      else if g j = 34 then smEnd g n f d true e (j + 1)
      else if g j = 123 ∨ g j = 91 then smEnd g n f (d + 1) false e (j + 1)
      else if g j = 125 ∨ g j = 93 then (if d - 1 = 0 then j + 1 else smEnd g n f (d - 1) false e (j + 1))
      else smEnd g n f d false e (j + 1)
    else n

def M (g : Nat → Int) (n : Nat) (d : Int) (s e : Bool) (j : Nat) : Nat := smEnd g n n d s e j

theorem smEnd_fuel (g : Nat → Int) (n : Nat) : ∀ f f' d s e j, n ≤ f + j → n ≤ f' + j → smEnd g n f d s e j = smEnd g n f' d s e j := by
  intro f
  induction f with
  | zero =>
    intro f' d s e j h _
    cases f' with
    | zero => rfl
    | succ f' => simp only [smEnd]; rw [if_neg (by omega)]
  | succ f ih =>
    intro f' d s e j h h'
    cases f' with
    | zero => simp only [smEnd]; rw [if_neg (by omega)]
    | succ f' =>
      simp only [smEnd]
      have q := fun d s e => ih f' d s e (j + 1) (by omega) (by omega)
      simp only [q]

theorem M_end {g : Nat → Int} {n j : Nat} {d : Int} {s e : Bool} (h : n ≤ j) : M g n d s e j = n := by
  unfold M; cases n with
  | zero => rfl
  | succ n => simp only [smEnd]; rw [if_neg (by omega)]

theorem M_step {g : Nat → Int} {n j : Nat} {d : Int} {s e : Bool} (h : j < n) : M g n d s e j =
      if s = true then
        if e = true then M g n d true false (j + 1)
        else if g j = 92 then M g n d true true (j + 1)
        else if g j = 34 then (if d = 0 then j + 1 else M g n d false false (j + 1))
        else M g n d true false (j + 1)
      else if g j = 34 then M g n d true e (j + 1)
      else if g j = 123 ∨ g j = 91 then M g n (d + 1) false e (j + 1)
      else if g j = 125 ∨ g j = 93 then (if d - 1 = 0 then j + 1 else M g n (d - 1) false e (j + 1))
      else M g n d false e (j + 1) := by
  unfold M
  rw [smEnd_fuel g n n (n + 1) d s e j (by omega) (by omega)]
  simp only [smEnd]
  rw [if_pos h]

section
variable {g : Nat → Int} {n j : Nat} {d : Int}
theorem M_skip (h : j < n) : M g n d true true j = M g n d true false (j + 1) := by rw [M_step h]; simp
theorem M_back (h : j < n) (c : g j = 92) : M g n d true false j = M g n d true true (j + 1) := by rw [M_step h]; simp [c]
theorem M_shut (h : j < n) (c : g j = 34) (z : d = 0) : M g n d true false j = j + 1 := by rw [M_step h]; simp [c, z]
theorem M_leave (h : j < n) (c : g j = 34) (z : d ≠ 0) : M g n d true false j = M g n d false false (j + 1) := by rw [M_step h]; simp [c, z]
theorem M_char (h : j < n) (c : g j ≠ 92) (c' : g j ≠ 34) : M g n d true false j = M g n d true false (j + 1) := by rw [M_step h]; simp [c, c']
theorem M_quote (h : j < n) (c : g j = 34) {e : Bool} : M g n d false e j = M g n d true e (j + 1) := by rw [M_step h]; simp [c]
theorem M_open (h : j < n) (c : g j = 123 ∨ g j = 91) {e : Bool} : M g n d false e j = M g n (d + 1) false e (j + 1) := by
  rw [M_step h, if_neg (by simp), if_neg (by omega), if_pos c]
theorem M_last (h : j < n) (c : g j = 125 ∨ g j = 93) (z : d - 1 = 0) {e : Bool} : M g n d false e j = j + 1 := by
  rw [M_step h, if_neg (by simp), if_neg (by omega), if_neg (by omega), if_pos c, if_pos z]
theorem M_close (h : j < n) (c : g j = 125 ∨ g j = 93) (z : d - 1 ≠ 0) {e : Bool} : M g n d false e j = M g n (d - 1) false e (j + 1) := by
  rw [M_step h, if_neg (by simp), if_neg (by omega), if_neg (by omega), if_pos c, if_neg z]
theorem M_else (h : j < n) (c : g j ≠ 34) (c1 : ¬ (g j = 123 ∨ g j = 91)) (c2 : ¬ (g j = 125 ∨ g j = 93)) {e : Bool} : M g n d false e j = M g n d false e (j + 1) := by
  rw [M_step h, if_neg (by simp), if_neg c, if_neg c1, if_neg c2]
end

/-- Behind a backslash one byte is passed over. -/
theorem M_esc {g : Nat → Int} {n j : Nat} {d : Int} (h : j < n) (c : g j = 92) : M g n d true false j = M g n d true false (j + 2) := by
  rw [M_back h c]
  by_cases h1 : j + 1 < n
  · rw [M_skip h1]
  · rw [M_end (by omega), M_end (by omega)]

/-- A string at the top: it ends where skipString ends. -/
theorem M_str (g : Nat → Int) (n : Nat) : ∀ j, M g n 0 true false j = S g n j := by
  refine upTo n (fun j h => by rw [M_end h, S_end h]) fun j h ih => ?_
  by_cases c : g j = 92
  · rw [M_esc h c, S_esc h c]; exact ih _ (by omega)
  · by_cases c' : g j = 34
    · rw [M_shut h c' rfl, S_quote h c']
    · rw [M_char h c c', S_else h c c']; exact ih _ (by omega)

/-- A string inside a bracket. -/
theorem M_in (g : Nat → Int) (n : Nat) (d : Int) (z : d ≠ 0) : ∀ j, M g n d true false j = M g n d false false (S g n j) := by
  refine upTo n (fun j h => by rw [M_end h, S_end h, M_end (Nat.le_refl _)]) fun j h ih => ?_
  by_cases c : g j = 92
  · rw [M_esc h c, S_esc h c]; exact ih _ (by omega)
  · by_cases c' : g j = 34
    · rw [M_leave h c' z, S_quote h c']
    · rw [M_char h c c', S_else h c c']; exact ih _ (by omega)

theorem M_obj (g : Nat → Int) (n : Nat) : ∀ j d, 1 ≤ d → M g n d false false j = O g n d j := by
  refine upTo n (fun j h d _ => by rw [M_end h, O_end h]) fun j h ih d hd => ?_
  by_cases c : g j = 34
  · rw [M_quote h c, M_in g n d (by omega), O_quote h c]; exact ih _ (S_next g n j h) d hd
  · by_cases c1 : g j = 123 ∨ g j = 91
    · rw [M_open h c1, O_open h c1]; exact ih _ (by omega) _ (by omega)
    · by_cases c2 : g j = 125 ∨ g j = 93
      · by_cases e : d - 1 = 0
        · rw [M_last h c2 e, O_last h c2 e]
        · rw [M_close h c2 e, O_close h c2 e]; exact ih _ (by omega) _ (by omega)
      · rw [M_else h c c1 c2, O_else h c c1 c2]; exact ih _ (by omega) _ hd

/-- What lawSkipModel answers. -/
def L (g : Nat → Int) (n i : Nat) : Nat :=
  if i = n then n else if g i ≠ 34 ∧ g i ≠ 123 ∧ g i ≠ 91 then C g n i else M g n 0 false false i

theorem L_eq (g : Nat → Int) (n i : Nat) (h : i ≤ n) : L g n i = V g n i := by
  unfold L V
  by_cases e : i = n
  · rw [if_pos e, if_pos e, e]
  · rw [if_neg e, if_neg e]
    by_cases c : g i = 34
    · rw [if_neg (by omega), if_pos c, M_quote (by omega) c, M_str]
    · rw [if_neg c]
      by_cases c1 : g i = 123 ∨ g i = 91
      · rw [if_neg (by omega), if_pos c1, M_open (by omega) c1, O_open (by omega) c1, M_obj _ _ _ _ (by omega)]
      · rw [if_pos (by omega), if_neg c1]

end Go.Proofs.Qxb6602337a.Skip
