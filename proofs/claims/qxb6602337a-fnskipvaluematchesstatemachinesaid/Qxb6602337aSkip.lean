/-
  PLAIN MATHEMATICS FOR skipValue: no Go in sight. 'g j' is the byte at place j, 'n' how many there are.
-/
namespace Go.Proofs.Qxb6602337a.Skip

/-! ### the end of a string: 'i' stands behind its opening quote -/
def strEnd (g : Nat → Int) (n : Nat) : Nat → Nat → Nat
  | 0, _ => n
  | f + 1, i => if i < n then (if g i = 92 then strEnd g n f (i + 2) else if g i = 34 then i + 1 else strEnd g n f (i + 1)) else n

def S (g : Nat → Int) (n i : Nat) : Nat := strEnd g n n i

theorem strEnd_fuel (g : Nat → Int) (n : Nat) : ∀ f f' i, n ≤ f + i → n ≤ f' + i → strEnd g n f i = strEnd g n f' i := by
  intro f
  induction f with
  | zero =>
    intro f' i h _
    cases f' with
    | zero => rfl
    | succ f' => simp only [strEnd]; rw [if_neg (by omega)]
  | succ f ih =>
    intro f' i h h'
    cases f' with
    | zero => simp only [strEnd]; rw [if_neg (by omega)]
    | succ f' =>
      simp only [strEnd]
      rw [ih f' (i + 2) (by omega) (by omega), ih f' (i + 1) (by omega) (by omega)]

theorem S_end {g : Nat → Int} {n i : Nat} (h : n ≤ i) : S g n i = n := by
  unfold S; cases n with
  | zero => rfl
  | succ n => simp only [strEnd]; rw [if_neg (by omega)]

theorem S_step {g : Nat → Int} {n i : Nat} (h : i < n) : S g n i = if g i = 92 then S g n (i + 2) else if g i = 34 then i + 1 else S g n (i + 1) := by
  unfold S
  rw [strEnd_fuel g n n (n + 1) i (by omega) (by omega)]
  simp only [strEnd]
  rw [if_pos h]

theorem S_esc {g : Nat → Int} {n i : Nat} (h : i < n) (c : g i = 92) : S g n i = S g n (i + 2) := by rw [S_step h, if_pos c]
theorem S_quote {g : Nat → Int} {n i : Nat} (h : i < n) (c : g i = 34) : S g n i = i + 1 := by rw [S_step h, if_neg (by omega), if_pos c]
theorem S_else {g : Nat → Int} {n i : Nat} (h : i < n) (c : g i ≠ 92) (d : g i ≠ 34) : S g n i = S g n (i + 1) := by rw [S_step h, if_neg c, if_neg d]

/-- Induction along the places from i to n. -/
theorem upTo {p : Nat → Prop} (n : Nat) (hend : ∀ i, n ≤ i → p i) (hstep : ∀ i, i < n → (∀ j, i < j → p j) → p i) : ∀ i, p i := by
  have aux : ∀ m i, n ≤ m + i → p i := by
    intro m
    induction m with
    | zero => intro i h; exact hend i (by omega)
    | succ m ih =>
      intro i h
      by_cases hi : i < n
      · exact hstep i hi fun j hj => ih j (by omega)
      · exact hend i (by omega)
  intro i
  exact aux n i (by omega)

theorem S_le (g : Nat → Int) (n : Nat) : ∀ i, S g n i ≤ n := by
  refine upTo n (fun i h => by rw [S_end h]; omega) fun i h ih => ?_
  rw [S_step h]
  split
  · exact ih _ (by omega)
  · split
    · omega
    · exact ih _ (by omega)

theorem S_gt (g : Nat → Int) (n : Nat) : ∀ i, i < n → i < S g n i := by
  refine upTo n (fun i h h' => by omega) fun i h ih _ => ?_
  rw [S_step h]
  split
  · by_cases c : i + 2 < n
    · have := ih (i + 2) (by omega) c; omega
    · rw [S_end (by omega)]; omega
  · split
    · omega
    · by_cases c : i + 1 < n
      · have := ih (i + 1) (by omega) c; omega
      · rw [S_end (by omega)]; omega

theorem S_ge (g : Nat → Int) (n i : Nat) (h : i ≤ n) : i ≤ S g n i := by
  by_cases c : i < n
  · have := S_gt g n i c; omega
  · rw [S_end (by omega)]; omega

/-- Where it ends ahead of the data's end, it ends behind a quote. -/
theorem S_last (g : Nat → Int) (n : Nat) : ∀ i, S g n i < n → g (S g n i - 1) = 34 := by
  refine upTo n (fun i h h' => by rw [S_end h] at h'; omega) fun i h ih => ?_
  rw [S_step h]
  split
  · exact ih _ (by omega)
  · split
    · intro _; simpa using by assumption
    · exact ih _ (by omega)

theorem S_shift (g : Nat → Int) (n s : Nat) (hs : s ≤ n) : ∀ i, S (fun j => g (s + j)) (n - s) i = S g n (s + i) - s := by
  refine upTo (n - s) (fun i h => by rw [S_end h, S_end (by omega)]) fun i h ih => ?_
  rw [S_step h, S_step (show s + i < n by omega)]
  split
  · rw [ih _ (by omega), show s + (i + 2) = s + i + 2 by omega]
  · split
    · omega
    · rw [ih _ (by omega), show s + (i + 1) = s + i + 1 by omega]

theorem S_cut (g : Nat → Int) (n r : Nat) (hr : r ≤ n) : ∀ i, S g n i ≤ r → S g r i = S g n i := by
  refine upTo n (fun i h h' => by rw [S_end h] at h'; rw [show r = n by omega]) fun i h ih h' => ?_
  have hg := S_gt g n i h
  rw [S_step (show i < r by omega)]
  rw [S_step h] at h' ⊢
  split
  · rename_i c; rw [if_pos c] at h'; exact ih _ (by omega) h'
  · rename_i c
    rw [if_neg c] at h'
    split
    · rfl
    · rename_i d; rw [if_neg d] at h'; exact ih _ (by omega) h'

/-! ### the end of an object or an array -/
def objEnd (g : Nat → Int) (n : Nat) : Nat → Int → Nat → Nat
  | 0, _, _ => n
  | f + 1, d, i =>
    if i < n then
      if g i = 34 then objEnd g n f d (S g n (i + 1))
      else if g i = 123 ∨ g i = 91 then objEnd g n f (d + 1) (i + 1)
      else if g i = 125 ∨ g i = 93 then (if d - 1 = 0 then i + 1 else objEnd g n f (d - 1) (i + 1))
      else objEnd g n f d (i + 1)
    else n

def O (g : Nat → Int) (n : Nat) (d : Int) (i : Nat) : Nat := objEnd g n n d i

theorem S_next (g : Nat → Int) (n i : Nat) (h : i < n) : i < S g n (i + 1) := by
  have := S_ge g n (i + 1) (by omega); omega

theorem objEnd_fuel (g : Nat → Int) (n : Nat) : ∀ f f' d i, n ≤ f + i → n ≤ f' + i → objEnd g n f d i = objEnd g n f' d i := by
  intro f
  induction f with
  | zero =>
    intro f' d i h _
    cases f' with
    | zero => rfl
    | succ f' => simp only [objEnd]; rw [if_neg (by omega)]
  | succ f ih =>
    intro f' d i h h'
    cases f' with
    | zero => simp only [objEnd]; rw [if_neg (by omega)]
    | succ f' =>
      simp only [objEnd]
      by_cases c : i < n
      · have := S_next g n i c
        rw [if_pos c, if_pos c, ih f' d (S g n (i + 1)) (by omega) (by omega), ih f' (d + 1) (i + 1) (by omega) (by omega), ih f' (d - 1) (i + 1) (by omega) (by omega), ih f' d (i + 1) (by omega) (by omega)]
      · rw [if_neg c, if_neg c]

theorem O_end {g : Nat → Int} {n i : Nat} {d : Int} (h : n ≤ i) : O g n d i = n := by
  unfold O; cases n with
  | zero => rfl
  | succ n => simp only [objEnd]; rw [if_neg (by omega)]

theorem O_step {g : Nat → Int} {n i : Nat} {d : Int} (h : i < n) : O g n d i = if g i = 34 then O g n d (S g n (i + 1))
      else if g i = 123 ∨ g i = 91 then O g n (d + 1) (i + 1)
      else if g i = 125 ∨ g i = 93 then (if d - 1 = 0 then i + 1 else O g n (d - 1) (i + 1))
      else O g n d (i + 1) := by
  unfold O
  rw [objEnd_fuel g n n (n + 1) d i (by omega) (by omega)]
  simp only [objEnd]
  rw [if_pos h]

theorem O_quote {g : Nat → Int} {n i : Nat} {d : Int} (h : i < n) (c : g i = 34) : O g n d i = O g n d (S g n (i + 1)) := by rw [O_step h, if_pos c]
theorem O_open {g : Nat → Int} {n i : Nat} {d : Int} (h : i < n) (c : g i = 123 ∨ g i = 91) : O g n d i = O g n (d + 1) (i + 1) := by rw [O_step h, if_neg (by omega), if_pos c]
theorem O_last {g : Nat → Int} {n i : Nat} {d : Int} (h : i < n) (c : g i = 125 ∨ g i = 93) (e : d - 1 = 0) : O g n d i = i + 1 := by rw [O_step h, if_neg (by omega), if_neg (by omega), if_pos c, if_pos e]
theorem O_close {g : Nat → Int} {n i : Nat} {d : Int} (h : i < n) (c : g i = 125 ∨ g i = 93) (e : d - 1 ≠ 0) : O g n d i = O g n (d - 1) (i + 1) := by rw [O_step h, if_neg (by omega), if_neg (by omega), if_pos c, if_neg e]
theorem O_else {g : Nat → Int} {n i : Nat} {d : Int} (h : i < n) (c : g i ≠ 34) (c1 : ¬ (g i = 123 ∨ g i = 91)) (c2 : ¬ (g i = 125 ∨ g i = 93)) : O g n d i = O g n d (i + 1) := by rw [O_step h, if_neg c, if_neg c1, if_neg c2]

theorem O_le (g : Nat → Int) (n : Nat) : ∀ i d, O g n d i ≤ n := by
  refine upTo n (fun i h d => by rw [O_end h]; omega) fun i h ih d => ?_
  rw [O_step h]
  split
  · exact ih _ (S_next g n i h) _
  · split
    · exact ih _ (by omega) _
    · split
      · split
        · omega
        · exact ih _ (by omega) _
      · exact ih _ (by omega) _

theorem O_ge (g : Nat → Int) (n : Nat) : ∀ i d, i ≤ n → i ≤ O g n d i := by
  refine upTo n (fun i h d h' => by rw [O_end h]; omega) fun i h ih d _ => ?_
  rw [O_step h]
  split
  · have := S_next g n i h; have := ih _ (S_next g n i h) d (S_le _ _ _); omega
  · split
    · have := ih (i + 1) (by omega) (d + 1) (by omega); omega
    · split
      · split
        · omega
        · have := ih (i + 1) (by omega) (d - 1) (by omega); omega
      · have := ih (i + 1) (by omega) d (by omega); omega

theorem O_behind (g : Nat → Int) (n : Nat) : ∀ i d, O g n d i < n → g (O g n d i - 1) = 125 ∨ g (O g n d i - 1) = 93 := by
  refine upTo n (fun i h d h' => by rw [O_end h] at h'; omega) fun i h ih d => ?_
  rw [O_step h]
  split
  · exact ih _ (S_next g n i h) _
  · split
    · exact ih _ (by omega) _
    · split
      · split
        · intro _; simpa using by assumption
        · exact ih _ (by omega) _
      · exact ih _ (by omega) _

theorem O_gt (g : Nat → Int) (n i : Nat) (d : Int) (h : i < n) : i < O g n d i := by
  rw [O_step h]
  have hs := S_next g n i h
  split
  · have := O_ge g n (S g n (i + 1)) d (S_le _ _ _); omega
  · split
    · have := O_ge g n (i + 1) (d + 1) (by omega); omega
    · split
      · split
        · omega
        · have := O_ge g n (i + 1) (d - 1) (by omega); omega
      · have := O_ge g n (i + 1) d (by omega); omega

theorem O_shift (g : Nat → Int) (n s : Nat) (hs : s ≤ n) : ∀ i d, O (fun j => g (s + j)) (n - s) d i = O g n d (s + i) - s := by
  refine upTo (n - s) (fun i h d => by rw [O_end h, O_end (by omega)]) fun i h ih d => ?_
  rw [O_step h, O_step (show s + i < n by omega)]
  have hS := S_shift g n s hs (i + 1)
  have hN := S_next g n (s + i) (by omega)
  rw [show s + (i + 1) = s + i + 1 by omega] at hS
  split
  · rw [hS, ih _ (by omega), show s + (S g n (s + i + 1) - s) = S g n (s + i + 1) by omega]
  · split
    · rw [ih _ (by omega), show s + (i + 1) = s + i + 1 by omega]
    · split
      · split
        · omega
        · rw [ih _ (by omega), show s + (i + 1) = s + i + 1 by omega]
      · rw [ih _ (by omega), show s + (i + 1) = s + i + 1 by omega]

theorem O_cut (g : Nat → Int) (n r : Nat) (hr : r ≤ n) : ∀ i d, O g n d i ≤ r → O g r d i = O g n d i := by
  refine upTo n (fun i h d h' => by rw [O_end h] at h'; rw [show r = n by omega]) fun i h ih d h' => ?_
  have hg := O_gt g n i d h
  rw [O_step (show i < r by omega)]
  rw [O_step h] at h' ⊢
  have hs := S_next g n i h
  split
  · rename_i c
    rw [if_pos c] at h'
    have h2 := O_ge g n (S g n (i + 1)) d (S_le _ _ _)
    rw [S_cut g n r hr (i + 1) (by omega)]
    exact ih _ hs _ h'
  · rename_i c
    rw [if_neg c] at h'
    split
    · rename_i c; rw [if_pos c] at h'; exact ih _ (by omega) _ h'
    · rename_i c
      rw [if_neg c] at h'
      split
      · rename_i c
        rw [if_pos c] at h'
        split
        · rfl
        · rename_i c; rw [if_neg c] at h'; exact ih _ (by omega) _ h'
      · rename_i c; rw [if_neg c] at h'; exact ih _ (by omega) _ h'

/-! ### the end of a bare scalar -/
def isDelim (b : Int) : Bool := b == 44 || b == 125 || b == 93 || b == 32 || b == 9 || b == 10 || b == 13

def scalEnd (g : Nat → Int) (n : Nat) : Nat → Nat → Nat
  | 0, i => i
  | f + 1, i => if i < n then (if isDelim (g i) = true then i else scalEnd g n f (i + 1)) else i

def C (g : Nat → Int) (n i : Nat) : Nat := scalEnd g n (n - i) i

theorem C_end {g : Nat → Int} {n i : Nat} (h : n ≤ i) : C g n i = i := by
  unfold C; rw [show n - i = 0 by omega]; rfl

theorem C_step {g : Nat → Int} {n i : Nat} (h : i < n) : C g n i = if isDelim (g i) = true then i else C g n (i + 1) := by
  unfold C
  obtain ⟨m, hm⟩ : ∃ m, n - i = m + 1 := ⟨n - i - 1, by omega⟩
  rw [hm, show n - (i + 1) = m by omega]
  simp only [scalEnd]
  rw [if_pos h]

theorem C_hit {g : Nat → Int} {n i : Nat} (h : i < n) (c : isDelim (g i) = true) : C g n i = i := by rw [C_step h, if_pos c]
theorem C_else {g : Nat → Int} {n i : Nat} (h : i < n) (c : isDelim (g i) = false) : C g n i = C g n (i + 1) := by rw [C_step h, if_neg (by simp [c])]

theorem C_le (g : Nat → Int) (n : Nat) : ∀ i, i ≤ n → C g n i ≤ n := by
  refine upTo n (fun i h h' => by rw [C_end h]; omega) fun i h ih _ => ?_
  rw [C_step h]
  split
  · omega
  · exact ih _ (by omega) (by omega)

theorem C_ge (g : Nat → Int) (n : Nat) : ∀ i, i ≤ C g n i := by
  refine upTo n (fun i h => by rw [C_end h]; omega) fun i h ih => ?_
  rw [C_step h]
  split
  · omega
  · have := ih (i + 1) (by omega); omega

theorem C_free (g : Nat → Int) (n : Nat) : ∀ i j, i ≤ j → j < C g n i → isDelim (g j) = false := by
  refine upTo n (fun i h j _ h' => by rw [C_end h] at h'; omega) fun i h ih j hj h' => ?_
  by_cases c : isDelim (g i) = true
  · rw [C_hit h c] at h'; omega
  · simp only [Bool.not_eq_true] at c
    rw [C_else h c] at h'
    by_cases e : j = i
    · rw [e]; exact c
    · exact ih (i + 1) (by omega) j (by omega) h'

theorem C_stop (g : Nat → Int) (n : Nat) : ∀ i, C g n i < n → isDelim (g (C g n i)) = true := by
  refine upTo n (fun i h h' => by rw [C_end h] at h'; omega) fun i h ih => ?_
  by_cases c : isDelim (g i) = true
  · rw [C_hit h c]; intro _; exact c
  · simp only [Bool.not_eq_true] at c
    rw [C_else h c]
    exact ih _ (by omega)

theorem C_shift (g : Nat → Int) (n s : Nat) (hs : s ≤ n) : ∀ i, C (fun j => g (s + j)) (n - s) i = C g n (s + i) - s := by
  refine upTo (n - s) (fun i h => by rw [C_end h, C_end (by omega)]; omega) fun i h ih => ?_
  rw [C_step h, C_step (show s + i < n by omega)]
  split
  · omega
  · rw [ih _ (by omega), show s + (i + 1) = s + i + 1 by omega]

theorem C_cut (g : Nat → Int) (n r : Nat) (_hr : r ≤ n) : ∀ i, C g n i = r → C g r i = r := by
  refine upTo n (fun i h h' => by rw [C_end h] at h'; rw [C_end (by omega)]; omega) fun i h ih h' => ?_
  by_cases hir : i < r
  · rw [C_step hir]
    rw [C_step h] at h'
    split
    · rename_i c; rw [if_pos c] at h'; exact h'
    · rename_i c; rw [if_neg c] at h'; exact ih _ (by omega) h'
  · have := C_ge g n i
    rw [C_end (by omega)]; omega

/-! ### skipValue -/
def V (g : Nat → Int) (n i : Nat) : Nat :=
  if i = n then i else if g i = 34 then S g n (i + 1) else if g i = 123 ∨ g i = 91 then O g n 0 i else C g n i

theorem V_le (g : Nat → Int) (n i : Nat) (h : i ≤ n) : V g n i ≤ n := by
  unfold V; split
  · omega
  · split
    · exact S_le _ _ _
    · split
      · exact O_le _ _ _ _
      · exact C_le _ _ _ h

theorem V_ge (g : Nat → Int) (n i : Nat) (h : i ≤ n) : i ≤ V g n i := by
  unfold V; split
  · omega
  · split
    · have := S_ge g n (i + 1) (by omega); omega
    · split
      · exact O_ge _ _ _ _ h
      · exact C_ge _ _ _

/-- Bytes before i do not matter. -/
theorem V_shift (g : Nat → Int) (n i : Nat) (h : i ≤ n) : V (fun j => g (i + j)) (n - i) 0 = V g n i - i := by
  unfold V
  by_cases e : i = n
  · rw [if_pos (by omega), if_pos e]; omega
  · rw [if_neg (by omega), if_neg e]
    simp only [Nat.add_zero]
    rw [S_shift g n i h, O_shift g n i h, C_shift g n i h]
    split
    · rfl
    · split
      · rfl
      · rfl

/-- Bytes behind its end do not matter. -/
theorem V_cut (g : Nat → Int) (n i : Nat) (h : i ≤ n) : V g (V g n i) i = V g n i := by
  have h1 := V_le g n i h
  have h2 := V_ge g n i h
  generalize hr : V g n i = r at *
  unfold V at hr ⊢
  by_cases e : i = n
  · rw [if_pos e] at hr; rw [if_pos hr]; exact hr
  · rw [if_neg e] at hr
    by_cases e' : i = r
    · rw [if_pos e']; exact e'
    · rw [if_neg e']
      split
      · rename_i c; rw [if_pos c] at hr
        rw [S_cut g n r h1 _ (by omega), hr]
      · rename_i c; rw [if_neg c] at hr
        split
        · rename_i c; rw [if_pos c] at hr
          rw [O_cut g n r h1 _ _ (by omega), hr]
        · rename_i c; rw [if_neg c] at hr
          exact C_cut g n r h1 _ hr

end Go.Proofs.Qxb6602337a.Skip
