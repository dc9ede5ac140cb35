/-
  THE WALKS of zzCloneBytes (8), zzBytes (7) and FnBoolAgreesWithHeadOfMajorSeven (4).
-/
import Derived.Test.Qxb6602399aZZWalks
namespace Go.Proofs.Qxb6602399a
open Go.RowKit

theorem Try.info5 : (Try.prog.info? 5).map (fun i => (i.zero, i.size, i.bytes)) = some (some (.int .u8 0), 1, 1) := by kernel_rfl

/-- What the loop of a copy into a new block keeps: 'k' elements are laid. -/
def Cloned (w wr : World) (e : TypeId) (n k : Nat) (gv : Nat → Value) : Prop :=
  ∃ xs, wr.ownsRow w.heap.size e 1 (.slice (some ⟨w.heap.size, 0, none⟩) n n) n xs ∧ (∀ j, j < k → xs[j]? = some (gv j)) ∧ Below w.heap.size w wr

theorem Cloned.old {w wr : World} {e : TypeId} {n k : Nat} {gv : Nat → Value} (h : Cloned w wr e n k gv) {a : Addr} {v : Value} (hc : w.cell? a = some v) : wr.cell? a = some v := by
  obtain ⟨xs, _, _, hb⟩ := h
  rw [hb.cell (block_lt_of_cell hc)]; exact hc

theorem Cloned.here {w wr : World} {e : TypeId} {n k : Nat} {gv : Nat → Value} (h : Cloned w wr e n k gv) (j : Nat) (hj : j < n) : (∃ u, wr.cell? ⟨w.heap.size, j, none⟩ = some u) ∧ wr.frozen? ⟨w.heap.size, j, none⟩ = false := by
  obtain ⟨xs, ho, _, _⟩ := h
  have hl : xs.length = n := by simpa using ho.1
  refine ⟨⟨xs[j]'(by omega), ?_⟩, ho.frozenAt j⟩
  rw [ho.cellAt j (by omega), List.getElem?_eq_getElem]

theorem Cloned.step {w wr : World} {e : TypeId} {n k : Nat} {gv : Nat → Value} (h : Cloned w wr e n k gv) (hk : k < n) {v : Value} (hv : v = gv k) : Cloned w (wr.setCell ⟨w.heap.size, k, none⟩ v) e n (k + 1) gv := by
  subst hv
  obtain ⟨xs, ho, hx, hb⟩ := h
  have hl : xs.length = n := by simpa using ho.1
  refine ⟨xs.set k (gv k), (ho.stored k (gv k)).1, fun j hj => ?_, hb.setCell (Nat.le_refl _) _⟩
  rw [List.getElem?_set]
  by_cases e : k = j
  · subst e; simp [hl, hk]
  · rw [if_neg e]; exact hx j (by omega)

theorem Cloned.below {w wr : World} {e : TypeId} {n k : Nat} {gv : Nat → Value} (h : Cloned w wr e n k gv) : Below w.heap.size w wr := by
  obtain ⟨_, _, _, hb⟩ := h; exact hb

theorem Cloned.data {w wr : World} {n : Nat} {g : Nat → Int} (h : Cloned w wr 5 n n (fun j => .int .u8 (g j))) (hn : n ≤ 2000000) (hr : ∀ j, j < n → 0 ≤ g j ∧ g j ≤ 255) : Data wr (some ⟨w.heap.size, 0, none⟩) n n g := by
  obtain ⟨xs, ho, hx, _⟩ := h
  refine ⟨hn, Nat.le_refl _, hr, ?_⟩
  by_cases h0 : n = 0
  · exact .inl h0
  · have hc : ∀ j, j < n → wr.cell? ⟨w.heap.size, 0 + j, none⟩ = some (.int .u8 (g j)) := fun j hj => by
      rw [Nat.zero_add, ho.cellAt j (by omega)]
      exact hx j hj
    exact .inr ⟨_, _, rfl, block_lt_of_cell (hc 0 (by omega)), hc⟩

/-- A copy is handed back. -/
def Copied (w' : World) (n : Nat) (g : Nat → Int) (e : Ending) : Prop := ∃ a c, e = .returned (.slice a n c) ∧ Data w' a n c g

set_option maxHeartbeats 1000000 in
theorem clone_any (a : Option Addr) (n c : Nat) (g : Nat → Int) (w : World) (hz : a = none → n = 0 ∧ c = 0) (h : Data w a n c g) :
    Calls Try.prog 8 #[.slice a n c] w fun e w' => Copied w' n g e ∧ Below w.heap.size w w' := by
  have hd := h
  obtain ⟨hn, hnc, hr, h⟩ := h
  cases a with
  | none =>
    obtain ⟨rfl, rfl⟩ := hz rfl
    have he := fun wx => Lib.run_eql_slice_nil (P := Try.prog) wx 22 5 none 0 0 0 0 Try.underlying22
    go_enter Try.func8, Try.ntmps8
    go_wp2
    go_ret
    exact ⟨⟨_, _, rfl, hd⟩, Below.refl _ _⟩
  | some x =>
    clear hz
    have HR : Hid (∀ j, j < n → 0 ≤ g j ∧ g j ≤ 255) := hr
    clear hr hd
    have he := fun wx => Lib.run_eql_slice_nil (P := Try.prog) wx 22 5 (some x) n c 0 0 Try.underlying22
    obtain ⟨i0, hi, hz0, hz1, hz2⟩ := info_parts Try.info5
    go_enter Try.func8, Try.ntmps8
    go_wp2_with (at_make; refine wpList_make_full _ rfl _ _ 22 rfl w.heap.size 5 i0 (.int .u8 0) 1 Try.underlying22 hi hz0 hz1 _ _ _ _ n rfl rfl rfl rfl (by rw [hz2]; omega) (by unfold maxLen; omega) (Nat.le_refl _) ?_)
    intro w1 hown hgrow
    have h0 : Cloned w w1 5 n 0 (fun j => .int .u8 (g j)) := ⟨_, hown, fun j hj => by omega, (Below.refl _ w).grown hgrow (Nat.le_refl _) (fun k hk => by cases hk)⟩
    clear hown hgrow he
    go_wp2_with fail
    go_loopw [4] (fun t wr => ∃ k : Nat, k ≤ n ∧ t = .int .i64 k ∧ Cloned w wr 5 n k (fun j => .int .u8 (g j))) (fun t _ => n - (intOf t).toNat)
    case atStart => exact ⟨0, by omega, rfl, h0⟩
    case round =>
      obtain ⟨k, hk, rfl, hr⟩ := hrel
      by_cases hlt : k < n
      · rcases h with h | ⟨b, o, hx, hbl, h⟩
        · omega
        · obtain rfl := Option.some.inj hx
          clear hx
          have q1 := hr.old (h k hlt)
          obtain ⟨⟨u, q2⟩, q3⟩ := hr.here k hlt
          have H4 : Hid (Cloned w (wr.setCell ⟨w.heap.size, k, none⟩ (.int .u8 (g k))) 5 n (k + 1) (fun j => .int .u8 (g j))) := hr.step hlt rfl
          go_wp2_with fail
          go_roundw
          case rel => exact ⟨k + 1, by omega, by go_num, H4.out⟩
          case measure => simp [intOf]; omega
      · have hkn : k = n := by omega
        subst hkn
        go_wp2_with fail
        go_ret
        exact ⟨⟨_, _, rfl, hr.data (by omega) HR.out⟩, hr.below⟩

theorem bytes7_no (a : Option Addr) (n cap : Nat) (i : Int) (f : Bool) (w : World) (h : 1048576 < n) :
    Calls Try.prog 7 #[.slice a n cap, .int .i64 i, .bool f] w fun e w' => e = .returned (.bool false) ∧ w' = w := by
  go_enter Try.func7, Try.ntmps7
  go_wp2
  go_ret
  exact ⟨rfl, rfl⟩

theorem bytes7_yes (a : Option Addr) (n cap : Nat) (i : Int) (f : Bool) (w : World) (h : n ≤ 1048576) :
    Calls Try.prog 7 #[.slice a n cap, .int .i64 i, .bool f] w fun e w' => e = .returned (.bool true) ∧ w' = w := by
  go_enter Try.func7, Try.ntmps7
  go_wp2
  go_ret
  exact ⟨rfl, rfl⟩

theorem sz_pos (y : Int) : 1 ≤ sz y := by
  unfold sz
  split
  · omega
  · split
    · omega
    · split <;> omega

/-- THE PLAIN LAW: how the two answers stand to each other. -/
theorem agree (g : Nat → Int) (len : Nat) (off : Int) (failed : Bool) (ho : 0 ≤ off) (hr : ∀ j, j < len → 0 ≤ g j ∧ g j ≤ 255) :
    ((headOut g len off failed 224).2.2 = true ∧ (boolOut g len off failed).2.2 = true ∧ (boolOut g len off failed).1 = false) ∨
    (off < len ∧ (headOut g len off failed 224).2.2 = false ∧ (boolOut g len off failed).2.2 = true ∧ (boolOut g len off failed).1 = false ∧ ((headOut g len off failed 224).1 == 20) = false ∧ ((headOut g len off failed 224).1 == 21) = false) ∨
    (off < len ∧ (headOut g len off failed 224).2.2 = false ∧ (boolOut g len off failed).2.2 = true ∧ (boolOut g len off failed).1 = false ∧ ((headOut g len off failed 224).2.1 == off + 1) = false) ∨
    (off < len ∧ (headOut g len off failed 224).2.2 = false ∧ (boolOut g len off failed).2.2 = false ∧ (boolOut g len off failed).1 = false ∧ (headOut g len off failed 224).1 = 20 ∧ (headOut g len off failed 224).2.1 = off + 1 ∧ (boolOut g len off failed).2.1 = off + 1) ∨
    (off < len ∧ (headOut g len off failed 224).2.2 = false ∧ (boolOut g len off failed).2.2 = false ∧ (boolOut g len off failed).1 = true ∧ (headOut g len off failed 224).1 = 21 ∧ (headOut g len off failed 224).2.1 = off + 1 ∧ (boolOut g len off failed).2.1 = off + 1) := by
  unfold headOut boolOut
  by_cases h0 : failed = true ∨ (len : Int) ≤ off
  · rw [if_pos h0, if_pos h0]; exact .inl ⟨rfl, rfl, rfl⟩
  · rw [if_neg h0, if_neg h0]
    have hlt : off < len := by
      by_cases h : off < len
      · exact h
      · exact absurd (.inr (by omega)) h0
    obtain ⟨p1, p2, p3, p4⟩ := byte_parts (g off.toNat) (hr _ (by omega)).1 (hr _ (by omega)).2
    have hr' := hr off.toNat (by omega)
    generalize g off.toNat = x at *
    by_cases h1 : bits .and .u8 x 224 ≠ 224
    · rw [if_pos h1]
      have e1 : (x == 245) = false := by rw [beq_eq_false_iff_ne]; omega
      have e2 : (x == 244) = false := by rw [beq_eq_false_iff_ne]; omega
      exact .inl ⟨rfl, by simp [e1, e2], e1⟩
    · rw [if_neg h1]
      by_cases h2 : bits .and .u8 x 31 < 24
      · rw [if_pos h2]
        by_cases c1 : x = 245
        · subst c1
          exact .inr (.inr (.inr (.inr ⟨hlt, rfl, rfl, rfl, by simp only; omega, rfl, rfl⟩)))
        · by_cases c2 : x = 244
          · subst c2
            exact .inr (.inr (.inr (.inl ⟨hlt, rfl, rfl, rfl, by simp only; omega, rfl, rfl⟩)))
          · have e1 : (x == 245) = false := by rw [beq_eq_false_iff_ne]; exact c1
            have e2 : (x == 244) = false := by rw [beq_eq_false_iff_ne]; exact c2
            exact .inr (.inl ⟨hlt, rfl, by simp [e1, e2], e1, by rw [beq_eq_false_iff_ne]; simp only; omega, by rw [beq_eq_false_iff_ne]; simp only; omega⟩)
      · rw [if_neg h2]
        have e1 : (x == 245) = false := by rw [beq_eq_false_iff_ne]; omega
        have e2 : (x == 244) = false := by rw [beq_eq_false_iff_ne]; omega
        by_cases h3 : 27 < bits .and .u8 x 31
        · rw [if_pos h3]; exact .inl ⟨rfl, by simp [e1, e2], e1⟩
        · rw [if_neg h3]
          by_cases h4 : len < off.toNat + 1 + sz (bits .and .u8 x 31)
          · rw [if_pos h4]; exact .inl ⟨rfl, by simp [e1, e2], e1⟩
          · rw [if_neg h4]
            have hs := sz_pos (bits .and .u8 x 31)
            exact .inr (.inr (.inl ⟨hlt, rfl, by simp [e1, e2], e1, by rw [beq_eq_false_iff_ne]; simp only; omega⟩))

theorem law_long (a : Option Addr) (n cap : Nat) (i : Int) (f : Bool) (w : World) (h : 1048576 < n) :
    Calls Try.prog 4 #[.slice a n cap, .int .i64 i, .bool f] w fun e w' => e = .returned (.bool true) ∧ Below w.heap.size w w' := by
  go_enter Try.func4, Try.ntmps4
  go_wp2_with (go_at_call 7; refine (bytes7_no a n cap i f _ h).mono ?_; rintro e w' ⟨rfl, hw⟩; subst hw)
  go_ret
  exact ⟨rfl, Below.refl _ _⟩

theorem law_neg (a : Option Addr) (n cap : Nat) (i : Int) (f : Bool) (w : World) (h : n ≤ 1048576) (hi : i < 0) :
    Calls Try.prog 4 #[.slice a n cap, .int .i64 i, .bool f] w fun e w' => e = .returned (.bool true) ∧ Below w.heap.size w w' := by
  go_enter Try.func4, Try.ntmps4
  go_wp2_with (go_at_call 7; refine (bytes7_yes a n cap i f _ h).mono ?_; rintro e w' ⟨rfl, hw⟩; subst hw)
  go_ret
  exact ⟨rfl, Below.refl _ _⟩

set_option maxHeartbeats 2000000 in
theorem law_in (a : Option Addr) (n cap : Nat) (g : Nat → Int) (i : Int) (f : Bool) (w : World) (h : n ≤ 1048576) (hi : 0 ≤ i) (hi' : i ≤ 9223372036854775807) (hz : a = none → n = 0 ∧ cap = 0) (hd : Data w a n cap g) :
    Calls Try.prog 4 #[.slice a n cap, .int .i64 i, .bool f] w fun e w' => e = .returned (.bool true) ∧ Below w.heap.size w w' := by
  have hag := agree g n i f hi hd.2.2.1
  have HAG : Hid _ := hag
  clear hag
  go_enter Try.func4, Try.ntmps4
  go_wp2_with (go_at_call 7; refine (bytes7_yes a n cap i f _ h).mono ?_; rintro e w' ⟨rfl, hw⟩; subst hw)
  refine (clone_any a n cap g _ hz hd).mono ?_
  rintro e w1 ⟨⟨a', c', rfl, hd1⟩, hb1⟩
  go_wp2_with fail
  refine (zzBool_any w1 a' n c' g i f hd1 hi hi').mono ?_
  rintro e w2 ⟨rfl, hb2⟩
  have hd2 := hd1.kept hb2
  have hB2 := hb1.trans (hb2.mono hb1.size)
  clear hd1 hb1 hb2 hd hz
  have hag := HAG.out
  clear HAG
  have hH := zzHead_any w2 a' n c' g i f 224 hd2 hi hi'
  have HH : Hid _ := hH
  clear hH hd2
  generalize headOut g n i f 224 = rh at *
  generalize boolOut g n i f = rb at *
  obtain ⟨nn, ho, hf⟩ := rh
  obtain ⟨b, bo, bf⟩ := rb
  simp only at hag HH ⊢
  rcases hag with ⟨rfl, rfl, rfl⟩ | ⟨hlt, rfl, rfl, rfl, e1, e2⟩ | ⟨hlt, rfl, rfl, rfl, e1⟩ | ⟨hlt, rfl, rfl, rfl, rfl, rfl, rfl⟩ | ⟨hlt, rfl, rfl, rfl, rfl, rfl, rfl⟩
  all_goals
    go_wp2_with fail
    refine Calls.mono HH.out ?_
    rintro e w3 ⟨rfl, hb3⟩
    have hB3 := hB2.trans (hb3.mono hB2.size)
    clear hb3 hB2 HH
    go_wp2_with fail
    all_goals
      go_ret
      exact ⟨rfl, hB3⟩

end Go.Proofs.Qxb6602399a
