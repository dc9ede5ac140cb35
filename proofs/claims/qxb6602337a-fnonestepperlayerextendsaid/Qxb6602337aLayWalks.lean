/-
  THE WALKS of oneStepPerLayer (22), ZZOneStepPerLayer (19), lawStringsBytes (16), lawCloneStrings (17), lawCloneInt64s (18), zzBytes_FnOneStepPerLayerExtend (20).
-/
import Derived.Test.Qxb6602337aRows
import Derived.WalkKit
import Derived.Outline
import Derived.ProofKit
import Derived.Below
import Derived.Lib.SliceRun
import Derived.Test.Qxb6602337aLayers
namespace Go.Proofs.Qxb6602337a.Lay
open Go.RowKit

/-- A slice of n elements, whether or not it has any. -/
def Row (w : World) (a : Option Addr) (n : Nat) (gv : Nat → Value) : Prop := n = 0 ∨ ∃ b off, a = some ⟨b, off, none⟩ ∧ ∀ j, j < n → w.cell? ⟨b, off + j, none⟩ = some (gv j)

theorem ret_bool {a b : Bool} (h : a = b) : Ending.returned (.bool a) = .returned (.bool b) := by rw [h]

/-- A small number is handed back. -/
def SmallInt (e : Ending) : Prop := ∃ m : Int, e = .returned (.int .i64 m) ∧ 0 ≤ m ∧ m ≤ 4000000
/-- A bool is handed back; where it is true, the lengths are small. -/
def Asked (n m s : Nat) (e : Ending) : Prop := ∃ r : Bool, e = .returned (.bool r) ∧ (r = true → n ≤ 1048576 ∧ m ≤ 1048576 ∧ s ≤ 1048576)
/-- A slice with the same elements is handed back. -/
def Copied (w' : World) (n : Nat) (gv : Nat → Value) (e : Ending) : Prop := ∃ a' c', e = .returned (.slice a' n c') ∧ Row w' a' n gv

abbrev Strs (D : Nat → ByteArray) : Nat → Value := fun j => .string (D j)
abbrev Ints (T : Nat → Int) : Nat → Value := fun j => .int .i64 (T j)

set_option maxHeartbeats 1000000 in
theorem oneStep_eq (a1 a2 : Option Addr) (n c1 c2 : Nat) (D : Nat → ByteArray) (T : Nat → Int) (size : Int) (w : World) (hn : n ≤ 2000000) (h1 : Row w a1 n (Strs D)) (h2 : Row w a2 n (Ints T)) :
    Calls Try.prog 22 #[.slice a1 n c1, .slice a2 n c2, .int .i64 size] w fun e w' => e = .returned (.bool (run D T size n 0 0)) ∧ w' = w := by
  go_enter Try.func22, Try.ntmps22
  go_wp2_with fail
  go_loop [7, 17] (fun t i => ∃ (k : Nat) (told : Int), k ≤ n ∧ i = .int .i64 k ∧ t = .int .i64 told ∧ run D T size (n - k) k told = run D T size n 0 0) (fun _ i => n - (intOf i).toNat)
  case atStart => exact ⟨0, 0, by omega, rfl, rfl, rfl⟩
  case round =>
    obtain ⟨k, told, hk, rfl, rfl, hR⟩ := hrel
    have HR : Hid (run D T size (n - k) k told = run D T size n 0 0) := hR
    clear hR
    by_cases hlt : k < n
    · rcases h1 with h1 | ⟨b1, o1, rfl, h1⟩
      · omega
      · rcases h2 with h2 | ⟨b2, o2, rfl, h2⟩
        · omega
        · have q1 := h1 k hlt
          have q2 := h2 k hlt
          simp only [Strs, Ints] at q1 q2
          clear h1 h2
          by_cases hT : 0 < T k
          · by_cases hE : isE (D k) = true
            · have hE' := isE_yes hE
              have HR2 : Hid (run D T size (n - k) k told = false) := run_stop hlt hT hE
              clear hE
              go_wp2_with fail
              go_ret
              exact ⟨ret_bool (by rw [← HR.out, HR2.out]), rfl⟩
            · have hE' := isE_no (by simpa using hE)
              have HR2 : Hid (run D T size (n - k) k told = run D T size (n - (k + 1)) (k + 1) (wrap64 (told + T k))) := run_on hlt (by simp [hE])
              clear hE
              go_wp2_with fail
              go_round
              case rel => exact ⟨k + 1, _, by omega, by go_num, rfl, by rw [← HR2.out]; exact HR.out⟩
              case measure => simp [intOf]; omega
          · have HR2 : Hid (run D T size (n - k) k told = run D T size (n - (k + 1)) (k + 1) (wrap64 (told + T k))) := run_on hlt (by simp [hT])
            have hT' : decide (0 < T k) = false := by simpa using hT
            go_wp2_with fail
            go_round
            case rel => exact ⟨k + 1, _, by omega, by go_num, rfl, by rw [← HR2.out]; exact HR.out⟩
            case measure => simp [intOf]; omega
    · go_wp2_with fail
      go_ret
      exact ⟨ret_bool (by rw [← HR.out, run_end (by omega)]), rfl⟩

theorem oneStep_ne (a1 a2 : Option Addr) (n m c1 c2 : Nat) (size : Int) (w : World) (h : m ≠ n) :
    Calls Try.prog 22 #[.slice a1 n c1, .slice a2 m c2, .int .i64 size] w fun e w' => e = .returned (.bool false) ∧ w' = w := by
  have h' : ((m : Int) == (n : Int)) = false := by simp; omega
  go_enter Try.func22, Try.ntmps22
  go_wp2_with fail
  go_ret
  exact ⟨rfl, rfl⟩

theorem oneStep_any (a1 a2 : Option Addr) (n m c1 c2 : Nat) (D : Nat → ByteArray) (T : Nat → Int) (size : Int) (w : World) (hn : n ≤ 2000000) (h1 : Row w a1 n (Strs D)) (h2 : Row w a2 m (Ints T)) :
    Calls Try.prog 22 #[.slice a1 n c1, .slice a2 m c2, .int .i64 size] w fun e w' => e = .returned (.bool (one D T n m size)) ∧ w' = w := by
  unfold one
  by_cases e : m = n
  · subst e; rw [if_pos rfl]; exact oneStep_eq a1 a2 m c1 c2 D T size w hn h1 h2
  · rw [if_neg e]; exact oneStep_ne a1 a2 n m c1 c2 size w e

theorem zzOneStep_any (a1 a2 : Option Addr) (n m c1 c2 : Nat) (D : Nat → ByteArray) (T : Nat → Int) (size : Int) (w : World) (hn : n ≤ 2000000) (h1 : Row w a1 n (Strs D)) (h2 : Row w a2 m (Ints T)) :
    Calls Try.prog 19 #[.slice a1 n c1, .slice a2 m c2, .int .i64 size] w fun e w' => e = .returned (.bool (one D T n m size)) ∧ w' = w := by
  go_enter Try.func19, Try.ntmps19
  go_wp2_with (go_at_call 22; refine (oneStep_any a1 a2 n m c1 c2 D T size _ hn h1 h2).mono ?_; rintro e w' ⟨rfl, rfl⟩)
  go_ret
  exact ⟨rfl, rfl⟩

/-! ### lawStringsBytes: only that its answer is small -/
set_option maxHeartbeats 1000000 in
theorem strBytes_any (a : Option Addr) (n c : Nat) (D : Nat → ByteArray) (w : World) (hn : n ≤ 1048576) (h : Row w a n (Strs D)) :
    Calls Try.prog 16 #[.slice a n c] w fun e w' => SmallInt e ∧ w' = w := by
  go_enter Try.func16, Try.ntmps16
  go_wp2_with fail
  go_loop [3, 4] (fun t i => ∃ (k : Nat) (m : Int), k ≤ n ∧ i = .int .i64 k ∧ t = .int .i64 m ∧ 0 ≤ m ∧ m ≤ 1048576) (fun _ i => n - (intOf i).toNat)
  case atStart => exact ⟨0, 0, by omega, rfl, rfl, by omega, by omega⟩
  case round =>
    obtain ⟨k, m, hk, rfl, rfl, hm1, hm2⟩ := hrel
    by_cases hlt : k < n
    · rcases h with h | ⟨b, o, rfl, h⟩
      · omega
      · have q := h k hlt
        simp only [Strs] at q
        clear h
        generalize D k = s at q
        by_cases hs : 1048576 < s.size
        · go_wp2_with fail
          go_ret
          exact ⟨⟨_, rfl, by omega, by omega⟩, rfl⟩
        · by_cases hs2 : 1048576 < m + (16 + (s.size : Int))
          · go_wp2_with fail
            go_ret
            exact ⟨⟨_, rfl, by omega, by omega⟩, rfl⟩
          · go_wp2_with fail
            go_round
            case rel => exact ⟨k + 1, _, by omega, by go_num, rfl, by omega, by omega⟩
            case measure => simp [intOf]; omega
    · go_wp2_with fail
      go_ret
      exact ⟨⟨_, rfl, by omega, by omega⟩, rfl⟩

/-! ### zzBytes: where it says yes, the lengths are small -/
set_option maxHeartbeats 1000000 in
theorem zzBytes_any (a1 a2 : Option Addr) (n m c1 c2 : Nat) (D : Nat → ByteArray) (size : Int) (id : ByteArray) (step : Int) (w : World) (hid : id.size ≤ maxLen) (hm : m ≤ maxLen) (h : Row w a1 n (Strs D)) :
    Calls Try.prog 20 #[.slice a1 n c1, .slice a2 m c2, .int .i64 size, .string id, .int .i64 step] w fun e w' => Asked n m id.size e ∧ w' = w := by
  unfold maxLen at hid hm
  by_cases hn : 1048576 < n
  · go_enter Try.func20, Try.ntmps20
    go_wp2_with fail
    go_ret
    exact ⟨⟨_, rfl, by simp⟩, rfl⟩
  · go_enter Try.func20, Try.ntmps20
    go_wp2_with fail
    go_loop [11, 12] (fun t i => ∃ (k : Nat) (z : Int), k ≤ n ∧ i = .int .i64 k ∧ t = .int .i64 z ∧ 0 ≤ z ∧ z ≤ 1048576) (fun _ i => n - (intOf i).toNat)
    case atStart => exact ⟨0, n, by omega, rfl, rfl, by omega, by omega⟩
    case round =>
      obtain ⟨k, z, hk, rfl, rfl, hz1, hz2⟩ := hrel
      by_cases hlt : k < n
      · rcases h with h | ⟨b, o, rfl, h⟩
        · omega
        · have q := h k hlt
          simp only [Strs] at q
          clear h
          generalize D k = s at q
          by_cases hs : 1048576 < s.size
          · go_wp2_with fail
            go_ret
            exact ⟨⟨_, rfl, by simp⟩, rfl⟩
          · by_cases hs2 : 1048576 < z + (s.size : Int)
            · go_wp2_with fail
              go_ret
              exact ⟨⟨_, rfl, by simp⟩, rfl⟩
            · go_wp2_with fail
              go_round
              case rel => exact ⟨k + 1, _, by omega, by go_num, rfl, by omega, by omega⟩
              case measure => simp [intOf]; omega
      · by_cases h1 : 1048576 < m
        · go_wp2_with fail
          go_ret
          exact ⟨⟨_, rfl, by simp⟩, rfl⟩
        · by_cases h2 : 1048576 < z + (m : Int)
          · go_wp2_with fail
            go_ret
            exact ⟨⟨_, rfl, by simp⟩, rfl⟩
          · by_cases h3 : 1048576 < id.size
            · go_wp2_with fail
              go_ret
              exact ⟨⟨_, rfl, by simp⟩, rfl⟩
            · by_cases h4 : 1048576 < z + (m : Int) + id.size
              · go_wp2_with fail
                go_ret
                exact ⟨⟨_, rfl, by simp⟩, rfl⟩
              · go_wp2_with fail
                go_ret
                exact ⟨⟨_, rfl, fun _ => by omega⟩, rfl⟩

/-! ### the clones -/
theorem Try.info9 : (Try.prog.info? 9).map (fun i => (i.zero, i.size, i.bytes)) = some (some (.string ByteArray.empty), 1, 16) := by kernel_rfl
theorem Try.info2 : (Try.prog.info? 2).map (fun i => (i.zero, i.size, i.bytes)) = some (some (.int .i64 0), 1, 8) := by kernel_rfl

/-- What the loop of a copy into a new block keeps: 'k' elements are laid. -/
def Cloned (w wr : World) (e : TypeId) (n k : Nat) (gv : Nat → Value) : Prop :=
  ∃ xs, wr.ownsRow w.heap.size e 1 (.slice (some ⟨w.heap.size, 0, none⟩) n n) n xs ∧ (∀ j, j < k → xs[j]? = some (gv j)) ∧ Below w.heap.size w wr

theorem Cloned.old {w wr : World} {e : TypeId} {n k : Nat} {gv : Nat → Value} (h : Cloned w wr e n k gv) {a : Addr} {v : Value} (hc : w.cell? a = some v) : wr.cell? a = some v := by
  obtain ⟨xs, _, _, hb⟩ := h
  rw [hb.cell (block_lt_of_cell hc)]; exact hc

theorem Cloned.here {w wr : World} {e : TypeId} {n k : Nat} {gv : Nat → Value} (h : Cloned w wr e n k gv) (j : Nat) (hj : j < n) : (∃ u, wr.cell? ⟨w.heap.size, j, none⟩ = some u) ∧ wr.frozen? ⟨w.heap.size, j, none⟩ = false := by
  obtain ⟨xs, ho, _, _⟩ := h
  have hl : xs.length = n := by simpa using ho.1
  refine ⟨⟨xs[j]'(by omega), ?_⟩, ho.frozenAt j⟩
  rw [ho.cellAt j (by omega), List.getElem?_eq_getElem]

theorem Cloned.step {w wr : World} {e : TypeId} {n k : Nat} {gv : Nat → Value} (h : Cloned w wr e n k gv) (hk : k < n) {v : Value} (hv : v = gv k) : Cloned w (wr.setCell ⟨w.heap.size, k, none⟩ v) e n (k + 1) gv := by
  subst hv
  obtain ⟨xs, ho, hx, hb⟩ := h
  have hl : xs.length = n := by simpa using ho.1
  refine ⟨xs.set k (gv k), (ho.stored k (gv k)).1, fun j hj => ?_, hb.setCell (Nat.le_refl _) _⟩
  rw [List.getElem?_set]
  by_cases e : k = j
  · subst e; simp [hl, hk]
  · rw [if_neg e]; exact hx j (by omega)

theorem Cloned.row {w wr : World} {e : TypeId} {n : Nat} {gv : Nat → Value} (h : Cloned w wr e n n gv) : Row wr (some ⟨w.heap.size, 0, none⟩) n gv := by
  obtain ⟨xs, ho, hx, _⟩ := h
  refine .inr ⟨_, _, rfl, fun j hj => ?_⟩
  rw [Nat.zero_add, ho.cellAt j (by omega)]
  exact hx j hj

theorem Cloned.below {w wr : World} {e : TypeId} {n k : Nat} {gv : Nat → Value} (h : Cloned w wr e n k gv) : Below w.heap.size w wr := by
  obtain ⟨_, _, _, hb⟩ := h; exact hb

theorem Row.kept {w wr : World} {a : Option Addr} {n : Nat} {gv : Nat → Value} (h : Row w a n gv) (hb : Below w.heap.size w wr) : Row wr a n gv := by
  rcases h with h | ⟨b, o, rfl, h⟩
  · exact .inl h
  · refine .inr ⟨b, o, rfl, fun j hj => ?_⟩
    have := h j hj
    rw [hb.cell (block_lt_of_cell this)]; exact this

set_option maxHeartbeats 1000000 in
theorem cloneStrings_any (a : Option Addr) (n c : Nat) (D : Nat → ByteArray) (w : World) (hn : n ≤ 1048576) (hz : a = none → n = 0 ∧ c = 0) (h : Row w a n (Strs D)) :
    Calls Try.prog 17 #[.slice a n c] w fun e w' => Copied w' n (Strs D) e ∧ Below w.heap.size w w' := by
  cases a with
  | none =>
    obtain ⟨rfl, rfl⟩ := hz rfl
    have he := fun wx => Lib.run_eql_slice_nil (P := Try.prog) wx 27 9 none 0 0 0 0 Try.underlying27
    go_enter Try.func17, Try.ntmps17
    go_wp2
    go_ret
    exact ⟨⟨_, _, rfl, .inl rfl⟩, Below.refl _ _⟩
  | some x =>
    clear hz
    have he := fun wx => Lib.run_eql_slice_nil (P := Try.prog) wx 27 9 (some x) n c 0 0 Try.underlying27
    obtain ⟨i0, hi, hz0, hz1, hz2⟩ := info_parts Try.info9
    go_enter Try.func17, Try.ntmps17
    go_wp2_with (at_make; refine wpList_make_full _ rfl _ _ 27 rfl w.heap.size 9 i0 (.string ByteArray.empty) 1 Try.underlying27 hi hz0 hz1 _ _ _ _ n rfl rfl rfl rfl (by rw [hz2]; omega) (by unfold maxLen; omega) (Nat.le_refl _) ?_)
    intro w1 hown hgrow
    have h0 : Cloned w w1 9 n 0 (Strs D) := ⟨_, hown, fun j hj => by omega, (Below.refl _ w).grown hgrow (Nat.le_refl _) (fun k hk => by cases hk)⟩
    clear hown hgrow he
    go_wp2_with fail
    go_loopw [4] (fun t wr => ∃ k : Nat, k ≤ n ∧ t = .int .i64 k ∧ Cloned w wr 9 n k (Strs D)) (fun t _ => n - (intOf t).toNat)
    case atStart => exact ⟨0, by omega, rfl, h0⟩
    case round =>
      obtain ⟨k, hk, rfl, hr⟩ := hrel
      by_cases hlt : k < n
      · rcases h with h | ⟨b, o, hx, h⟩
        · omega
        · obtain rfl := Option.some.inj hx
          clear hx
          have q1 := hr.old (h k hlt)
          simp only [Strs] at q1
          obtain ⟨⟨u, q2⟩, q3⟩ := hr.here k hlt
          have H4 : Hid (Cloned w (wr.setCell ⟨w.heap.size, k, none⟩ (.string (D k))) 9 n (k + 1) (Strs D)) := hr.step hlt rfl
          go_wp2_with fail
          go_roundw
          case rel => exact ⟨k + 1, by omega, by go_num, H4.out⟩
          case measure => simp [intOf]; omega
      · have hkn : k = n := by omega
        subst hkn
        go_wp2_with fail
        go_ret
        exact ⟨⟨_, _, rfl, hr.row⟩, hr.below⟩

set_option maxHeartbeats 1000000 in
theorem cloneInts_any (a : Option Addr) (n c : Nat) (T : Nat → Int) (w : World) (hn : n ≤ 1048576) (hz : a = none → n = 0 ∧ c = 0) (h : Row w a n (Ints T)) :
    Calls Try.prog 18 #[.slice a n c] w fun e w' => Copied w' n (Ints T) e ∧ Below w.heap.size w w' := by
  cases a with
  | none =>
    obtain ⟨rfl, rfl⟩ := hz rfl
    have he := fun wx => Lib.run_eql_slice_nil (P := Try.prog) wx 28 2 none 0 0 0 0 Try.underlying28
    go_enter Try.func18, Try.ntmps18
    go_wp2
    go_ret
    exact ⟨⟨_, _, rfl, .inl rfl⟩, Below.refl _ _⟩
  | some x =>
    clear hz
    have he := fun wx => Lib.run_eql_slice_nil (P := Try.prog) wx 28 2 (some x) n c 0 0 Try.underlying28
    obtain ⟨i0, hi, hz0, hz1, hz2⟩ := info_parts Try.info2
    go_enter Try.func18, Try.ntmps18
    go_wp2_with (at_make; refine wpList_make_full _ rfl _ _ 28 rfl w.heap.size 2 i0 (.int .i64 0) 1 Try.underlying28 hi hz0 hz1 _ _ _ _ n rfl rfl rfl rfl (by rw [hz2]; omega) (by unfold maxLen; omega) (Nat.le_refl _) ?_)
    intro w1 hown hgrow
    have h0 : Cloned w w1 2 n 0 (Ints T) := ⟨_, hown, fun j hj => by omega, (Below.refl _ w).grown hgrow (Nat.le_refl _) (fun k hk => by cases hk)⟩
    clear hown hgrow he
    go_wp2_with fail
    go_loopw [4] (fun t wr => ∃ k : Nat, k ≤ n ∧ t = .int .i64 k ∧ Cloned w wr 2 n k (Ints T)) (fun t _ => n - (intOf t).toNat)
    case atStart => exact ⟨0, by omega, rfl, h0⟩
    case round =>
      obtain ⟨k, hk, rfl, hr⟩ := hrel
      by_cases hlt : k < n
      · rcases h with h | ⟨b, o, hx, h⟩
        · omega
        · obtain rfl := Option.some.inj hx
          clear hx
          have q1 := hr.old (h k hlt)
          simp only [Ints] at q1
          obtain ⟨⟨u, q2⟩, q3⟩ := hr.here k hlt
          have H4 : Hid (Cloned w (wr.setCell ⟨w.heap.size, k, none⟩ (.int .i64 (T k))) 2 n (k + 1) (Ints T)) := hr.step hlt rfl
          go_wp2_with fail
          go_roundw
          case rel => exact ⟨k + 1, by omega, by go_num, H4.out⟩
          case measure => simp [intOf]; omega
      · have hkn : k = n := by omega
        subst hkn
        go_wp2_with fail
        go_ret
        exact ⟨⟨_, _, rfl, hr.row⟩, hr.below⟩

end Go.Proofs.Qxb6602337a.Lay
