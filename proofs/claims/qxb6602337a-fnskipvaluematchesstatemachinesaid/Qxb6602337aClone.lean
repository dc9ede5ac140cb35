/-
  THE WALK of lawCloneBytes (9).
-/
import Derived.Test.Qxb6602337aSkipWalks
import Derived.Lib.SliceRun
namespace Go.Proofs.Qxb6602337a
open Go.RowKit

theorem Try.info5 : (Try.prog.info? 5).map (fun i => (i.zero, i.size, i.bytes)) = some (some (.int .u8 0), 1, 1) := by kernel_rfl

/-- What the loop of a clone keeps: 'k' elements are laid. -/
def Cloned (w wr : World) (e : TypeId) (n k : Nat) (gv : Nat → Value) : Prop :=
  ∃ xs, wr.ownsRow w.heap.size e 1 (.slice (some ⟨w.heap.size, 0, none⟩) n n) n xs ∧ (∀ j, j < k → xs[j]? = some (gv j)) ∧ Below w.heap.size w wr

theorem Cloned.old {w wr : World} {e : TypeId} {n k : Nat} {gv : Nat → Value} (h : Cloned w wr e n k gv) {a : Addr} {v : Value} (hc : w.cell? a = some v) : wr.cell? a = some v := by
  obtain ⟨xs, _, _, hb⟩ := h
  rw [hb.cell (block_lt_of_cell hc)]; exact hc

theorem Cloned.here {w wr : World} {e : TypeId} {n k : Nat} {gv : Nat → Value} (h : Cloned w wr e n k gv) (j : Nat) (hj : j < n) : (∃ u, wr.cell? ⟨w.heap.size, j, none⟩ = some u) ∧ wr.frozen? ⟨w.heap.size, j, none⟩ = false := by
  obtain ⟨xs, ho, _, _⟩ := h
  have hl : xs.length = n := by simpa using ho.1
  refine ⟨⟨xs[j]'(by omega), ?_⟩, ho.frozenAt j⟩
  rw [ho.cellAt j (by omega), List.getElem?_eq_getElem]

theorem Cloned.step {w wr : World} {e : TypeId} {n k : Nat} {gv : Nat → Value} (h : Cloned w wr e n k gv) (hk : k < n) : Cloned w (wr.setCell ⟨w.heap.size, k, none⟩ (gv k)) e n (k + 1) gv := by
  obtain ⟨xs, ho, hx, hb⟩ := h
  have hl : xs.length = n := by simpa using ho.1
  refine ⟨xs.set k (gv k), (ho.stored k (gv k)).1, fun j hj => ?_, hb.setCell (Nat.le_refl _) _⟩
  rw [List.getElem?_set]
  by_cases e : k = j
  · subst e; simp [hl, hk]
  · rw [if_neg e]; exact hx j (by omega)

theorem Cloned.cells {w wr : World} {e : TypeId} {n : Nat} {gv : Nat → Value} (h : Cloned w wr e n n gv) : ∀ j, j < n → wr.cell? ⟨w.heap.size, 0 + j, none⟩ = some (gv j) := by
  obtain ⟨xs, ho, hx, _⟩ := h
  intro j hj
  rw [Nat.zero_add, ho.cellAt j (by omega)]
  exact hx j hj

theorem Cloned.below {w wr : World} {e : TypeId} {n k : Nat} {gv : Nat → Value} (h : Cloned w wr e n k gv) : Below w.heap.size w wr := by
  obtain ⟨_, _, _, hb⟩ := h; exact hb

theorem cloneBytes_nil (w : World) :
    Calls Try.prog 9 #[.slice none 0 0] w fun e w' => e = .returned (.slice none 0 0) ∧ w' = w := by
  have he := fun wx => Lib.run_eql_slice_nil (P := Try.prog) wx 22 5 none 0 0 0 0 Try.underlying22
  go_enter Try.func9, Try.ntmps9
  go_wp2
  go_ret
  exact ⟨rfl, rfl⟩

set_option maxHeartbeats 400000 in
theorem cloneBytes_any (b off n cap : Nat) (g : Nat → Int) (w : World) (hn : n ≤ 1048576) (hc : Bytes w b off n g) :
    Calls Try.prog 9 #[.slice (some ⟨b, off, none⟩) n cap] w fun e w' => e = .returned (.slice (some ⟨w.heap.size, 0, none⟩) n n) ∧ Bytes w' w.heap.size 0 n g ∧ Below w.heap.size w w' := by
  have he := fun wx => Lib.run_eql_slice_nil (P := Try.prog) wx 22 5 (some ⟨b, off, none⟩) n cap 0 0 Try.underlying22
  obtain ⟨i0, hi, hz0, hz1, hz2⟩ := info_parts Try.info5
  go_enter Try.func9, Try.ntmps9
  go_wp2_with (at_make; refine wpList_make_full _ rfl _ _ 22 rfl w.heap.size 5 i0 (.int .u8 0) 1 Try.underlying22 hi hz0 hz1 _ _ _ _ n rfl rfl rfl rfl (by rw [hz2]; omega) (by unfold maxLen; omega) (Nat.le_refl _) ?_)
  intro w1 hown hgrow
  have h0 : Cloned w w1 5 n 0 (fun j => .int .u8 (g j)) := ⟨_, hown, fun j hj => by omega, (Below.refl _ w).grown hgrow (Nat.le_refl _) (fun k hk => by cases hk)⟩
  clear hown hgrow he
  go_wp2_with fail
  go_loopw [4] (fun t wr => ∃ k : Nat, k ≤ n ∧ t = .int .i64 k ∧ Cloned w wr 5 n k (fun j => .int .u8 (g j))) (fun t _ => n - (intOf t).toNat)
  case atStart => exact ⟨0, by omega, rfl, h0⟩
  case round =>
    obtain ⟨k, hk, rfl, hr⟩ := hrel
    by_cases hlt : k < n
    · have h1 := hr.old (hc k hlt)
      obtain ⟨⟨u, h2⟩, h3⟩ := hr.here k hlt
      have h4 := hr.step hlt
      have H4 : Hid (Cloned w (wr.setCell ⟨w.heap.size, k, none⟩ (.int .u8 (g k))) 5 n (k + 1) (fun j => .int .u8 (g j))) := h4
      clear h4
      go_wp2_with fail
      go_roundw
      case rel => exact ⟨k + 1, by omega, by go_num, H4.out⟩
      case measure => simp [intOf]; omega
    · have hkn : k = n := by omega
      subst hkn
      go_wp2_with fail
      go_ret
      exact ⟨rfl, hr.cells, hr.below⟩

set_option maxHeartbeats 400000 in
theorem cloneBytes_empty (x : Addr) (cap : Nat) (w : World) :
    Calls Try.prog 9 #[.slice (some x) 0 cap] w fun e w' => e = .returned (.slice (some ⟨w.heap.size, 0, none⟩) 0 0) ∧ Below w.heap.size w w' := by
  have he := fun wx => Lib.run_eql_slice_nil (P := Try.prog) wx 22 5 (some x) 0 cap 0 0 Try.underlying22
  obtain ⟨i0, hi, hz0, hz1, hz2⟩ := info_parts Try.info5
  go_enter Try.func9, Try.ntmps9
  go_wp2_with (at_make; refine wpList_make_full _ rfl _ _ 22 rfl w.heap.size 5 i0 (.int .u8 0) 1 Try.underlying22 hi hz0 hz1 _ _ _ _ 0 rfl rfl rfl rfl (by rw [hz2]; omega) (by unfold maxLen; omega) (Nat.le_refl _) ?_)
  intro w1 hown hgrow
  have h0 : Below w.heap.size w w1 := (Below.refl _ w).grown hgrow (Nat.le_refl _) (fun k hk => by cases hk)
  clear hown hgrow he
  go_wp2_with fail
  go_loop [4] (fun t => t = .int .i64 0) (fun _ => 0)
  case atStart => rfl
  case round =>
    subst hrel
    go_wp2_with fail
    go_ret
    exact ⟨rfl, h0⟩

end Go.Proofs.Qxb6602337a
