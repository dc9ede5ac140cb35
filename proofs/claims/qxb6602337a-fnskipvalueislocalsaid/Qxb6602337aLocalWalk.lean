/-
  THE WALK of FnSkipValueIsLocal (5).
-/
import Derived.Test.Qxb6602337aClone
namespace Go.Proofs.Qxb6602337a
open Go.RowKit
open Skip (V)

theorem bytes14_no (a : Option Addr) (n cap : Nat) (i : Int) (w : World) (h : 1048576 < n) :
    Calls Try.prog 14 #[.slice a n cap, .int .i64 i] w fun e w' => e = .returned (.bool false) ∧ w' = w := by
  go_enter Try.func14, Try.ntmps14
  go_wp2
  go_ret
  exact ⟨rfl, rfl⟩

theorem bytes14_yes (a : Option Addr) (n cap : Nat) (i : Int) (w : World) (h : n ≤ 1048576) :
    Calls Try.prog 14 #[.slice a n cap, .int .i64 i] w fun e w' => e = .returned (.bool true) ∧ w' = w := by
  go_enter Try.func14, Try.ntmps14
  go_wp2
  go_ret
  exact ⟨rfl, rfl⟩

theorem local_long (a : Option Addr) (n cap : Nat) (i : Int) (w : World) (h : 1048576 < n) :
    Calls Try.prog 5 #[.slice a n cap, .int .i64 i] w fun e w' => e = .returned (.bool true) ∧ w' = w := by
  go_enter Try.func5, Try.ntmps5
  go_wp2_with (go_at_call 14; refine (bytes14_no a n cap i _ h).mono ?_; rintro e w' ⟨rfl, rfl⟩)
  go_ret
  exact ⟨rfl, rfl⟩

theorem local_neg (a : Option Addr) (n cap : Nat) (i : Int) (w : World) (h : n ≤ 1048576) (hi : i < 0) :
    Calls Try.prog 5 #[.slice a n cap, .int .i64 i] w fun e w' => e = .returned (.bool true) ∧ w' = w := by
  go_enter Try.func5, Try.ntmps5
  go_wp2_with (go_at_call 14; refine (bytes14_yes a n cap i _ h).mono ?_; rintro e w' ⟨rfl, rfl⟩)
  go_ret
  exact ⟨rfl, rfl⟩

theorem local_past (a : Option Addr) (n cap : Nat) (i : Int) (w : World) (h : n ≤ 1048576) (hi : ¬ i < 0) (hi2 : (n : Int) < i) :
    Calls Try.prog 5 #[.slice a n cap, .int .i64 i] w fun e w' => e = .returned (.bool true) ∧ w' = w := by
  go_enter Try.func5, Try.ntmps5
  go_wp2_with (go_at_call 14; refine (bytes14_yes a n cap i _ h).mono ?_; rintro e w' ⟨rfl, rfl⟩)
  go_ret
  exact ⟨rfl, rfl⟩

theorem Bytes.cut {w : World} {b off n : Nat} {g : Nat → Int} (h : Bytes w b off n g) {r : Nat} (hr : r ≤ n) : Bytes w b off r g := fun j hj => h j (by omega)
theorem Bytes.from {w : World} {b n : Nat} {g : Nat → Int} (h : Bytes w b 0 n g) {i : Nat} (_hi : i ≤ n) : Bytes w b i (n - i) (fun j => g (i + j)) := by
  intro j hj
  have := h (i + j) (by omega)
  rw [Nat.zero_add] at this
  exact this

set_option maxHeartbeats 400000 in
/-- The value begins at the data's end. -/
theorem local_end (b off n cap : Nat) (g : Nat → Int) (w : World) (hn : n ≤ 1048576) (hc : Bytes w b off n g) :
    Calls Try.prog 5 #[.slice (some ⟨b, off, none⟩) n cap, .int .i64 n] w fun e w' => e = .returned (.bool true) ∧ Below w.heap.size w w' := by
  have hVn : V g n n = n := by unfold V; rw [if_pos rfl]
  have hV0 : V g 0 0 = 0 := by unfold V; rw [if_pos rfl]
  have hz : ((n : Int) - n) = 0 := by omega
  go_enter Try.func5, Try.ntmps5
  go_wp2_with (first
    | (go_at_call 14; refine (bytes14_yes _ n cap n _ hn).mono ?_; rintro e w' ⟨rfl, hw⟩; subst hw)
    | (go_at_call 9; refine (cloneBytes_any b off n cap g _ hn hc).mono ?_; rintro e w' ⟨rfl, hB, hbel⟩))
  refine (zzSkipValue_any _ n n g n _ hn (Nat.le_refl _) (.inr ⟨_, _, rfl, hB⟩)).mono ?_
  rw [hVn]
  rintro e w' ⟨rfl, rfl⟩
  go_wp2_with fail
  refine (zzSkipValue_any _ 0 0 g 0 _ (by omega) (by omega) (.inl rfl)).mono ?_
  rw [hV0]
  rintro e w' ⟨rfl, rfl⟩
  go_wp2_with fail
  refine (zzSkipValue_any _ n n g n _ hn (Nat.le_refl _) (.inr ⟨_, _, rfl, hB⟩)).mono ?_
  rw [hVn]
  rintro e w' ⟨rfl, rfl⟩
  go_wp2_with fail
  go_ret
  exact ⟨by simp, hbel⟩

set_option maxHeartbeats 400000 in
theorem local_in (b off n cap : Nat) (g : Nat → Int) (i : Nat) (w : World) (hn : n ≤ 1048576) (hi : i < n) (hc : Bytes w b off n g) :
    Calls Try.prog 5 #[.slice (some ⟨b, off, none⟩) n cap, .int .i64 i] w fun e w' => e = .returned (.bool true) ∧ Below w.heap.size w w' := by
  have hV1 := Skip.V_le g n i (by omega)
  have hV2 := Skip.V_ge g n i (by omega)
  have hS := Skip.V_shift g n i (by omega)
  have hC := Skip.V_cut g n i (by omega)
  generalize hr : V g n i = r at *
  have HR : Hid (V g n i = r) := hr
  have HS : Hid (V (fun j => g (i + j)) (n - i) 0 = r - i) := hS
  have HC : Hid (V g r i = r) := hC
  clear hr hS hC
  go_enter Try.func5, Try.ntmps5
  go_wp2_with (first
    | (go_at_call 14; refine (bytes14_yes _ n cap i _ hn).mono ?_; rintro e w' ⟨rfl, hw⟩; subst hw)
    | (go_at_call 9; refine (cloneBytes_any b off n cap g _ hn hc).mono ?_; rintro e w' ⟨rfl, hB, hbel⟩))
  refine (zzSkipValue_any _ n n g i _ hn (by omega) (.inr ⟨_, _, rfl, hB⟩)).mono ?_
  rw [HR.out]
  rintro e w' ⟨rfl, rfl⟩
  go_wp2_with fail
  refine (zzSkipValue_any _ (n - i) (n - i) (fun j => g (i + j)) 0 _ (by omega) (by omega) (.inr ⟨_, _, rfl, hB.from (by omega)⟩)).mono ?_
  rw [HS.out]
  rintro e w' ⟨rfl, rfl⟩
  have hsub : ((r - i : Nat) : Int) = (r : Int) - i := by omega
  rw [hsub]
  clear hsub
  go_wp2_with fail
  refine (zzSkipValue_any _ r n g i _ (by omega) (by omega) (.inr ⟨_, _, rfl, hB.cut (by omega)⟩)).mono ?_
  rw [HC.out]
  rintro e w' ⟨rfl, rfl⟩
  go_wp2_with fail
  go_ret
  exact ⟨by simp, hbel⟩

set_option maxHeartbeats 400000 in
/-- No data at all. -/
theorem local_nil (w : World) :
    Calls Try.prog 5 #[.slice none 0 0, .int .i64 0] w fun e w' => e = .returned (.bool true) ∧ Below w.heap.size w w' := by
  have hV0 : V (fun _ => 0) 0 0 = 0 := by unfold V; rw [if_pos rfl]
  go_enter Try.func5, Try.ntmps5
  go_wp2_with (first
    | (go_at_call 14; refine (bytes14_yes _ 0 0 0 _ (by omega)).mono ?_; rintro e w' ⟨rfl, hw⟩; subst hw)
    | (go_at_call 9; refine (cloneBytes_nil _).mono ?_; rintro e w' ⟨rfl, hw⟩; subst hw))
  refine (zzSkipValue_any _ 0 0 (fun _ => 0) 0 _ (by omega) (by omega) (.inl rfl)).mono ?_
  rw [hV0]
  rintro e w' ⟨rfl, rfl⟩
  go_wp2_with fail
  refine (zzSkipValue_any _ 0 0 (fun _ => 0) 0 _ (by omega) (by omega) (.inl rfl)).mono ?_
  rw [hV0]
  rintro e w' ⟨rfl, rfl⟩
  go_wp2_with fail
  refine (zzSkipValue_any _ 0 0 (fun _ => 0) 0 _ (by omega) (by omega) (.inl rfl)).mono ?_
  rw [hV0]
  rintro e w' ⟨rfl, rfl⟩
  go_wp2_with fail
  go_ret
  exact ⟨by simp, Below.refl _ _⟩

set_option maxHeartbeats 400000 in
/-- An empty slice that is not nil. -/
theorem local_empty (x : Addr) (cap : Nat) (w : World) :
    Calls Try.prog 5 #[.slice (some x) 0 cap, .int .i64 0] w fun e w' => e = .returned (.bool true) ∧ Below w.heap.size w w' := by
  have hV0 : V (fun _ => 0) 0 0 = 0 := by unfold V; rw [if_pos rfl]
  go_enter Try.func5, Try.ntmps5
  go_wp2_with (first
    | (go_at_call 14; refine (bytes14_yes _ 0 cap 0 _ (by omega)).mono ?_; rintro e w' ⟨rfl, hw⟩; subst hw)
    | (go_at_call 9; refine (cloneBytes_empty x cap _).mono ?_; rintro e w' ⟨rfl, hbel⟩))
  refine (zzSkipValue_any _ 0 0 (fun _ => 0) 0 _ (by omega) (by omega) (.inl rfl)).mono ?_
  rw [hV0]
  rintro e w' ⟨rfl, rfl⟩
  go_wp2_with fail
  refine (zzSkipValue_any _ 0 0 (fun _ => 0) 0 _ (by omega) (by omega) (.inl rfl)).mono ?_
  rw [hV0]
  rintro e w' ⟨rfl, rfl⟩
  go_wp2_with fail
  refine (zzSkipValue_any _ 0 0 (fun _ => 0) 0 _ (by omega) (by omega) (.inl rfl)).mono ?_
  rw [hV0]
  rintro e w' ⟨rfl, rfl⟩
  go_wp2_with fail
  go_ret
  exact ⟨by simp, hbel⟩

end Go.Proofs.Qxb6602337a
