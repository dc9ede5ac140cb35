/-
  THE WALKS of lawIsDelim (13) and FnSkipValueEndsInBounds (4).
-/
import Derived.Test.Qxb6602337aClone
namespace Go.Proofs.Qxb6602337a
open Go.RowKit
open Skip (S O C V isDelim)

theorem isDelim_yes (x : Int) (w : World) (h : isDelim x = true) :
    Calls Try.prog 13 #[.int .u8 x] w fun e w' => e = .returned (.bool true) ∧ w' = w := by
  have hd := delim_cases h
  clear h
  rcases hd with rfl | rfl | rfl | rfl | rfl | rfl | rfl
  all_goals
    go_enter Try.func13, Try.ntmps13
    go_wp2
    go_ret
    exact ⟨rfl, rfl⟩

theorem isDelim_no (x : Int) (w : World) (h : isDelim x = false) :
    Calls Try.prog 13 #[.int .u8 x] w fun e w' => e = .returned (.bool false) ∧ w' = w := by
  obtain ⟨d1, d2, d3, d4, d5, d6, d7⟩ := delim_no h
  clear h
  have e1 : (x == 44) = false := by simpa using d1
  have e2 : (x == 125) = false := by simpa using d2
  have e3 : (x == 93) = false := by simpa using d3
  have e4 : (x == 32) = false := by simpa using d4
  have e5 : (x == 9) = false := by simpa using d5
  have e6 : (x == 10) = false := by simpa using d6
  have e7 : (x == 13) = false := by simpa using d7
  clear d1 d2 d3 d4 d5 d6 d7
  go_enter Try.func13, Try.ntmps13
  go_wp2
  go_ret
  exact ⟨rfl, rfl⟩

theorem bytes12_no (a : Option Addr) (n cap : Nat) (i : Int) (w : World) (h : 1048576 < n) :
    Calls Try.prog 12 #[.slice a n cap, .int .i64 i] w fun e w' => e = .returned (.bool false) ∧ w' = w := by
  go_enter Try.func12, Try.ntmps12
  go_wp2
  go_ret
  exact ⟨rfl, rfl⟩

theorem bytes12_yes (a : Option Addr) (n cap : Nat) (i : Int) (w : World) (h : n ≤ 1048576) :
    Calls Try.prog 12 #[.slice a n cap, .int .i64 i] w fun e w' => e = .returned (.bool true) ∧ w' = w := by
  go_enter Try.func12, Try.ntmps12
  go_wp2
  go_ret
  exact ⟨rfl, rfl⟩

theorem bounds_long (a : Option Addr) (n cap : Nat) (i : Int) (w : World) (h : 1048576 < n) :
    Calls Try.prog 4 #[.slice a n cap, .int .i64 i] w fun e w' => e = .returned (.bool true) ∧ w' = w := by
  go_enter Try.func4, Try.ntmps4
  go_wp2_with (go_at_call 12; refine (bytes12_no a n cap i _ h).mono ?_; rintro e w' ⟨rfl, rfl⟩)
  go_ret
  exact ⟨rfl, rfl⟩

theorem bounds_neg (a : Option Addr) (n cap : Nat) (i : Int) (w : World) (h : n ≤ 1048576) (hi : i < 0) :
    Calls Try.prog 4 #[.slice a n cap, .int .i64 i] w fun e w' => e = .returned (.bool true) ∧ w' = w := by
  go_enter Try.func4, Try.ntmps4
  go_wp2_with (go_at_call 12; refine (bytes12_yes a n cap i _ h).mono ?_; rintro e w' ⟨rfl, rfl⟩)
  go_ret
  exact ⟨rfl, rfl⟩

theorem bounds_past (a : Option Addr) (n cap : Nat) (i : Int) (w : World) (h : n ≤ 1048576) (hi : ¬ i < 0) (hi2 : (n : Int) < i) :
    Calls Try.prog 4 #[.slice a n cap, .int .i64 i] w fun e w' => e = .returned (.bool true) ∧ w' = w := by
  go_enter Try.func4, Try.ntmps4
  go_wp2_with (go_at_call 12; refine (bytes12_yes a n cap i _ h).mono ?_; rintro e w' ⟨rfl, rfl⟩)
  go_ret
  exact ⟨rfl, rfl⟩

set_option maxHeartbeats 400000 in
/-- The value begins at the data's end. -/
theorem bounds_end (b off n cap : Nat) (g : Nat → Int) (w : World) (hn : n ≤ 1048576) (hc : Bytes w b off n g) :
    Calls Try.prog 4 #[.slice (some ⟨b, off, none⟩) n cap, .int .i64 n] w fun e w' => e = .returned (.bool true) ∧ Below w.heap.size w w' := by
  have hVn : V g n n = n := by unfold V; rw [if_pos rfl]
  go_enter Try.func4, Try.ntmps4
  go_wp2_with (first
    | (go_at_call 12; refine (bytes12_yes _ n cap n _ hn).mono ?_; rintro e w' ⟨rfl, hw⟩; subst hw)
    | (go_at_call 9; refine (cloneBytes_any b off n cap g _ hn hc).mono ?_; rintro e w' ⟨rfl, hB, hbel⟩))
  refine (zzSkipValue_any _ n n g n _ hn (Nat.le_refl _) (.inr ⟨_, _, rfl, hB⟩)).mono ?_
  rw [hVn]
  rintro e w' ⟨rfl, rfl⟩
  go_wp2_with fail
  go_ret
  exact ⟨by simp, hbel⟩

set_option maxHeartbeats 400000 in
/-- No data at all. -/
theorem bounds_nil (w : World) :
    Calls Try.prog 4 #[.slice none 0 0, .int .i64 0] w fun e w' => e = .returned (.bool true) ∧ Below w.heap.size w w' := by
  have hV0 : V (fun _ => 0) 0 0 = 0 := by unfold V; rw [if_pos rfl]
  go_enter Try.func4, Try.ntmps4
  go_wp2_with (first
    | (go_at_call 12; refine (bytes12_yes _ 0 0 0 _ (by omega)).mono ?_; rintro e w' ⟨rfl, hw⟩; subst hw)
    | (go_at_call 9; refine (cloneBytes_nil _).mono ?_; rintro e w' ⟨rfl, hw⟩; subst hw))
  refine (zzSkipValue_any _ 0 0 (fun _ => 0) 0 _ (by omega) (by omega) (.inl rfl)).mono ?_
  rw [hV0]
  rintro e w' ⟨rfl, rfl⟩
  go_wp2_with fail
  go_ret
  exact ⟨by simp, Below.refl _ _⟩

set_option maxHeartbeats 400000 in
/-- An empty slice that is not nil. -/
theorem bounds_empty (x : Addr) (cap : Nat) (w : World) :
    Calls Try.prog 4 #[.slice (some x) 0 cap, .int .i64 0] w fun e w' => e = .returned (.bool true) ∧ Below w.heap.size w w' := by
  have hV0 : V (fun _ => 0) 0 0 = 0 := by unfold V; rw [if_pos rfl]
  go_enter Try.func4, Try.ntmps4
  go_wp2_with (first
    | (go_at_call 12; refine (bytes12_yes _ 0 cap 0 _ (by omega)).mono ?_; rintro e w' ⟨rfl, hw⟩; subst hw)
    | (go_at_call 9; refine (cloneBytes_empty x cap _).mono ?_; rintro e w' ⟨rfl, hbel⟩))
  refine (zzSkipValue_any _ 0 0 (fun _ => 0) 0 _ (by omega) (by omega) (.inl rfl)).mono ?_
  rw [hV0]
  rintro e w' ⟨rfl, rfl⟩
  go_wp2_with fail
  go_ret
  exact ⟨by simp, hbel⟩

theorem Bytes.at0 {w : World} {b n : Nat} {g : Nat → Int} (h : Bytes w b 0 n g) {j : Nat} (hj : j < n) : w.cell? ⟨b, j, none⟩ = some (.int .u8 (g j)) := by
  have := h j hj
  rw [Nat.zero_add] at this
  exact this

/-- What is known of the end of a string or a bracketed value. -/
theorem V_str {g : Nat → Int} {n i : Nat} (hi : i < n) (h0 : g i = 34) : i < V g n i ∧ V g n i ≤ n ∧ (V g n i < n → i + 2 ≤ V g n i ∧ g (V g n i - 1) = 34) := by
  have e : V g n i = S g n (i + 1) := by unfold V; rw [if_neg (by omega), if_pos h0]
  rw [e]
  have h1 := Skip.S_ge g n (i + 1) (by omega)
  refine ⟨by omega, Skip.S_le _ _ _, fun h => ⟨?_, Skip.S_last _ _ _ h⟩⟩
  by_cases c : i + 1 < n
  · have := Skip.S_gt g n (i + 1) c; omega
  · rw [Skip.S_end (by omega)] at h; omega

theorem V_obj {g : Nat → Int} {n i : Nat} (hi : i < n) (h0 : g i = 123 ∨ g i = 91) : i < V g n i ∧ V g n i ≤ n ∧ (V g n i < n → i + 2 ≤ V g n i ∧ (g (V g n i - 1) = 125 ∨ g (V g n i - 1) = 93)) := by
  have e : V g n i = O g n 0 i := by unfold V; rw [if_neg (by omega), if_neg (by omega), if_pos h0]
  rw [e]
  refine ⟨Skip.O_gt _ _ _ _ hi, Skip.O_le _ _ _ _, fun h => ⟨?_, Skip.O_behind _ _ _ _ h⟩⟩
  rw [Skip.O_open hi h0] at h ⊢
  by_cases c : i + 1 < n
  · have := Skip.O_gt g n (i + 1) (0 + 1) c; omega
  · rw [Skip.O_end (by omega)] at h; omega

theorem V_scal {g : Nat → Int} {n i : Nat} (hi : i < n) (h0 : g i ≠ 34) (h1 : ¬ (g i = 123 ∨ g i = 91)) : i ≤ V g n i ∧ V g n i ≤ n ∧ (∀ j, i ≤ j → j < V g n i → isDelim (g j) = false) ∧ (V g n i < n → isDelim (g (V g n i)) = true) := by
  have e : V g n i = C g n i := by unfold V; rw [if_neg (by omega), if_neg h0, if_neg h1]
  rw [e]
  exact ⟨Skip.C_ge _ _ _, Skip.C_le _ _ _ (by omega), Skip.C_free _ _ _, Skip.C_stop _ _ _⟩

set_option maxHeartbeats 1000000 in
theorem bounds_str (b off n cap : Nat) (g : Nat → Int) (i : Nat) (w : World) (hn : n ≤ 1048576) (hi : i < n) (hc : Bytes w b off n g) (h0 : g i = 34) :
    Calls Try.prog 4 #[.slice (some ⟨b, off, none⟩) n cap, .int .i64 i] w fun e w' => e = .returned (.bool true) ∧ Below w.heap.size w w' := by
  obtain ⟨hv1, hv2, hv3⟩ := V_str hi h0
  generalize hr : V g n i = r at *
  have HR : Hid (V g n i = r) := hr
  clear hr
  by_cases hrn : r < n
  · obtain ⟨hv4, hv5⟩ := hv3 hrn
    clear hv3
    go_enter Try.func4, Try.ntmps4
    go_wp2_with (first
      | (go_at_call 12; refine (bytes12_yes _ n cap i _ hn).mono ?_; rintro e w' ⟨rfl, hw⟩; subst hw)
      | (go_at_call 9; refine (cloneBytes_any b off n cap g _ hn hc).mono ?_; rintro e w' ⟨rfl, hB, hbel⟩))
    refine (zzSkipValue_any _ n n g i _ hn (by omega) (.inr ⟨_, _, rfl, hB⟩)).mono ?_
    rw [HR.out]
    rintro e w' ⟨rfl, rfl⟩
    have hcell := hB.at0 hi
    have hcell2 := hB.at0 (show r - 1 < n by omega)
    go_wp2_with fail
    go_ret
    exact ⟨by simp, hbel⟩
  · clear hv3
    go_enter Try.func4, Try.ntmps4
    go_wp2_with (first
      | (go_at_call 12; refine (bytes12_yes _ n cap i _ hn).mono ?_; rintro e w' ⟨rfl, hw⟩; subst hw)
      | (go_at_call 9; refine (cloneBytes_any b off n cap g _ hn hc).mono ?_; rintro e w' ⟨rfl, hB, hbel⟩))
    refine (zzSkipValue_any _ n n g i _ hn (by omega) (.inr ⟨_, _, rfl, hB⟩)).mono ?_
    rw [HR.out]
    rintro e w' ⟨rfl, rfl⟩
    have hcell := hB.at0 hi
    go_wp2_with fail
    go_ret
    exact ⟨by simp, hbel⟩

set_option maxHeartbeats 1000000 in
theorem bounds_obj (b off n cap : Nat) (g : Nat → Int) (i : Nat) (w : World) (hn : n ≤ 1048576) (hi : i < n) (hc : Bytes w b off n g) (h0 : g i = 123 ∨ g i = 91) :
    Calls Try.prog 4 #[.slice (some ⟨b, off, none⟩) n cap, .int .i64 i] w fun e w' => e = .returned (.bool true) ∧ Below w.heap.size w w' := by
  obtain ⟨hv1, hv2, hv3⟩ := V_obj hi h0
  generalize hr : V g n i = r at *
  have HR : Hid (V g n i = r) := hr
  clear hr
  by_cases hrn : r < n
  · obtain ⟨hv4, hv5⟩ := hv3 hrn
    clear hv3
    rcases h0 with h0 | h0 <;> rcases hv5 with hv5 | hv5
    all_goals
      go_enter Try.func4, Try.ntmps4
      go_wp2_with (first
        | (go_at_call 12; refine (bytes12_yes _ n cap i _ hn).mono ?_; rintro e w' ⟨rfl, hw⟩; subst hw)
        | (go_at_call 9; refine (cloneBytes_any b off n cap g _ hn hc).mono ?_; rintro e w' ⟨rfl, hB, hbel⟩))
      refine (zzSkipValue_any _ n n g i _ hn (by omega) (.inr ⟨_, _, rfl, hB⟩)).mono ?_
      rw [HR.out]
      rintro e w' ⟨rfl, rfl⟩
      have hcell := hB.at0 hi
      have hcell2 := hB.at0 (show r - 1 < n by omega)
      go_wp2_with fail
      go_ret
      exact ⟨by simp, hbel⟩
  · clear hv3
    rcases h0 with h0 | h0
    all_goals
      go_enter Try.func4, Try.ntmps4
      go_wp2_with (first
        | (go_at_call 12; refine (bytes12_yes _ n cap i _ hn).mono ?_; rintro e w' ⟨rfl, hw⟩; subst hw)
        | (go_at_call 9; refine (cloneBytes_any b off n cap g _ hn hc).mono ?_; rintro e w' ⟨rfl, hB, hbel⟩))
      refine (zzSkipValue_any _ n n g i _ hn (by omega) (.inr ⟨_, _, rfl, hB⟩)).mono ?_
      rw [HR.out]
      rintro e w' ⟨rfl, rfl⟩
      have hcell := hB.at0 hi
      go_wp2_with fail
      go_ret
      exact ⟨by simp, hbel⟩

set_option maxHeartbeats 1000000 in
theorem bounds_scal (b off n cap : Nat) (g : Nat → Int) (i : Nat) (w : World) (hn : n ≤ 1048576) (hi : i < n) (hc : Bytes w b off n g) (h0 : g i ≠ 34) (h1 : ¬ (g i = 123 ∨ g i = 91)) :
    Calls Try.prog 4 #[.slice (some ⟨b, off, none⟩) n cap, .int .i64 i] w fun e w' => e = .returned (.bool true) ∧ Below w.heap.size w w' := by
  obtain ⟨hv1, hv2, hv3, hv4⟩ := V_scal hi h0 h1
  generalize hr : V g n i = r at *
  have HR : Hid (V g n i = r) := hr
  clear hr
  have e0 : (g i == 34) = false := by simpa using h0
  have e1 : (g i == 123) = false := by simp; omega
  have e2 : (g i == 91) = false := by simp; omega
  have hin : ((i : Int) == (n : Int)) = false := by simp; omega
  have q1 : decide (r < i) = false := by simp; omega
  have q2 : decide (n < r) = false := by simp; omega
  clear h0 h1
  have HV3 : Hid (∀ j, i ≤ j → j < r → isDelim (g j) = false) := hv3
  have HV4 : Hid (r < n → isDelim (g r) = true) := hv4
  clear hv3 hv4
  go_enter Try.func4, Try.ntmps4
  go_wp2_with (first
    | (go_at_call 12; refine (bytes12_yes _ n cap i _ hn).mono ?_; rintro e w' ⟨rfl, hw⟩; subst hw)
    | (go_at_call 9; refine (cloneBytes_any b off n cap g _ hn hc).mono ?_; rintro e w' ⟨rfl, hB, hbel⟩))
  refine (zzSkipValue_any _ n n g i _ hn (by omega) (.inr ⟨_, _, rfl, hB⟩)).mono ?_
  rw [HR.out]
  rintro e w' ⟨rfl, rfl⟩
  have hcell := hB.at0 hi
  go_wp2_with fail
  go_loop [8] (fun t => ∃ k : Nat, i ≤ k ∧ k ≤ r ∧ t = .int .i64 k) (fun t => r - (intOf t).toNat)
  case atStart => exact ⟨i, by omega, by omega, rfl⟩
  case round =>
    obtain ⟨k, hk1, hk2, rfl⟩ := hrel
    clear hcell e0 e1 e2 hin q1 q2
    by_cases hlt : k < r
    · have hcell := hB.at0 (show k < n by omega)
      have hd := HV3.out k hk1 hlt
      go_wp2_with (go_at_call 13; refine (isDelim_no _ _ hd).mono ?_; rintro e w' ⟨rfl, rfl⟩)
      go_round
      case rel => exact ⟨k + 1, by omega, by omega, by go_num⟩
      case measure => simp [intOf]; omega
    · by_cases hrn : r < n
      · have hcell := hB.at0 hrn
        have hd := HV4.out hrn
        have hrn' : ((r : Int) == (n : Int)) = false := by simp; omega
        go_wp2_with (go_at_call 13; refine (isDelim_yes _ _ hd).mono ?_; rintro e w' ⟨rfl, rfl⟩)
        go_ret
        exact ⟨by simp, hbel⟩
      · have hrn' : ((r : Int) == (n : Int)) = true := by simp; omega
        go_wp2_with fail
        go_ret
        exact ⟨by simp, hbel⟩

end Go.Proofs.Qxb6602337a
