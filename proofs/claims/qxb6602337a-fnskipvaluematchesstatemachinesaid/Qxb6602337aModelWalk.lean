/-
  THE WALKS of lawSkipModel (11) and FnSkipValueMatchesStateMachine (3).
-/
import Derived.Test.Qxb6602337aBoundsWalk
import Derived.Test.Qxb6602337aModel
namespace Go.Proofs.Qxb6602337a
open Go.RowKit
open Skip (S O C V M L isDelim)

theorem model_end (a : Option Addr) (n cap : Nat) (w : World) :
    Calls Try.prog 11 #[.slice a n cap, .int .i64 n] w fun e w' => e = .returned (.int .i64 n) ∧ w' = w := by
  go_enter Try.func11, Try.ntmps11
  go_wp2
  go_ret
  exact ⟨rfl, rfl⟩

set_option maxHeartbeats 1000000 in
theorem model_scal (b off n cap : Nat) (g : Nat → Int) (i : Nat) (w : World) (hn : n ≤ 1048576) (hi : i < n) (hc : Bytes w b off n g) (h0 : g i ≠ 34) (h1 : g i ≠ 123) (h2 : g i ≠ 91) :
    Calls Try.prog 11 #[.slice (some ⟨b, off, none⟩) n cap, .int .i64 i] w fun e w' => e = .returned (.int .i64 (C g n i : Nat)) ∧ w' = w := by
  have hcell := hc i hi
  have hin : ((i : Int) == (n : Int)) = false := by simp; omega
  have e0 : (g i != 34) = true := by simpa using h0
  have e1 : (g i != 123) = true := by simpa using h1
  have e2 : (g i != 91) = true := by simpa using h2
  clear h0 h1 h2
  go_enter Try.func11, Try.ntmps11
  go_wp2_with fail
  go_loop [7] (fun t => ∃ (k : Nat), k ≤ n ∧ t = .int .i64 k ∧ C g n k = C g n i) (fun t => n - (intOf t).toNat)
  case atStart => exact ⟨i, by omega, rfl, rfl⟩
  case round =>
    obtain ⟨k, hk, rfl, hC⟩ := hrel
    have HC : Hid (C g n k = C g n i) := hC
    clear hC hcell e0 e1 e2 hin
    by_cases hlt : k < n
    · have hcell := hc k hlt
      by_cases c1 : isDelim (g k) = true
      · have HC2 : Hid (C g n k = k) := Skip.C_hit hlt c1
        go_wp2_with (go_at_call 13; refine (isDelim_yes _ _ c1).mono ?_; rintro e w' ⟨rfl, rfl⟩)
        go_ret
        exact ⟨ret_int (by rw [← HC.out, HC2.out]), rfl⟩
      · simp only [Bool.not_eq_true] at c1
        have HC2 : Hid (C g n k = C g n (k + 1)) := Skip.C_else hlt c1
        go_wp2_with (go_at_call 13; refine (isDelim_no _ _ c1).mono ?_; rintro e w' ⟨rfl, rfl⟩)
        go_round
        case rel => exact ⟨k + 1, by omega, by go_num, by rw [← HC2.out]; exact HC.out⟩
        case measure => simp [intOf]; omega
    · have hd : decide ((k : Int) < (n : Int)) = false := by simp; omega
      go_wp2_with fail
      go_ret
      exact ⟨ret_int (by rw [← HC.out, Skip.C_end (by omega)]), rfl⟩

set_option maxHeartbeats 2000000 in
theorem model_mach (b off n cap : Nat) (g : Nat → Int) (i : Nat) (w : World) (hn : n ≤ 1048576) (hi : i < n) (hc : Bytes w b off n g) (h0 : g i = 34 ∨ g i = 123 ∨ g i = 91) :
    Calls Try.prog 11 #[.slice (some ⟨b, off, none⟩) n cap, .int .i64 i] w fun e w' => e = .returned (.int .i64 (M g n 0 false false i : Nat)) ∧ w' = w := by
  have hcell := hc i hi
  have hin : ((i : Int) == (n : Int)) = false := by simp; omega
  rcases h0 with h0 | h0 | h0
  all_goals
    go_enter Try.func11, Try.ntmps11
    go_wp2_with fail
    go_loop [8, 9, 10, 11] (fun t8 t9 t10 t11 => ∃ (k : Nat) (m : Int) (s e : Bool), k ≤ n ∧ t11 = .int .i64 k ∧ t8 = .int .i64 m ∧ -(k : Int) ≤ m ∧ m ≤ k ∧ t9 = .bool s ∧ t10 = .bool e ∧ (s = false → e = false) ∧ M g n m s e k = M g n 0 false false i) (fun _ _ _ t => n - (intOf t).toNat)
    case atStart => exact ⟨i, 0, false, false, by omega, rfl, rfl, by omega, by omega, rfl, rfl, by simp, rfl⟩
    case round =>
      obtain ⟨k, m, s, e, hk, rfl, rfl, hm1, hm2, rfl, rfl, hse, hM⟩ := hrel
      have HM : Hid (M g n m s e k = M g n 0 false false i) := hM
      clear hM hcell h0 hin
      by_cases hlt : k < n
      · have hcell := hc k hlt
        cases s with
        | true =>
          clear hse
          cases e with
          | true =>
            have HM2 : Hid (M g n m true true k = M g n m true false (k + 1)) := Skip.M_skip hlt
            go_wp2_with fail
            go_round
            case rel => exact ⟨k + 1, m, true, false, by omega, by go_num, rfl, by omega, by omega, rfl, rfl, by simp, by rw [← HM2.out]; exact HM.out⟩
            case measure => simp [intOf]; omega
          | false =>
            by_cases c1 : g k = 92
            · have HM2 : Hid (M g n m true false k = M g n m true true (k + 1)) := Skip.M_back hlt c1
              go_wp2_with fail
              go_round
              case rel => exact ⟨k + 1, m, true, true, by omega, by go_num, rfl, by omega, by omega, rfl, rfl, by simp, by rw [← HM2.out]; exact HM.out⟩
              case measure => simp [intOf]; omega
            · by_cases c2 : g k = 34
              · by_cases c3 : m = 0
                · have HM2 : Hid (M g n m true false k = k + 1) := Skip.M_shut hlt c2 c3
                  subst c3
                  go_wp2_with fail
                  go_ret
                  exact ⟨ret_int (by rw [← HM.out, HM2.out]; omega), rfl⟩
                · have HM2 : Hid (M g n m true false k = M g n m false false (k + 1)) := Skip.M_leave hlt c2 c3
                  go_wp2_with fail
                  go_round
                  case rel => exact ⟨k + 1, m, false, false, by omega, by go_num, rfl, by omega, by omega, rfl, rfl, by simp, by rw [← HM2.out]; exact HM.out⟩
                  case measure => simp [intOf]; omega
              · have HM2 : Hid (M g n m true false k = M g n m true false (k + 1)) := Skip.M_char hlt c1 c2
                go_wp2_with fail
                go_round
                case rel => exact ⟨k + 1, m, true, false, by omega, by go_num, rfl, by omega, by omega, rfl, rfl, by simp, by rw [← HM2.out]; exact HM.out⟩
                case measure => simp [intOf]; omega
        | false =>
          obtain rfl := hse rfl
          clear hse
          by_cases c1 : g k = 34
          · have HM2 : Hid (M g n m false false k = M g n m true false (k + 1)) := Skip.M_quote hlt c1
            go_wp2_with fail
            go_round
            case rel => exact ⟨k + 1, m, true, false, by omega, by go_num, rfl, by omega, by omega, rfl, rfl, by simp, by rw [← HM2.out]; exact HM.out⟩
            case measure => simp [intOf]; omega
          · by_cases c2 : g k = 123 ∨ g k = 91
            · have HM2 : Hid (M g n m false false k = M g n (m + 1) false false (k + 1)) := Skip.M_open hlt c2
              rcases c2 with c2 | c2
              all_goals
                go_wp2_with fail
                go_round
                case rel => exact ⟨k + 1, m + 1, false, false, by omega, by go_num, rfl, by omega, by omega, rfl, rfl, by simp, by rw [← HM2.out]; exact HM.out⟩
                case measure => simp [intOf]; omega
            · by_cases c3 : g k = 125 ∨ g k = 93
              · have d1 : (g k == 123) = false := by simp; omega
                have d2 : (g k == 91) = false := by simp; omega
                by_cases c4 : m - 1 = 0
                · have HM2 : Hid (M g n m false false k = k + 1) := Skip.M_last hlt c3 c4
                  clear c2
                  rcases c3 with c3 | c3
                  all_goals
                    clear d1 d2
                    go_wp2_with fail
                    go_ret
                    exact ⟨ret_int (by rw [← HM.out, HM2.out]; omega), rfl⟩
                · have HM2 : Hid (M g n m false false k = M g n (m - 1) false false (k + 1)) := Skip.M_close hlt c3 c4
                  clear c2
                  rcases c3 with c3 | c3
                  all_goals
                    clear d1 d2
                    go_wp2_with fail
                    go_round
                    case rel => exact ⟨k + 1, m - 1, false, false, by omega, by go_num, rfl, by omega, by omega, rfl, rfl, by simp, by rw [← HM2.out]; exact HM.out⟩
                    case measure => simp [intOf]; omega
              · have HM2 : Hid (M g n m false false k = M g n m false false (k + 1)) := Skip.M_else hlt c1 c2 c3
                have d1 : (g k == 123) = false := by simp; omega
                have d2 : (g k == 91) = false := by simp; omega
                have d3 : (g k == 125) = false := by simp; omega
                have d4 : (g k == 93) = false := by simp; omega
                clear c2 c3
                go_wp2_with fail
                go_round
                case rel => exact ⟨k + 1, m, false, false, by omega, by go_num, rfl, by omega, by omega, rfl, rfl, by simp, by rw [← HM2.out]; exact HM.out⟩
                case measure => simp [intOf]; omega
      · go_wp2_with fail
        go_ret
        exact ⟨ret_int (by rw [← HM.out, Skip.M_end (by omega)]), rfl⟩

theorem model_any (a : Option Addr) (n cap : Nat) (g : Nat → Int) (i : Nat) (w : World) (hn : n ≤ 1048576) (hi : i ≤ n) (hc : Slice w a n g) :
    Calls Try.prog 11 #[.slice a n cap, .int .i64 i] w fun e w' => e = .returned (.int .i64 (L g n i : Nat)) ∧ w' = w := by
  unfold L
  by_cases e : i = n
  · rw [if_pos e, e]; exact model_end a n cap w
  · rw [if_neg e]
    rcases hc with hc | ⟨b, off, rfl, hc⟩
    · omega
    · split
      · rename_i h; exact model_scal b off n cap g i w hn (by omega) hc h.1 h.2.1 h.2.2
      · exact model_mach b off n cap g i w hn (by omega) hc (by omega)

theorem bytes8_no (a : Option Addr) (n cap : Nat) (i : Int) (w : World) (h : 1048576 < n) :
    Calls Try.prog 8 #[.slice a n cap, .int .i64 i] w fun e w' => e = .returned (.bool false) ∧ w' = w := by
  go_enter Try.func8, Try.ntmps8
  go_wp2
  go_ret
  exact ⟨rfl, rfl⟩

theorem bytes8_yes (a : Option Addr) (n cap : Nat) (i : Int) (w : World) (h : n ≤ 1048576) :
    Calls Try.prog 8 #[.slice a n cap, .int .i64 i] w fun e w' => e = .returned (.bool true) ∧ w' = w := by
  go_enter Try.func8, Try.ntmps8
  go_wp2
  go_ret
  exact ⟨rfl, rfl⟩

theorem match_long (a : Option Addr) (n cap : Nat) (i : Int) (w : World) (h : 1048576 < n) :
    Calls Try.prog 3 #[.slice a n cap, .int .i64 i] w fun e w' => e = .returned (.bool true) ∧ w' = w := by
  go_enter Try.func3, Try.ntmps3
  go_wp2_with (go_at_call 8; refine (bytes8_no a n cap i _ h).mono ?_; rintro e w' ⟨rfl, rfl⟩)
  go_ret
  exact ⟨rfl, rfl⟩

theorem match_neg (a : Option Addr) (n cap : Nat) (i : Int) (w : World) (h : n ≤ 1048576) (hi : i < 0) :
    Calls Try.prog 3 #[.slice a n cap, .int .i64 i] w fun e w' => e = .returned (.bool true) ∧ w' = w := by
  go_enter Try.func3, Try.ntmps3
  go_wp2_with (go_at_call 8; refine (bytes8_yes a n cap i _ h).mono ?_; rintro e w' ⟨rfl, rfl⟩)
  go_ret
  exact ⟨rfl, rfl⟩

theorem match_past (a : Option Addr) (n cap : Nat) (i : Int) (w : World) (h : n ≤ 1048576) (hi : ¬ i < 0) (hi2 : (n : Int) < i) :
    Calls Try.prog 3 #[.slice a n cap, .int .i64 i] w fun e w' => e = .returned (.bool true) ∧ w' = w := by
  go_enter Try.func3, Try.ntmps3
  go_wp2_with (go_at_call 8; refine (bytes8_yes a n cap i _ h).mono ?_; rintro e w' ⟨rfl, rfl⟩)
  go_ret
  exact ⟨rfl, rfl⟩

set_option maxHeartbeats 400000 in
theorem match_in (b off n cap : Nat) (g : Nat → Int) (i : Nat) (w : World) (hn : n ≤ 1048576) (hi : i ≤ n) (hc : Bytes w b off n g) :
    Calls Try.prog 3 #[.slice (some ⟨b, off, none⟩) n cap, .int .i64 i] w fun e w' => e = .returned (.bool true) ∧ Below w.heap.size w w' := by
  have HL : Hid (L g n i = V g n i) := Skip.L_eq g n i hi
  go_enter Try.func3, Try.ntmps3
  go_wp2_with (first
    | (go_at_call 8; refine (bytes8_yes _ n cap i _ hn).mono ?_; rintro e w' ⟨rfl, hw⟩; subst hw)
    | (go_at_call 9; refine (cloneBytes_any b off n cap g _ hn hc).mono ?_; rintro e w' ⟨rfl, hB, hbel⟩))
  refine (zzSkipValue_any _ n n g i _ hn hi (.inr ⟨_, _, rfl, hB⟩)).mono ?_
  rintro e w' ⟨rfl, rfl⟩
  go_wp2_with fail
  refine (model_any _ n n g i _ hn hi (.inr ⟨_, _, rfl, hB⟩)).mono ?_
  rw [HL.out]
  rintro e w' ⟨rfl, rfl⟩
  go_wp2_with fail
  go_ret
  exact ⟨by simp, hbel⟩

set_option maxHeartbeats 400000 in
theorem match_nil (w : World) :
    Calls Try.prog 3 #[.slice none 0 0, .int .i64 0] w fun e w' => e = .returned (.bool true) ∧ Below w.heap.size w w' := by
  have hV0 : V (fun _ => 0) 0 0 = 0 := by unfold V; rw [if_pos rfl]
  have hL0 : L (fun _ => 0) 0 0 = 0 := by unfold L; rw [if_pos rfl]
  go_enter Try.func3, Try.ntmps3
  go_wp2_with (first
    | (go_at_call 8; refine (bytes8_yes _ 0 0 0 _ (by omega)).mono ?_; rintro e w' ⟨rfl, hw⟩; subst hw)
    | (go_at_call 9; refine (cloneBytes_nil _).mono ?_; rintro e w' ⟨rfl, hw⟩; subst hw))
  refine (zzSkipValue_any _ 0 0 (fun _ => 0) 0 _ (by omega) (by omega) (.inl rfl)).mono ?_
  rw [hV0]
  rintro e w' ⟨rfl, rfl⟩
  go_wp2_with fail
  refine (model_any _ 0 0 (fun _ => 0) 0 _ (by omega) (by omega) (.inl rfl)).mono ?_
  rw [hL0]
  rintro e w' ⟨rfl, rfl⟩
  go_wp2_with fail
  go_ret
  exact ⟨by simp, Below.refl _ _⟩

set_option maxHeartbeats 400000 in
theorem match_empty (x : Addr) (cap : Nat) (w : World) :
    Calls Try.prog 3 #[.slice (some x) 0 cap, .int .i64 0] w fun e w' => e = .returned (.bool true) ∧ Below w.heap.size w w' := by
  have hV0 : V (fun _ => 0) 0 0 = 0 := by unfold V; rw [if_pos rfl]
  have hL0 : L (fun _ => 0) 0 0 = 0 := by unfold L; rw [if_pos rfl]
  go_enter Try.func3, Try.ntmps3
  go_wp2_with (first
    | (go_at_call 8; refine (bytes8_yes _ 0 cap 0 _ (by omega)).mono ?_; rintro e w' ⟨rfl, hw⟩; subst hw)
    | (go_at_call 9; refine (cloneBytes_empty x cap _).mono ?_; rintro e w' ⟨rfl, hbel⟩))
  refine (zzSkipValue_any _ 0 0 (fun _ => 0) 0 _ (by omega) (by omega) (.inl rfl)).mono ?_
  rw [hV0]
  rintro e w' ⟨rfl, rfl⟩
  go_wp2_with fail
  refine (model_any _ 0 0 (fun _ => 0) 0 _ (by omega) (by omega) (.inl rfl)).mono ?_
  rw [hL0]
  rintro e w' ⟨rfl, rfl⟩
  go_wp2_with fail
  go_ret
  exact ⟨by simp, hbel⟩

end Go.Proofs.Qxb6602337a
