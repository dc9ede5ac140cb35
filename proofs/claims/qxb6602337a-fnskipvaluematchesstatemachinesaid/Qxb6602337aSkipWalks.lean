/-
  THE WALKS of skipString (23), skipValue (21), ZZSkipValue (10), lawCloneBytes (9).
-/
import Derived.Test.Qxb6602337aRows
import Derived.WalkKit
import Derived.Outline
import Derived.ProofKit
import Derived.Below
import Derived.Test.Qxb6602337aSkip
namespace Go.Proofs.Qxb6602337a
open Go.RowKit
open Skip (S O C V isDelim)

theorem ret_int {k : IntKind} {a b : Int} (h : a = b) : Ending.returned (.int k a) = .returned (.int k b) := by rw [h]

/-- The cells of a slice of bytes: 'g j' lies j cells on from the slice's head. -/
def Bytes (w : World) (b off n : Nat) (g : Nat → Int) : Prop := ∀ j, j < n → w.cell? ⟨b, off + j, none⟩ = some (.int .u8 (g j))

set_option maxHeartbeats 400000 in
theorem skipString_any (b off n cap : Nat) (g : Nat → Int) (i : Nat) (w : World) (hn : n ≤ 1048576) (hi : i < n) (hc : Bytes w b off n g) :
    Calls Try.prog 23 #[.slice (some ⟨b, off, none⟩) n cap, .int .i64 i] w fun e w' => e = .returned (.int .i64 (S g n (i + 1) : Nat)) ∧ w' = w := by
  go_enter Try.func23, Try.ntmps23
  go_wp2
  go_loop [1] (fun t => ∃ k : Nat, k ≤ n + 1 ∧ t = .int .i64 k ∧ S g n k = S g n (i + 1)) (fun t => n + 1 - (intOf t).toNat)
  case atStart => exact ⟨i + 1, by omega, by go_num, rfl⟩
  case round =>
    obtain ⟨k, hk, rfl, hS⟩ := hrel
    have HS : Hid (S g n k = S g n (i + 1)) := hS
    clear hS
    by_cases hlt : k < n
    · have hcell := hc k hlt
      by_cases c1 : g k = 92
      · have hs := Skip.S_esc hlt c1
        have HS2 : Hid (S g n k = S g n (k + 2)) := hs
        clear hs
        go_wp2
        go_round
        case rel => exact ⟨k + 2, by omega, by go_num, by rw [← HS2.out]; exact HS.out⟩
        case measure => simp [intOf]; omega
      · by_cases c2 : g k = 34
        · have HS2 : Hid (S g n k = k + 1) := Skip.S_quote hlt c2
          go_wp2
          go_ret
          exact ⟨ret_int (by rw [← HS.out, HS2.out]; omega), rfl⟩
        · have HS2 : Hid (S g n k = S g n (k + 1)) := Skip.S_else hlt c1 c2
          go_wp2
          go_round
          case rel => exact ⟨k + 1, by omega, by go_num, by rw [← HS2.out]; exact HS.out⟩
          case measure => simp [intOf]; omega
    · go_wp2
      go_ret
      exact ⟨ret_int (by rw [← HS.out, Skip.S_end (by omega)]), rfl⟩


/-- At the end of the data. -/
theorem skipValue_end (a : Option Addr) (n cap : Nat) (w : World) :
    Calls Try.prog 21 #[.slice a n cap, .int .i64 n] w fun e w' => e = .returned (.int .i64 n) ∧ w' = w := by
  go_enter Try.func21, Try.ntmps21
  go_wp2
  go_ret
  exact ⟨rfl, rfl⟩

set_option maxHeartbeats 400000 in
/-- A string. -/
theorem skipValue_str (b off n cap : Nat) (g : Nat → Int) (i : Nat) (w : World) (hn : n ≤ 1048576) (hi : i < n) (hc : Bytes w b off n g) (h0 : g i = 34) :
    Calls Try.prog 21 #[.slice (some ⟨b, off, none⟩) n cap, .int .i64 i] w fun e w' => e = .returned (.int .i64 (S g n (i + 1) : Nat)) ∧ w' = w := by
  have hcell := hc i hi
  go_enter Try.func21, Try.ntmps21
  go_wp2_with (go_at_call 23; refine (skipString_any b off n cap g i _ hn hi hc).mono ?_; rintro e w' ⟨rfl, rfl⟩)
  go_ret
  exact ⟨rfl, rfl⟩

set_option maxHeartbeats 1000000 in
/-- An object or an array. -/
theorem skipValue_obj (b off n cap : Nat) (g : Nat → Int) (i : Nat) (w : World) (hn : n ≤ 1048576) (hi : i < n) (hc : Bytes w b off n g) (h0 : g i = 123 ∨ g i = 91) :
    Calls Try.prog 21 #[.slice (some ⟨b, off, none⟩) n cap, .int .i64 i] w fun e w' => e = .returned (.int .i64 (O g n 0 i : Nat)) ∧ w' = w := by
  rcases h0 with h0 | h0
  all_goals
    have hcell := hc i hi
    have hin : ((i : Int) == (n : Int)) = false := by simp; omega
    go_enter Try.func21, Try.ntmps21
    go_wp2_with fail
    go_loop [1, 5] (fun t d => ∃ (k : Nat) (m : Int), k ≤ n ∧ t = .int .i64 k ∧ d = .int .i64 m ∧ -(k : Int) ≤ m ∧ m ≤ k ∧ O g n m k = O g n 0 i) (fun t _ => n - (intOf t).toNat)
    case atStart => exact ⟨i, 0, by omega, rfl, rfl, by omega, by omega, rfl⟩
    case round =>
      obtain ⟨k, m, hk, rfl, rfl, hm1, hm2, hO⟩ := hrel
      have HO : Hid (O g n m k = O g n 0 i) := hO
      clear hO hcell h0 hin
      by_cases hlt : k < n
      · have hcell := hc k hlt
        by_cases c1 : g k = 34
        · have hS1 : k < S g n (k + 1) := Skip.S_next g n k hlt
          have hS2 : S g n (k + 1) ≤ n := Skip.S_le g n (k + 1)
          have HO2 : Hid (O g n m k = O g n m (S g n (k + 1))) := Skip.O_quote hlt c1
          go_wp2_with (go_at_call 23; refine (skipString_any b off n cap g k _ hn hlt hc).mono ?_; rintro e w' ⟨rfl, rfl⟩)
          go_round
          case rel => exact ⟨S g n (k + 1), m, by omega, rfl, rfl, by omega, by omega, by rw [← HO2.out]; exact HO.out⟩
          case measure => simp [intOf]; omega
        · by_cases c2 : g k = 123 ∨ g k = 91
          · have HO2 : Hid (O g n m k = O g n (m + 1) (k + 1)) := Skip.O_open hlt c2
            rcases c2 with c2 | c2
            all_goals
              go_wp2_with fail
              go_round
              case rel => exact ⟨k + 1, m + 1, by omega, by go_num, rfl, by omega, by omega, by rw [← HO2.out]; exact HO.out⟩
              case measure => simp [intOf]; omega
          · by_cases c3 : g k = 125 ∨ g k = 93
            · by_cases c4 : m - 1 = 0
              · have HO2 : Hid (O g n m k = k + 1) := Skip.O_last hlt c3 c4
                rcases c3 with c3 | c3
                all_goals
                  go_wp2_with fail
                  go_ret
                  exact ⟨ret_int (by rw [← HO.out, HO2.out]; omega), rfl⟩
              · have HO2 : Hid (O g n m k = O g n (m - 1) (k + 1)) := Skip.O_close hlt c3 c4
                rcases c3 with c3 | c3
                all_goals
                  go_wp2_with fail
                  go_round
                  case rel => exact ⟨k + 1, m - 1, by omega, by go_num, rfl, by omega, by omega, by rw [← HO2.out]; exact HO.out⟩
                  case measure => simp [intOf]; omega
            · have HO2 : Hid (O g n m k = O g n m (k + 1)) := Skip.O_else hlt c1 c2 c3
              have d1 : ¬ g k = 123 := by omega
              have d2 : ¬ g k = 91 := by omega
              have d3 : ¬ g k = 125 := by omega
              have d4 : ¬ g k = 93 := by omega
              clear c2 c3
              go_wp2_with fail
              go_round
              case rel => exact ⟨k + 1, m, by omega, by go_num, rfl, by omega, by omega, by rw [← HO2.out]; exact HO.out⟩
              case measure => simp [intOf]; omega
      · go_wp2_with fail
        go_ret
        exact ⟨ret_int (by rw [← HO.out, Skip.O_end (by omega)]), rfl⟩

theorem delim_cases {x : Int} (h : isDelim x = true) : x = 44 ∨ x = 125 ∨ x = 93 ∨ x = 32 ∨ x = 9 ∨ x = 10 ∨ x = 13 := by
  unfold isDelim at h
  simp only [Bool.or_eq_true, beq_iff_eq] at h
  omega
theorem delim_no {x : Int} (h : isDelim x = false) : x ≠ 44 ∧ x ≠ 125 ∧ x ≠ 93 ∧ x ≠ 32 ∧ x ≠ 9 ∧ x ≠ 10 ∧ x ≠ 13 := by
  unfold isDelim at h
  simp only [Bool.or_eq_false_iff, beq_eq_false_iff_ne] at h
  omega

set_option maxHeartbeats 1000000 in
/-- A bare scalar. -/
theorem skipValue_scal (b off n cap : Nat) (g : Nat → Int) (i : Nat) (w : World) (hn : n ≤ 1048576) (hi : i < n) (hc : Bytes w b off n g) (h0 : g i ≠ 34) (h1 : g i ≠ 123) (h2 : g i ≠ 91) :
    Calls Try.prog 21 #[.slice (some ⟨b, off, none⟩) n cap, .int .i64 i] w fun e w' => e = .returned (.int .i64 (C g n i : Nat)) ∧ w' = w := by
  have hcell := hc i hi
  have hin : ((i : Int) == (n : Int)) = false := by simp; omega
  have e0 : (g i == 34) = false := by simpa using h0
  have e1 : (g i == 123) = false := by simpa using h1
  have e2 : (g i == 91) = false := by simpa using h2
  go_enter Try.func21, Try.ntmps21
  go_wp2_with fail
  go_loop [1] (fun t => ∃ (k : Nat), k ≤ n ∧ t = .int .i64 k ∧ C g n k = C g n i) (fun t => n - (intOf t).toNat)
  case atStart => exact ⟨i, by omega, rfl, rfl⟩
  case round =>
    obtain ⟨k, hk, rfl, hC⟩ := hrel
    have HC : Hid (C g n k = C g n i) := hC
    clear hC hcell h0 h1 h2 e0 e1 e2 hin
    by_cases hlt : k < n
    · have hcell := hc k hlt
      by_cases c1 : isDelim (g k) = true
      · have HC2 : Hid (C g n k = k) := Skip.C_hit hlt c1
        have hd := delim_cases c1
        clear c1
        rcases hd with c | c | c | c | c | c | c
        all_goals
          go_wp2_with fail
          go_ret
          exact ⟨ret_int (by rw [← HC.out, HC2.out]), rfl⟩
      · simp only [Bool.not_eq_true] at c1
        have HC2 : Hid (C g n k = C g n (k + 1)) := Skip.C_else hlt c1
        obtain ⟨d1, d2, d3, d4, d5, d6, d7⟩ := delim_no c1
        clear c1
        go_wp2_with fail
        go_round
        case rel => exact ⟨k + 1, by omega, by go_num, by rw [← HC2.out]; exact HC.out⟩
        case measure => simp [intOf]; omega
    · go_wp2_with fail
      go_ret
      exact ⟨ret_int (by rw [← HC.out, Skip.C_end (by omega)]), rfl⟩

/-- A slice of bytes, whether or not it has any. -/
def Slice (w : World) (a : Option Addr) (n : Nat) (g : Nat → Int) : Prop := n = 0 ∨ ∃ b off, a = some ⟨b, off, none⟩ ∧ Bytes w b off n g

theorem skipValue_any (a : Option Addr) (n cap : Nat) (g : Nat → Int) (i : Nat) (w : World) (hn : n ≤ 1048576) (hi : i ≤ n) (hc : Slice w a n g) :
    Calls Try.prog 21 #[.slice a n cap, .int .i64 i] w fun e w' => e = .returned (.int .i64 (V g n i : Nat)) ∧ w' = w := by
  unfold V
  by_cases e : i = n
  · rw [if_pos e, e]; exact skipValue_end a n cap w
  · rw [if_neg e]
    rcases hc with hc | ⟨b, off, rfl, hc⟩
    · omega
    · split
      · exact skipValue_str b off n cap g i w hn (by omega) hc (by assumption)
      · split
        · exact skipValue_obj b off n cap g i w hn (by omega) hc (by assumption)
        · exact skipValue_scal b off n cap g i w hn (by omega) hc (by assumption) (by omega) (by omega)

theorem zzSkipValue_any (a : Option Addr) (n cap : Nat) (g : Nat → Int) (i : Nat) (w : World) (hn : n ≤ 1048576) (hi : i ≤ n) (hc : Slice w a n g) :
    Calls Try.prog 10 #[.slice a n cap, .int .i64 i] w fun e w' => e = .returned (.int .i64 (V g n i : Nat)) ∧ w' = w := by
  go_enter Try.func10, Try.ntmps10
  go_wp2_with (go_at_call 21; refine (skipValue_any a n cap g i _ hn hi hc).mono ?_; rintro e w' ⟨rfl, rfl⟩)
  go_ret
  exact ⟨rfl, rfl⟩

end Go.Proofs.Qxb6602337a
