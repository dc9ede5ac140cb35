/-
  THE WALKS of ldhClass (13), ldhGrammar (8), dnsLabel (12), ZZDNSLabel (7), zzBytes (6), FnDNSLabelIsLDHGrammar (3).
-/
import Derived.Test.Qxb6602378aRows
import Derived.WalkKit
import Derived.Outline
import Derived.ProofKit
import Derived.Below
import Derived.Lib.ConvBytes
import Derived.Test.Qxb6602378aLabel
namespace Go.Proofs.Qxb6602378a
open Go.RowKit
open Label (cls OK Says)

theorem ret_int {k : IntKind} {a b : Int} (h : a = b) : Ending.returned (.int k a) = .returned (.int k b) := by rw [h]

theorem ldhClass_any (x : UInt8) (w : World) :
    Calls Try.prog 13 #[.int .u8 (x.toNat : Int)] w fun e w' => e = .returned (.int .i64 (cls x.toNat)) ∧ w' = w := by
  have hx := x.toNat_lt
  have hy := Label.or32 x
  have HY : Hid ((97 ≤ bits .or .u8 (x.toNat : Int) 32 ∧ bits .or .u8 (x.toNat : Int) 32 ≤ 122) ↔ ((97 ≤ x.toNat ∧ x.toNat ≤ 122) ∨ (65 ≤ x.toNat ∧ x.toNat ≤ 90))) := hy
  clear hy
  go_enter Try.func13, Try.ntmps13
  go_wp2
  all_goals
    go_ret
    refine ⟨ret_int ?_, rfl⟩
    have hy := HY.out
    clear HY
    try simp only [beq_iff_eq, beq_eq_false_iff_ne] at *
    first
    | (rw [Label.cls_one (by omega)]; done)
    | (rw [Label.cls_two (by omega)]; done)
    | (rw [Label.cls_nil (by omega) (by omega)]; done)

/-- The byte at place j, and its class. -/
def at_ (s : ByteArray) (j : Nat) : UInt8 := s.data.toList.getD j 0
def cl (s : ByteArray) (j : Nat) : Int := cls (at_ s j).toNat
theorem at_eq (s : ByteArray) (j : Nat) (h : j < s.size) : s[j] = at_ s j := by
  unfold at_
  have : j < s.data.toList.length := by simpa using h
  rw [List.getD_eq_getElem?_getD, List.getElem?_eq_getElem this]
  rfl

set_option maxHeartbeats 1000000 in
theorem grammar_any (s : ByteArray) (w : World) (hs : s.size ≤ 65536) :
    Calls Try.prog 8 #[.string s] w fun e w' => Says (OK s.size (cl s)) e ∧ w' = w := by
  go_enter Try.func8, Try.ntmps8
  go_wp2
  go_loop [3, 4] (fun t i => ∃ (k : Nat) (st : Int), k ≤ s.size ∧ k ≤ 63 ∧ i = .int .i64 k ∧ t = .int .i64 st ∧ (k = 0 → st = 0) ∧ (0 < k → st = cl s (k - 1) ∧ cl s 0 ≠ 2) ∧ ∀ j, j < k → cl s j ≠ 0) (fun _ i => s.size - (intOf i).toNat)
  case atStart => exact ⟨0, 0, by omega, by omega, rfl, rfl, fun _ => rfl, fun h => by omega, fun j h => by omega⟩
  case round =>
    obtain ⟨k, st, hk, hk2, rfl, rfl, h0, h1, h2⟩ := hrel
    have H0 : Hid (k = 0 → st = 0) := h0
    have H1 : Hid (0 < k → st = cl s (k - 1) ∧ cl s 0 ≠ 2) := h1
    have H2 : Hid (∀ j, j < k → cl s j ≠ 0) := h2
    clear h0 h1 h2
    by_cases hlt : k < s.size
    · by_cases h63 : 63 ≤ k
      · go_wp2_with fail
        go_ret
        exact ⟨⟨false, rfl, by simp only [Bool.false_eq_true, false_iff]; intro h; have := h.2.1; omega⟩, rfl⟩
      · have HC : Hid (s[k] = at_ s k) := at_eq s k hlt
        go_wp2_with fail
        rw [HC.out]
        refine (ldhClass_any _ _).mono ?_
        have HK : Hid (cl s k = cls (at_ s k).toNat) := rfl
        rw [← HK.out]
        rintro e w' ⟨rfl, rfl⟩
        generalize hc : cl s k = c
        have HCL : Hid (cl s k = c) := hc
        clear hc
        have c012 : c = 0 ∨ c = 1 ∨ c = 2 := by rw [← HCL.out]; exact Label.cls_012 _
        rcases c012 with rfl | rfl | rfl
        · go_wp2_with fail
          go_ret
          exact ⟨⟨false, rfl, by simp only [Bool.false_eq_true, false_iff]; intro h; exact h.2.2.2.2 k hlt HCL.out⟩, rfl⟩
        · go_wp2_with fail
          go_round
          case rel =>
            refine ⟨k + 1, 1, by omega, by omega, by go_num, rfl, fun h => by omega, fun _ => ⟨HCL.out.symm, ?_⟩, fun j hj => ?_⟩
            · by_cases e : k = 0
              · subst e; rw [HCL.out]; omega
              · exact (H1.out (by omega)).2
            · by_cases e : j = k
              · rw [e, HCL.out]; omega
              · exact H2.out j (by omega)
          case measure => simp [intOf]; omega
        · by_cases e : st = 0
          · have hk0 : k = 0 := by
              by_cases e' : k = 0
              · exact e'
              · have h3 := (H1.out (by omega)).1
                have h4 := H2.out (k - 1) (by omega)
                omega
            have HK0 : Hid (k = 0) := hk0
            clear hk0
            subst e
            go_wp2_with fail
            go_ret
            exact ⟨⟨false, rfl, by simp only [Bool.false_eq_true, false_iff]; intro h; exact h.2.2.1 (by rw [← HCL.out, HK0.out])⟩, rfl⟩
          · have hk0 : 0 < k := by
              by_cases e' : k = 0
              · exact absurd (H0.out e') e
              · omega
            have hst : (st == 0) = false := by simpa using e
            go_wp2_with fail
            go_round
            case rel =>
              refine ⟨k + 1, 2, by omega, by omega, by go_num, rfl, fun h => by omega, fun _ => ⟨HCL.out.symm, (H1.out hk0).2⟩, fun j hj => ?_⟩
              by_cases e : j = k
              · rw [e, HCL.out]; omega
              · exact H2.out j (by omega)
            case measure => simp [intOf]; omega
    · have hkn : s.size = k := by omega
      have HKN : Hid (s.size = k) := hkn
      clear hkn
      go_wp2_with fail
      go_ret
      refine ⟨⟨st == 1, rfl, ?_⟩, rfl⟩
      rw [HKN.out, beq_iff_eq]
      unfold OK
      by_cases e : k = 0
      · rw [H0.out e]; constructor
        · intro h; omega
        · intro h; omega
      · obtain ⟨g1, g2⟩ := H1.out (by omega)
        have g3 := Label.cls_012 (at_ s (k - 1)).toNat
        have g4 : cl s (k - 1) = cls (at_ s (k - 1)).toNat := rfl
        have g5 := H2.out (k - 1) (by omega)
        constructor
        · intro h; exact ⟨by omega, by omega, g2, by omega, H2.out⟩
        · intro h; have := h.2.2.2.1; omega

theorem dns_zero (w : World) :
    Calls Try.prog 12 #[.string ByteArray.empty] w fun e w' => e = .returned (.bool false) ∧ w' = w := by
  go_enter Try.func12, Try.ntmps12
  go_wp2
  go_ret
  exact ⟨rfl, rfl⟩

theorem dns_long (s : ByteArray) (w : World) (h : 63 < s.size) :
    Calls Try.prog 12 #[.string s] w fun e w' => e = .returned (.bool false) ∧ w' = w := by
  have h0 : ((s.size : Int) == 0) = false := by rw [beq_eq_false_iff_ne]; omega
  have h1 : decide ((63 : Int) < (s.size : Int)) = true := by simp; omega
  go_enter Try.func12, Try.ntmps12
  go_wp2
  go_ret
  exact ⟨rfl, rfl⟩

theorem dns_first (s : ByteArray) (w : World) (h : s.size ≤ 63) (hp : 0 < s.size) (hf : ((s[0]'hp).toNat : Int) = 45) :
    Calls Try.prog 12 #[.string s] w fun e w' => e = .returned (.bool false) ∧ w' = w := by
  have h0 : ((s.size : Int) == 0) = false := by rw [beq_eq_false_iff_ne]; omega
  have h1 : decide ((63 : Int) < (s.size : Int)) = false := by simp; omega
  go_enter Try.func12, Try.ntmps12
  go_wp2
  go_ret
  exact ⟨rfl, rfl⟩

theorem dns_last (s : ByteArray) (w : World) (h : s.size ≤ 63) (hp : 0 < s.size) (hf : (((s[0]'hp).toNat : Int) == 45) = false) (hl : ((s[s.size - 1]'(by omega)).toNat : Int) = 45) :
    Calls Try.prog 12 #[.string s] w fun e w' => e = .returned (.bool false) ∧ w' = w := by
  have h0 : ((s.size : Int) == 0) = false := by rw [beq_eq_false_iff_ne]; omega
  have h1 : decide ((63 : Int) < (s.size : Int)) = false := by simp; omega
  go_enter Try.func12, Try.ntmps12
  go_wp2
  go_ret
  exact ⟨rfl, rfl⟩

theorem below_bytes (w : World) (s : ByteArray) : Below w.heap.size w (Lib.bytesWorld w 5 s) :=
  ⟨rfl, rfl, rfl, by rw [Lib.bytesWorld_size]; omega, fun k hk => Lib.bytesWorld_at_old w 5 s k hk⟩

set_option maxHeartbeats 2000000 in
theorem dns_run (s : ByteArray) (w : World) (h : s.size ≤ 63) (hp : 0 < s.size) (hf : (((s[0]'hp).toNat : Int) == 45) = false) (hl : (((s[s.size - 1]'(by omega)).toNat : Int) == 45) = false) (ha : cl s 0 ≠ 2) (hb : cl s (s.size - 1) ≠ 2) :
    Calls Try.prog 12 #[.string s] w fun e w' => Says (OK s.size (cl s)) e ∧ Below w.heap.size w w' := by
  have h0 : ((s.size : Int) == 0) = false := by rw [beq_eq_false_iff_ne]; omega
  have h1 : decide ((63 : Int) < (s.size : Int)) = false := by simp; omega
  have hcv := fun wx => Lib.run_convert_string_bytes (P := Try.prog) wx 9 26 5 s Try.underlying9 Try.underlying26 Try.underlying5
  have HA : Hid (cl s 0 ≠ 2) := ha
  have HB : Hid (cl s (s.size - 1) ≠ 2) := hb
  clear ha hb
  go_enter Try.func12, Try.ntmps12
  go_wp2
  clear hcv h0 h1 hf hl
  have hbel := below_bytes w s
  have hcells := fun j hj => Lib.bytesWorld_cell w 5 s j hj
  generalize Lib.bytesWorld w 5 s = w1 at *
  have HCS : Hid (∀ j, j < s.size → w1.cell? ⟨w.heap.size, j, none⟩ = some (.int .u8 (at_ s j).toNat)) := hcells
  clear hcells
  go_loop [29] (fun i => ∃ (k : Nat), k ≤ s.size ∧ i = .int .i64 k ∧ ∀ j, j < k → cl s j ≠ 0) (fun i => s.size - (intOf i).toNat)
  case atStart => exact ⟨0, by omega, rfl, fun j h => by omega⟩
  case round =>
    obtain ⟨k, hk, rfl, h2⟩ := hrel
    have H2 : Hid (∀ j, j < k → cl s j ≠ 0) := h2
    clear h2
    by_cases hlt : k < s.size
    · have hcell := HCS.out k hlt
      have HK : Hid (cl s k = cls (at_ s k).toNat) := rfl
      have hx := (at_ s k).toNat_lt
      generalize (at_ s k).toNat = x at *
      by_cases hz : cls x = 0
      · have g1 : ¬ ((97 : Int) ≤ x ∧ (x : Int) ≤ 122) := fun h => by rw [Label.cls_one (by omega)] at hz; omega
        have g2 : ¬ ((65 : Int) ≤ x ∧ (x : Int) ≤ 90) := fun h => by rw [Label.cls_one (by omega)] at hz; omega
        have g3 : ¬ ((48 : Int) ≤ x ∧ (x : Int) ≤ 57) := fun h => by rw [Label.cls_one (by omega)] at hz; omega
        have g4 : ¬ ((x : Int) = 45) := fun h => by rw [Label.cls_two (by omega)] at hz; omega
        have g5 : ((x : Int) == 45) = false := by simpa using g4
        have HZ : Hid (cls x = 0) := hz
        clear hz
        have gr : (x : Int) < 45 ∨ (45 < (x : Int) ∧ (x : Int) < 48) ∨ (57 < (x : Int) ∧ (x : Int) < 65) ∨ (90 < (x : Int) ∧ (x : Int) < 97) ∨ 122 < (x : Int) := by omega
        clear g1 g2 g3 g4
        rcases gr with g | ⟨g, g'⟩ | ⟨g, g'⟩ | ⟨g, g'⟩ | g
        all_goals
          first | have d1 : decide ((x : Int) ≤ 57) = true := decide_eq_true (by omega) | have d1 : decide ((x : Int) ≤ 57) = false := decide_eq_false (by omega)
          first | have d2 : decide ((x : Int) ≤ 90) = true := decide_eq_true (by omega) | have d2 : decide ((x : Int) ≤ 90) = false := decide_eq_false (by omega)
          first | have d3 : decide ((x : Int) ≤ 122) = true := decide_eq_true (by omega) | have d3 : decide ((x : Int) ≤ 122) = false := decide_eq_false (by omega)
          go_wp2
          go_ret
          exact ⟨⟨false, rfl, by simp only [Bool.false_eq_true, false_iff]; intro h; exact h.2.2.2.2 k hlt (by rw [HK.out]; exact HZ.out)⟩, hbel⟩
      · have gr : ((97 : Int) ≤ x ∧ (x : Int) ≤ 122) ∨ ((65 : Int) ≤ x ∧ (x : Int) ≤ 90) ∨ ((48 : Int) ≤ x ∧ (x : Int) ≤ 57) ∨ (x : Int) = 45 := by
          by_cases c : (97 ≤ x ∧ x ≤ 122) ∨ (65 ≤ x ∧ x ≤ 90) ∨ (48 ≤ x ∧ x ≤ 57)
          · omega
          · by_cases c' : x = 45
            · omega
            · exact absurd (Label.cls_nil c c') hz
        have HZ : Hid (¬ cls x = 0) := hz
        clear hz
        rcases gr with ⟨g, g'⟩ | ⟨g, g'⟩ | ⟨g, g'⟩ | g
        all_goals
          go_wp2
          go_round
          case rel =>
            refine ⟨k + 1, by omega, by go_num, fun j hj => ?_⟩
            by_cases e : j = k
            · rw [e, HK.out]; exact HZ.out
            · exact H2.out j (by omega)
          case measure => simp [intOf]; omega
    · go_wp2
      go_ret
      refine ⟨⟨true, rfl, ?_⟩, hbel⟩
      have hkn : k = s.size := by omega
      subst hkn
      exact ⟨fun _ => ⟨by omega, by omega, HA.out, HB.out, H2.out⟩, fun _ => rfl⟩

theorem says_false {p : Prop} (h : ¬ p) : Says p (.returned (.bool false)) := ⟨false, rfl, by simp [h]⟩

theorem dns_any (s : ByteArray) (w : World) :
    Calls Try.prog 12 #[.string s] w fun e w' => Says (OK s.size (cl s)) e ∧ Below w.heap.size w w' := by
  by_cases h : 63 < s.size
  · exact (dns_long s w h).mono fun e w' ⟨he, hw⟩ => ⟨by rw [he]; exact says_false (fun h' => by have := h'.2.1; omega), by rw [hw]; exact Below.refl _ _⟩
  by_cases hp : 0 < s.size
  · have e0 : s[0] = at_ s 0 := at_eq s 0 hp
    have e1 : s[s.size - 1]'(by omega) = at_ s (s.size - 1) := at_eq s (s.size - 1) (by omega)
    by_cases hf : ((s[0]'hp).toNat : Int) = 45
    · have h3 : cl s 0 = 2 := by rw [e0] at hf; exact (Label.cls_two_iff _).2 (by omega)
      exact (dns_first s w (by omega) hp hf).mono fun e w' ⟨he, hw⟩ => ⟨by rw [he]; exact says_false (fun h' => h'.2.2.1 h3), by rw [hw]; exact Below.refl _ _⟩
    · by_cases hl : ((s[s.size - 1]'(by omega)).toNat : Int) = 45
      · have h3 : cl s (s.size - 1) = 2 := by rw [e1] at hl; exact (Label.cls_two_iff _).2 (by omega)
        exact (dns_last s w (by omega) hp (by simpa using hf) hl).mono fun e w' ⟨he, hw⟩ => ⟨by rw [he]; exact says_false (fun h' => h'.2.2.2.1 h3), by rw [hw]; exact Below.refl _ _⟩
      · refine dns_run s w (by omega) hp (by simpa using hf) (by simpa using hl) ?_ ?_
        · intro h'; rw [e0] at hf; have := (Label.cls_two_iff _).1 h'; omega
        · intro h'; rw [e1] at hl; have := (Label.cls_two_iff _).1 h'; omega
  · have hs : s = ByteArray.empty := by
      have : s.size = 0 := by omega
      exact ByteArray.size_eq_zero_iff.1 this
    subst hs
    exact (dns_zero w).mono fun e w' ⟨he, hw⟩ => ⟨by rw [he]; exact says_false (fun h' => by have := h'.1; simp at this), by rw [hw]; exact Below.refl _ _⟩

theorem zzDns_any (s : ByteArray) (w : World) :
    Calls Try.prog 7 #[.string s] w fun e w' => Says (OK s.size (cl s)) e ∧ Below w.heap.size w w' := by
  go_enter Try.func7, Try.ntmps7
  go_wp2_with fail
  refine (dns_any s _).mono ?_
  rintro e w' ⟨⟨r, rfl, hr⟩, hb⟩
  have HR : Hid (r = true ↔ OK s.size (cl s)) := hr
  clear hr
  go_wp2_with fail
  go_ret
  exact ⟨⟨r, rfl, HR.out⟩, hb⟩

theorem bytes6_no (s : ByteArray) (w : World) (h : 1048576 < s.size) :
    Calls Try.prog 6 #[.string s] w fun e w' => e = .returned (.bool false) ∧ w' = w := by
  go_enter Try.func6, Try.ntmps6
  go_wp2
  go_ret
  exact ⟨rfl, rfl⟩

theorem bytes6_yes (s : ByteArray) (w : World) (h : s.size ≤ 1048576) :
    Calls Try.prog 6 #[.string s] w fun e w' => e = .returned (.bool true) ∧ w' = w := by
  go_enter Try.func6, Try.ntmps6
  go_wp2
  go_ret
  exact ⟨rfl, rfl⟩

theorem law_any (s : ByteArray) (w : World) :
    Calls Try.prog 3 #[.string s] w fun e w' => e = .returned (.bool true) ∧ Below w.heap.size w w' := by
  by_cases h : 1048576 < s.size
  · go_enter Try.func3, Try.ntmps3
    go_wp2_with (go_at_call 6; refine (bytes6_no s _ h).mono ?_; rintro e w' ⟨rfl, hw⟩; subst hw)
    go_ret
    exact ⟨rfl, Below.refl _ _⟩
  by_cases h2 : 65536 < s.size
  · go_enter Try.func3, Try.ntmps3
    go_wp2_with (go_at_call 6; refine (bytes6_yes s _ (by omega)).mono ?_; rintro e w' ⟨rfl, hw⟩; subst hw)
    go_ret
    exact ⟨rfl, Below.refl _ _⟩
  go_enter Try.func3, Try.ntmps3
  go_wp2_with (go_at_call 6; refine (bytes6_yes s _ (by omega)).mono ?_; rintro e w' ⟨rfl, hw⟩; subst hw)
  refine (zzDns_any s _).mono ?_
  rintro e w1 ⟨⟨r, rfl, hr⟩, hb⟩
  have HR : Hid (r = true ↔ OK s.size (cl s)) := hr
  clear hr
  go_wp2_with fail
  refine (grammar_any s _ (by omega)).mono ?_
  rintro e w2 ⟨⟨r2, rfl, hr2⟩, hw⟩
  subst hw
  have hrr : r2 = r := by rw [Bool.eq_iff_iff, hr2]; exact HR.out.symm
  clear hr2
  subst hrr
  go_wp2_with fail
  go_ret
  exact ⟨by simp, hb⟩

end Go.Proofs.Qxb6602378a
