/-
  THE WALK of FnOneStepPerLayerExtend (7).
-/
import Derived.Test.Qxb6602337aLayWalks
namespace Go.Proofs.Qxb6602337a.Lay
open Go.RowKit

/-- The longer lists. -/
def D2 (D : Nat → ByteArray) (n : Nat) (id : ByteArray) (j : Nat) : ByteArray := if j < n then D j else id
def T2 (T : Nat → Int) (n : Nat) (step : Int) (j : Nat) : Int := if j < n then T j else step
theorem D2_lt {D : Nat → ByteArray} {n : Nat} {id : ByteArray} {j : Nat} (h : j < n) : D2 D n id j = D j := by unfold D2; rw [if_pos h]
theorem D2_at {D : Nat → ByteArray} {n : Nat} {id : ByteArray} : D2 D n id n = id := by unfold D2; rw [if_neg (by omega)]
theorem T2_lt {T : Nat → Int} {n : Nat} {step : Int} {j : Nat} (h : j < n) : T2 T n step j = T j := by unfold T2; rw [if_pos h]
theorem T2_at {T : Nat → Int} {n : Nat} {step : Int} : T2 T n step n = step := by unfold T2; rw [if_neg (by omega)]

theorem one_ext (D : Nat → ByteArray) (T : Nat → Int) (size : Int) (nd ns : Nat) (id : ByteArray) (step : Int) (hs : -9223372036854775808 ≤ size) (hs' : size ≤ 9223372036854775807) :
    one (D2 D nd id) (T2 T ns step) (nd + 1) (ns + 1) (wrap64 (size + step)) = (one D T nd ns size && !(decide (0 < step) && isE id)) :=
  one_more D _ T _ size nd ns id step hs hs' (fun _ h => D2_lt h) (fun _ h => T2_lt h) D2_at T2_at

set_option maxHeartbeats 4000000 in
theorem extend_any (a1 a2 : Option Addr) (nd c1 ns c2 : Nat) (D : Nat → ByteArray) (T : Nat → Int) (size : Int) (id : ByteArray) (step : Int) (w : World)
    (hz1 : a1 = none → nd = 0 ∧ c1 = 0) (hz2 : a2 = none → ns = 0 ∧ c2 = 0) (h1 : Row w a1 nd (Strs D)) (h2 : Row w a2 ns (Ints T)) (hid : id.size ≤ maxLen) (hns : ns ≤ maxLen)
    (hs : -9223372036854775808 ≤ size) (hs' : size ≤ 9223372036854775807) :
    Calls Try.prog 7 #[.slice a1 nd c1, .slice a2 ns c2, .int .i64 size, .string id, .int .i64 step] w fun e w' => e = .returned (.bool true) ∧ Below w.heap.size w w' := by
  have HX : Hid (one (D2 D nd id) (T2 T ns step) (nd + 1) (ns + 1) (wrap64 (size + step)) = (one D T nd ns size && !(decide (0 < step) && isE id))) := one_ext D T size nd ns id step hs hs'
  clear hs hs'
  obtain ⟨i9, hi9, hz9, hs9, hb9⟩ := info_parts Try.info9
  obtain ⟨i2, hi2, hz2', hs2, hb2⟩ := info_parts Try.info2
  go_enter Try.func7, Try.ntmps7
  go_wp2_with fail
  refine (zzBytes_any a1 a2 nd ns c1 c2 D size id step _ hid hns h1).mono ?_
  rintro e w' ⟨⟨r, rfl, hr⟩, hw⟩
  subst hw
  cases r with
  | false =>
    go_wp2_with fail
    go_ret
    exact ⟨rfl, Below.refl _ _⟩
  | true =>
    obtain ⟨hnd, hns1, hid1⟩ := hr rfl
    clear hr hid hns
    by_cases hns2 : 131072 < ns
    · go_wp2_with fail
      go_ret
      exact ⟨rfl, Below.refl _ _⟩
    have f1 : decide ((131072 : Int) < (ns : Int)) = false := by simp; omega
    have f2 : decide ((1048576 : Int) < (id.size : Int)) = false := by simp; omega
    go_wp2_with fail
    refine (strBytes_any a1 nd c1 D _ hnd h1).mono ?_
    rintro e w' ⟨⟨m, rfl, hm1, hm2⟩, hw⟩
    subst hw
    by_cases ht : 1048576 < m + 8 * (ns : Int) + 16 + id.size
    · go_wp2_with fail
      go_ret
      exact ⟨rfl, Below.refl _ _⟩
    have f3 : decide ((1048576 : Int) < m + 8 * (ns : Int) + 16 + id.size) = false := by simp; omega
    go_wp2_with fail
    refine (cloneStrings_any a1 nd c1 D _ hnd hz1 h1).mono ?_
    rintro e w1 ⟨⟨a1', c1', rfl, r1⟩, b1⟩
    go_wp2_with fail
    refine (cloneInts_any a2 ns c2 T _ hns1 hz2 (h2.kept b1)).mono ?_
    rintro e w2 ⟨⟨a2', c2', rfl, r2⟩, b2⟩
    have r1' := r1.kept b2
    have bb : Below w'.heap.size w' w2 := b1.trans (b2.mono b1.size)
    clear r1 b1 b2 h1 h2 hz1 hz2 ht f1 f2
    go_wp2_with fail
    refine (zzOneStep_any none none 0 0 0 0 D T size _ (by omega) (.inl rfl) (.inl rfl)).mono ?_
    rw [one_none D T size]
    rintro e w' ⟨rfl, hw⟩
    subst hw
    have hsz : ((0 : Int) == size) = (size == 0) := by rw [Bool.eq_iff_iff]; simp only [beq_iff_eq]; omega
    rw [hsz]
    clear hsz f3
    generalize hz : (size == 0) = zb
    have hzz : (zb != zb) = false := by simp
    go_wp2_with fail
    refine (zzOneStep_any a1' a2' nd ns c1' c2' D T size _ (by omega) r1' r2).mono ?_
    have hbf : nd ≠ ns → one D T nd ns size = false := fun h => by unfold one; rw [if_neg (by omega)]
    have HX2 := HX.out
    clear HX
    generalize one D T nd ns size = bf at *
    have HX : Hid (one (D2 D nd id) (T2 T ns step) (nd + 1) (ns + 1) (wrap64 (size + step)) = (bf && !(decide (0 < step) && isE id))) := HX2
    clear HX2
    rintro e w' ⟨rfl, hw⟩
    subst hw
    have hok : ((nd : Int) != (ns : Int) && bf) = false := by
      by_cases hq : nd = ns
      · subst hq; simp
      · rw [hbf hq]; simp
    have hcs : (((nd : Int) != (ns : Int)) = false) ∨ (((nd : Int) != (ns : Int)) = true ∧ bf = false) := by
      by_cases hq : nd = ns
      · left; subst hq; simp
      · right; exact ⟨by simp; omega, hbf hq⟩
    clear hbf hok
    rcases hcs with hne | ⟨hne, rfl⟩
    all_goals
      go_wp2_with (at_make; refine wpList_make_full _ rfl _ _ 27 rfl w'.heap.size 9 i9 (.string ByteArray.empty) 1 Try.underlying27 hi9 hz9 hs9 _ _ _ _ (nd + 1) rfl rfl (by omega) (by omega) (by rw [hb9]; omega) (by unfold maxLen; omega) (Nat.le_refl _) ?_)
      intro w3 hown hgrow
      have h0 : Cloned w' w3 9 (nd + 1) 0 (Strs (D2 D nd id)) := ⟨_, hown, fun j hj => by omega, (Below.refl _ w').grown hgrow (Nat.le_refl _) (fun k hk => by cases hk)⟩
      clear hown hgrow
      go_wp2_with fail
      go_loopw [13] (fun t wr => ∃ k : Nat, k ≤ nd ∧ t = .int .i64 k ∧ Cloned w' wr 9 (nd + 1) k (Strs (D2 D nd id))) (fun t _ => nd - (intOf t).toNat)
      case atStart => exact ⟨0, by omega, rfl, h0⟩
      case round =>
        obtain ⟨k, hk, rfl, hr⟩ := hrel
        clear h0
        by_cases hlt : k < nd
        · rcases r1' with r1' | ⟨b, o, rfl, r1'⟩
          · omega
          · have q1 := hr.old (r1' k hlt)
            simp only [Strs] at q1
            obtain ⟨⟨u, q2⟩, q3⟩ := hr.here k (by omega)
            have H4 : Hid (Cloned w' (wr.setCell ⟨w'.heap.size, k, none⟩ (.string (D k))) 9 (nd + 1) (k + 1) (Strs (D2 D nd id))) := hr.step (by omega) (by simp only [Strs]; rw [D2_lt hlt])
            go_wp2_with fail
            go_roundw
            case rel => exact ⟨k + 1, by omega, by go_num, H4.out⟩
            case measure => simp [intOf]; omega
        · have hkn : k = nd := by omega
          subst hkn
          obtain ⟨⟨u, q2⟩, q3⟩ := hr.here k (by omega)
          have H4 : Hid (Cloned w' (wr.setCell ⟨w'.heap.size, k, none⟩ (.string id)) 9 (k + 1) (k + 1) (Strs (D2 D k id))) := hr.step (by omega) (by simp only [Strs]; rw [D2_at])
          clear r1' hr
          go_wp2_with (at_make; have H5 := H4.out; generalize wr.setCell ⟨w'.heap.size, k, none⟩ (Value.string id) = w4 at H5 ⊢; refine wpList_make_full _ rfl _ _ 28 rfl w4.heap.size 2 i2 (.int .i64 0) 1 Try.underlying28 hi2 hz2' hs2 _ _ _ _ (ns + 1) rfl rfl (by omega) (by omega) (by rw [hb2]; omega) (by unfold maxLen; omega) (Nat.le_refl _) ?_)
          clear H4 q2 q3
          have r4 : Row w4 a2' ns (Ints T) := r2.kept H5.below
          have b4 := bb.trans (H5.below.mono bb.size)
          have rD := H5.row
          clear r2 bb H5
          intro w5 hown hgrow
          have h0 : Cloned w4 w5 2 (ns + 1) 0 (Ints (T2 T ns step)) := ⟨_, hown, fun j hj => by omega, (Below.refl _ w4).grown hgrow (Nat.le_refl _) (fun k hk => by cases hk)⟩
          clear hown hgrow
          go_wp2_with fail
          go_loopw [15] (fun t wr => ∃ i : Nat, i ≤ ns ∧ t = .int .i64 i ∧ Cloned w4 wr 2 (ns + 1) i (Ints (T2 T ns step))) (fun t _ => ns - (intOf t).toNat)
          case atStart => exact ⟨0, by omega, rfl, h0⟩
          case round =>
            obtain ⟨i, hi, rfl, hr⟩ := hrel
            clear h0
            by_cases hlt2 : i < ns
            · rcases r4 with r4 | ⟨b, o, rfl, r4⟩
              · omega
              · have q1 := hr.old (r4 i hlt2)
                simp only [Ints] at q1
                obtain ⟨⟨u, q2⟩, q3⟩ := hr.here i (by omega)
                rename World => wr2
                have H4 : Hid (Cloned w4 (wr2.setCell ⟨w4.heap.size, i, none⟩ (.int .i64 (T i))) 2 (ns + 1) (i + 1) (Ints (T2 T ns step))) := hr.step (by omega) (by simp only [Ints]; rw [T2_lt hlt2])
                go_wp2_with fail
                go_roundw
                case rel => exact ⟨i + 1, by omega, by go_num, H4.out⟩
                case measure => simp [intOf]; omega
            · have hin : i = ns := by omega
              subst hin
              rename World => wr2
              obtain ⟨⟨u, q2⟩, q3⟩ := hr.here i (by omega)
              have H4 := hr.step (v := .int .i64 step) (show i < i + 1 by omega) (by simp only [Ints]; rw [T2_at])
              have H5 : Hid (Below w4.heap.size w4 (wr2.setCell ⟨w4.heap.size, i, none⟩ (.int .i64 step))) := H4.below
              have H6 : Hid (Row (wr2.setCell ⟨w4.heap.size, i, none⟩ (.int .i64 step)) (some ⟨w4.heap.size, 0, none⟩) (i + 1) (Ints (T2 T i step))) := H4.row
              have H7 : Hid (Row (wr2.setCell ⟨w4.heap.size, i, none⟩ (.int .i64 step)) (some ⟨w'.heap.size, 0, none⟩) (k + 1) (Strs (D2 D k id))) := rD.kept H4.below
              clear H4 r4 hr
              have HX2 := HX.out
              clear HX
              have hstc : (0 < step ∧ decide (0 < step) = true) ∨ (decide (0 < step) = false) := by
                by_cases hst : 0 < step
                · exact .inl ⟨hst, by simpa using hst⟩
                · exact .inr (by simpa using hst)
              have hEc : (isE id = true) ∨ (isE id = false) := by cases isE id <;> simp
              rcases hstc with ⟨hst, hst'⟩ | hst' <;> rcases hEc with hE | hE <;> rw [hst', hE] at HX2 <;> (try cases bf)
              all_goals
                have HF : Hid _ := HX2
                clear HX2
                first | have hE' := isE_yes hE | have hE' := isE_no hE
                clear hE
                go_wp2_with fail
                refine (zzOneStep_any (some ⟨w'.heap.size, 0, none⟩) (some ⟨w4.heap.size, 0, none⟩) (k + 1) (i + 1) (k + 1) (i + 1) (D2 D k id) (T2 T i step) (wrap64 (size + step)) _ (by omega) H7.out H6.out).mono ?_
                rw [HF.out]
                rintro e w9 ⟨rfl, hw⟩
                subst hw
                go_wp2_with fail
                go_ret
                exact ⟨ret_bool (by rfl), b4.trans (H5.out.mono b4.size)⟩

end Go.Proofs.Qxb6602337a.Lay
