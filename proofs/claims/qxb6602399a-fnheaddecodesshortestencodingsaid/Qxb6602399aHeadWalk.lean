/-
  THE WALK of FnHeadDecodesShortestEncoding (3).
-/
import Derived.Test.Qxb6602399aZZWalks
import Derived.Test.Qxb6602399aBoolWalk
import Derived.Test.Qxb6602399aEncode
namespace Go.Proofs.Qxb6602399a
open Go.RowKit

/-- The buffer: its first k cells hold the bytes ys; nothing that was there before the call has turned. -/
structure Buf (w wr : World) (cap k : Nat) (ys : List Int) : Prop where
  own : wr.ownsRow w.heap.size 5 1 (.slice (some ⟨w.heap.size, 0, none⟩) k cap) k (ys.map (Value.int .u8))
  below : Below w.heap.size w wr

theorem Buf.old {w wr : World} {cap k : Nat} {ys : List Int} (h : Buf w wr cap k ys) {a : Addr} {v : Value} (hc : w.cell? a = some v) : wr.cell? a = some v := by
  rw [h.below.cell (block_lt_of_cell hc)]; exact hc

theorem Buf.app {w wr w1 : World} {cap k : Nat} {ys : List Int} {x : Int} {o : Obj} (h : Buf w wr cap k ys) (ho : w1.ownsRow w.heap.size 5 1 (.slice (some ⟨w.heap.size, 0, none⟩) (k + 1) cap) (k + 1) (ys.map (Value.int .u8) ++ [.int .u8 x]))
    (hg : (wr.alloc o).grownBy w1 (some w.heap.size)) : Buf w w1 cap (k + 1) (ys ++ [x]) := by
  refine ⟨by rw [List.map_append]; exact ho, (h.below.alloc h.below.size _).grown hg ?_ ?_⟩
  · have := h.below.size; simp; omega
  · intro j hj; cases hj; exact Nat.le_refl _

theorem new_cell (w : World) (x : Value) (t : TypeId) : ∀ j u, [x][j]? = some u → (w.alloc (.cells #[x] t)).cell? ((⟨w.heap.size, 0, none⟩ : Addr).add j) = some u := by
  intro j u hj
  match j, hj with
  | 0, hj => simp at hj; subst hj; simp [Addr.add]

theorem one_cell (x : Int) : ∀ u ∈ [Value.int .u8 x], u.oneCell' = true := by
  intro u hu; simp at hu; subst hu; rfl

theorem bytes5_no (a0 a3 : Option Addr) (n0 c0 n3 c3 : Nat) (m v : Int) (w : World) (h0 : n0 ≤ 9223372036854775807) (h3 : n3 ≤ 9223372036854775807) (h : 1048576 < n0 + n3) :
    Calls Try.prog 5 #[.slice a0 n0 c0, .int .u8 m, .int .u64 v, .slice a3 n3 c3] w fun e w' => e = .returned (.bool false) ∧ w' = w := by
  by_cases h1 : 1048576 < n0
  · go_enter Try.func5, Try.ntmps5
    go_wp2
    go_ret
    exact ⟨rfl, rfl⟩
  by_cases h2 : 1048576 < n3
  · go_enter Try.func5, Try.ntmps5
    go_wp2
    go_ret
    exact ⟨rfl, rfl⟩
  go_enter Try.func5, Try.ntmps5
  go_wp2
  go_ret
  exact ⟨rfl, rfl⟩

theorem bytes5_yes (a0 a3 : Option Addr) (n0 c0 n3 c3 : Nat) (m v : Int) (w : World) (h : n0 + n3 ≤ 1048576) :
    Calls Try.prog 5 #[.slice a0 n0 c0, .int .u8 m, .int .u64 v, .slice a3 n3 c3] w fun e w' => e = .returned (.bool true) ∧ w' = w := by
  go_enter Try.func5, Try.ntmps5
  go_wp2
  go_ret
  exact ⟨rfl, rfl⟩

theorem Buf.data {w wr : World} {cap k : Nat} {ys : List Int} (h : Buf w wr cap k ys) (hk : k ≤ 2000000) (hkc : k ≤ cap) (hk0 : 0 < k) (hr : ∀ x ∈ ys, 0 ≤ x ∧ x ≤ 255) : Data wr (some ⟨w.heap.size, 0, none⟩) k cap (fun j => ys.getD j 0) := by
  have hl : ys.length = k := by simpa using h.own.1
  have hc : ∀ j, j < k → wr.cell? ⟨w.heap.size, 0 + j, none⟩ = some (.int .u8 (ys.getD j 0)) := by
    intro j hj
    rw [Nat.zero_add, h.own.cellAt j (by omega), List.getElem?_map, List.getD_eq_getElem?_getD, List.getElem?_eq_getElem (by omega)]
    rfl
  refine ⟨hk, hkc, fun j hj => hr _ ?_, .inr ⟨_, _, rfl, block_lt_of_cell (hc 0 hk0), hc⟩⟩
  show ys.getD j 0 ∈ ys
  rw [List.getD_eq_getElem?_getD, List.getElem?_eq_getElem (by omega)]
  simp

theorem bytes_ok {g0 g3 : Nat → Int} {k n3 : Nat} {x : Int} {l : List Int} (h0 : ∀ j, j < k → 0 ≤ g0 j ∧ g0 j ≤ 255) (h3 : ∀ j, j < n3 → 0 ≤ g3 j ∧ g3 j ≤ 255) (hx : 0 ≤ x ∧ x ≤ 255) (hl : ∀ y ∈ l, 0 ≤ y ∧ y ≤ 255) :
    ∀ y ∈ pre g0 k ++ [x] ++ l ++ pre g3 n3, 0 ≤ y ∧ y ≤ 255 := by
  intro y hy
  rw [List.mem_append, List.mem_append, List.mem_append, List.mem_singleton] at hy
  rcases hy with ((hy | rfl) | hy) | hy
  · obtain ⟨j, hj, rfl⟩ := pre_mem _ _ _ hy; exact h0 j hj
  · exact hx
  · exact hl y hy
  · obtain ⟨j, hj, rfl⟩ := pre_mem _ _ _ hy; exact h3 j hj

set_option maxHeartbeats 4000000 in
theorem head_law_0 (a0 a3 : Option Addr) (n0 c0 n3 c3 : Nat) (g0 g3 : Nat → Int) (m v : Int) (w : World) (hd0 : Data w a0 n0 c0 g0) (hd3 : Data w a3 n3 c3 g3) (hs : n0 + n3 ≤ 1048576)
    (hm0 : 0 ≤ m) (hm1 : m ≤ 255) (hm : m % 32 = 0) (hv0 : 0 ≤ v) (hv1 : v < 24) :
    Calls Try.prog 3 #[.slice a0 n0 c0, .int .u8 m, .int .u64 v, .slice a3 n3 c3] w fun e w' => e = .returned (.bool true) ∧ Below w.heap.size w w' := by
  have HOUT : Hid (headOut (fun j => (pre g0 n0 ++ [bits .or .u8 m v] ++ pre g3 n3).getD j 0) (n0 + 1 + n3) n0 false m = (v, (n0 : Int) + 1, false)) := headOut_short g0 g3 n0 n3 m v hm0 hm1 hm hv0 hv1
  have HOK : Hid (∀ y ∈ pre g0 n0 ++ [bits .or .u8 m v] ++ pre g3 n3, 0 ≤ y ∧ y ≤ 255) := by unfold Hid; have := bytes_ok (l := []) hd0.2.2.1 hd3.2.2.1 (x := bits .or .u8 m v) (by rw [(or_parts m v hm0 hm1 hm (by omega) (by omega)).1]; omega) (fun y hy => by cases hy); simpa using this
  have p1 : decide ((1048576 : Int) < (n0 : Int)) = false := decide_eq_false (by omega)
  have p2 : decide ((1048576 : Int) < (n3 : Int)) = false := decide_eq_false (by omega)
  have p3 : decide ((1048576 : Int) < (n0 : Int) + (n3 : Int)) = false := decide_eq_false (by omega)
  have t0 : decide (v < 24) = true := decide_eq_true (by omega)
  have p4 : (m % 32 != 0) = false := by simpa using hm
  obtain ⟨i0, hi, hz0, hz1, hz2⟩ := info_parts Try.info5
  have HN : ((n0 + 9 + n3 : Nat) : Int) = (n0 : Int) + 9 + n3 := by omega
  go_enter Try.func3, Try.ntmps3
  go_wp2_with (first
    | (go_at_call 5; refine (bytes5_yes a0 a3 n0 c0 n3 c3 m v _ hs).mono ?_; rintro e w' ⟨rfl, hw⟩; subst hw)
    | (at_make; refine wpList_make_own _ rfl _ _ 22 rfl _ 5 i0 (.int .u8 0) 1 Try.underlying22 hi hz0 hz1 _ _ _ (n0 + 9 + n3) rfl rfl (by omega) (by rw [hz2]; omega) (by unfold maxLen; omega) (Nat.le_refl _) ?_))
  intro w1 hown hgrow
  have hb0 : Buf w' w1 (n0 + 9 + n3) 0 (pre g0 0) := ⟨hown, (Below.refl _ w').grown hgrow (Nat.le_refl _) (fun k hk => by cases hk)⟩
  clear hown hgrow HN p4
  go_wp2_with fail
  go_loopw [9, 10] (fun t i wr => ∃ k : Nat, k ≤ n0 ∧ i = .int .i64 k ∧ t = .slice (some ⟨w'.heap.size, 0, none⟩) k (n0 + 9 + n3) ∧ Buf w' wr (n0 + 9 + n3) k (pre g0 k)) (fun _ i _ => n0 - (intOf i).toNat)
  case atStart => exact ⟨0, by omega, rfl, rfl, hb0⟩
  case round =>
    obtain ⟨k, hk, rfl, rfl, hbuf⟩ := hrel
    clear hb0 p1 p2 p3
    by_cases hlt : k < n0
    · obtain ⟨_, _, _, hc0⟩ := hd0
      rcases hc0 with hc0 | ⟨b, o, rfl, hbl, hc0⟩
      · omega
      · have q1 := hbuf.old (hc0 k hlt)
        clear hd3 hc0
        have ho1 := hbuf.own
        go_wp2_with (at_builtin; refine wpList_append_fits _ rfl _ _ 22 rfl w'.heap.size 5 i0 1 Try.underlying22 hi hz1 w'.heap.size k (n0 + 9 + n3) _ rfl (ho1.alloc _) ⟨wr.heap.size, 0, none⟩ 1 1 [.int .u8 (g0 k)] rfl rfl (new_cell _ _ _) (one_cell _) (by omega) ?_)
        intro w2 ho2 hg2
        have hb2 := hbuf.app ho2 hg2
        rw [← pre_succ] at hb2
        clear ho1 ho2 hg2 hbuf q1
        go_wp2_with fail
        go_roundw
        case rel => exact ⟨k + 1, by omega, by go_num, rfl, hb2⟩
        case measure => simp [intOf]; omega
    · have hkn : k = n0 := by omega
      subst hkn
      have ho1 := hbuf.own
      go_wp2_with (at_builtin; refine wpList_append_fits _ rfl _ _ 22 rfl w'.heap.size 5 i0 1 Try.underlying22 hi hz1 w'.heap.size k (k + 9 + n3) _ rfl (ho1.alloc _) ⟨wr.heap.size, 0, none⟩ 1 1 [.int .u8 (bits .or .u8 m v)] rfl rfl (new_cell _ _ _) (one_cell _) (by omega) ?_)
      intro w2 ho2 hg2
      have hb2 := hbuf.app ho2 hg2
      clear ho1 ho2 hg2 hbuf
      go_wp2_with fail
      generalize hHL : pre g0 k ++ [bits .or .u8 m v] = HL at *
      go_loopw [9, 15] (fun t i wr => ∃ j : Nat, j ≤ n3 ∧ i = .int .i64 j ∧ t = .slice (some ⟨w'.heap.size, 0, none⟩) (k + 1 + j) (k + 9 + n3) ∧ Buf w' wr (k + 9 + n3) (k + 1 + j) (HL ++ pre g3 j)) (fun _ i _ => n3 - (intOf i).toNat)
      case atStart => exact ⟨0, by omega, rfl, rfl, by simpa [pre_zero] using hb2⟩
      case round =>
        obtain ⟨j, hj, rfl, rfl, hbuf3⟩ := hrel
        clear hb2 hHL
        rename World => wr3
        by_cases hlt3 : j < n3
        · obtain ⟨_, _, _, hc3⟩ := hd3
          rcases hc3 with hc3 | ⟨b, o, rfl, hbl, hc3⟩
          · omega
          · have q1 := hbuf3.old (hc3 j hlt3)
            clear hc3
            have ho1 := hbuf3.own
            go_wp2_with (at_builtin; refine wpList_append_fits _ rfl _ _ 22 rfl w'.heap.size 5 i0 1 Try.underlying22 hi hz1 w'.heap.size (k + 1 + j) (k + 9 + n3) _ rfl (ho1.alloc _) ⟨wr3.heap.size, 0, none⟩ 1 1 [.int .u8 (g3 j)] rfl rfl (new_cell _ _ _) (one_cell _) (by omega) ?_)
            intro w4 ho4 hg4
            have hb4 := hbuf3.app (x := g3 j) (by simpa using ho4) hg4
            rw [List.append_assoc, ← pre_succ] at hb4
            clear ho1 ho4 hg4 hbuf3 q1
            go_wp2_with fail
            go_roundw
            case rel => first | exact ⟨j + 1, by omega, by go_num, rfl, hb4⟩ | ((repeat apply Exists.intro); exact ⟨⟨j + 1, by omega, by go_num, rfl, hb4⟩, rfl⟩)
            case measure => simp [intOf]; omega
        · have hjn : j = n3 := by omega
          subst hjn
          have hdat := hbuf3.data (by omega) (by omega) (by omega) HOK.out
          have hbel := hbuf3.below
          clear hbuf3
          go_wp2_with fail
          refine (zzHead_any wr3 _ (k + 1 + j) (k + 9 + j) (fun i => (HL ++ pre g3 j).getD i 0) k false m hdat (by omega) (by omega)).mono ?_
          rw [HOUT.out]
          rintro e w5 ⟨rfl, hb5⟩
          have hbel5 := hbel.trans (hb5.mono hbel.size)
          clear hbel hb5 hdat
          go_wp2_with fail
          go_ret
          exact ⟨ret_bool (by simp), hbel5⟩

set_option maxHeartbeats 4000000 in
theorem head_law_1 (a0 a3 : Option Addr) (n0 c0 n3 c3 : Nat) (g0 g3 : Nat → Int) (m v : Int) (w : World) (hd0 : Data w a0 n0 c0 g0) (hd3 : Data w a3 n3 c3 g3) (hs : n0 + n3 ≤ 1048576)
    (hm0 : 0 ≤ m) (hm1 : m ≤ 255) (hm : m % 32 = 0) (hv0 : 23 < v) (hv1 : v ≤ 255) :
    Calls Try.prog 3 #[.slice a0 n0 c0, .int .u8 m, .int .u64 v, .slice a3 n3 c3] w fun e w' => e = .returned (.bool true) ∧ Below w.heap.size w w' := by
  have HOUT : Hid (headOut (fun j => (pre g0 n0 ++ [bits .or .u8 m 24] ++ pre (hb v 1) 1 ++ pre g3 n3).getD j 0) (n0 + 1 + 1 + n3) n0 false m = (v, (n0 : Int) + 1 + 1, false)) := headOut_long g0 g3 n0 n3 m v 24 1 hm0 hm1 hm (by omega) (by omega) rfl (by omega) (by omega)
  have HOK : Hid (∀ y ∈ pre g0 n0 ++ [bits .or .u8 m 24] ++ pre (hb v 1) 1 ++ pre g3 n3, 0 ≤ y ∧ y ≤ 255) := bytes_ok hd0.2.2.1 hd3.2.2.1 (by rw [(or_parts m 24 hm0 hm1 hm (by omega) (by omega)).1]; omega) (fun y hy => by obtain ⟨j, _, rfl⟩ := pre_mem _ _ _ hy; exact hb_range _ _ _)
  have p1 : decide ((1048576 : Int) < (n0 : Int)) = false := decide_eq_false (by omega)
  have p2 : decide ((1048576 : Int) < (n3 : Int)) = false := decide_eq_false (by omega)
  have p3 : decide ((1048576 : Int) < (n0 : Int) + (n3 : Int)) = false := decide_eq_false (by omega)
  have t0 : decide (v < 24) = false := decide_eq_false (by omega)
  have t1 : decide (v ≤ 255) = true := decide_eq_true (by omega)
  have p4 : (m % 32 != 0) = false := by simpa using hm
  obtain ⟨i0, hi, hz0, hz1, hz2⟩ := info_parts Try.info5
  have HN : ((n0 + 9 + n3 : Nat) : Int) = (n0 : Int) + 9 + n3 := by omega
  go_enter Try.func3, Try.ntmps3
  go_wp2_with (first
    | (go_at_call 5; refine (bytes5_yes a0 a3 n0 c0 n3 c3 m v _ hs).mono ?_; rintro e w' ⟨rfl, hw⟩; subst hw)
    | (at_make; refine wpList_make_own _ rfl _ _ 22 rfl _ 5 i0 (.int .u8 0) 1 Try.underlying22 hi hz0 hz1 _ _ _ (n0 + 9 + n3) rfl rfl (by omega) (by rw [hz2]; omega) (by unfold maxLen; omega) (Nat.le_refl _) ?_))
  intro w1 hown hgrow
  have hb0 : Buf w' w1 (n0 + 9 + n3) 0 (pre g0 0) := ⟨hown, (Below.refl _ w').grown hgrow (Nat.le_refl _) (fun k hk => by cases hk)⟩
  clear hown hgrow HN p4
  go_wp2_with fail
  go_loopw [9, 10] (fun t i wr => ∃ k : Nat, k ≤ n0 ∧ i = .int .i64 k ∧ t = .slice (some ⟨w'.heap.size, 0, none⟩) k (n0 + 9 + n3) ∧ Buf w' wr (n0 + 9 + n3) k (pre g0 k)) (fun _ i _ => n0 - (intOf i).toNat)
  case atStart => exact ⟨0, by omega, rfl, rfl, hb0⟩
  case round =>
    obtain ⟨k, hk, rfl, rfl, hbuf⟩ := hrel
    clear hb0 p1 p2 p3
    by_cases hlt : k < n0
    · obtain ⟨_, _, _, hc0⟩ := hd0
      rcases hc0 with hc0 | ⟨b, o, rfl, hbl, hc0⟩
      · omega
      · have q1 := hbuf.old (hc0 k hlt)
        clear hd3 hc0
        have ho1 := hbuf.own
        go_wp2_with (at_builtin; refine wpList_append_fits _ rfl _ _ 22 rfl w'.heap.size 5 i0 1 Try.underlying22 hi hz1 w'.heap.size k (n0 + 9 + n3) _ rfl (ho1.alloc _) ⟨wr.heap.size, 0, none⟩ 1 1 [.int .u8 (g0 k)] rfl rfl (new_cell _ _ _) (one_cell _) (by omega) ?_)
        intro w2 ho2 hg2
        have hb2 := hbuf.app ho2 hg2
        rw [← pre_succ] at hb2
        clear ho1 ho2 hg2 hbuf q1
        go_wp2_with fail
        go_roundw
        case rel => exact ⟨k + 1, by omega, by go_num, rfl, hb2⟩
        case measure => simp [intOf]; omega
    · have hkn : k = n0 := by omega
      subst hkn
      have ho1 := hbuf.own
      go_wp2_with (at_builtin; refine wpList_append_fits _ rfl _ _ 22 rfl w'.heap.size 5 i0 1 Try.underlying22 hi hz1 w'.heap.size k (k + 9 + n3) _ rfl (ho1.alloc _) ⟨wr.heap.size, 0, none⟩ 1 1 [.int .u8 (bits .or .u8 m 24)] rfl rfl (new_cell _ _ _) (one_cell _) (by omega) ?_)
      intro w2 ho2 hg2
      have hb2 := hbuf.app ho2 hg2
      clear ho1 ho2 hg2 hbuf
      go_wp2_with fail
      go_loopw [9, 13] (fun t i wr => ∃ j : Nat, j ≤ 1 ∧ i = .int .i64 ((0 : Int) - j) ∧ t = .slice (some ⟨w'.heap.size, 0, none⟩) (k + 1 + j) (k + 9 + n3) ∧ Buf w' wr (k + 9 + n3) (k + 1 + j) (pre g0 k ++ [bits .or .u8 m 24] ++ pre (hb v 1) j)) (fun _ i _ => (intOf i + 1).toNat)
      case atStart => exact ⟨0, by omega, rfl, rfl, by simpa [pre_zero] using hb2⟩
      case round =>
        obtain ⟨j, hj, rfl, rfl, hbuf⟩ := hrel
        clear hb2
        rename World => wr2
        by_cases hlt2 : j < 1
        · obtain rfl : j = 0 := by omega
          have ho1 := hbuf.own
          simp only [Nat.add_zero] at ho1
          go_wp2_with (at_builtin; refine wpList_append_fits _ rfl _ _ 22 rfl w'.heap.size 5 i0 1 Try.underlying22 hi hz1 w'.heap.size (k + 1) (k + 9 + n3) _ rfl (ho1.alloc _) ⟨wr2.heap.size, 0, none⟩ 1 1 [.int .u8 _] rfl rfl (new_cell _ _ _) (one_cell _) (by omega) ?_)
          intro w3 ho3 hg3
          have hb3 := hbuf.app (x := v) (by simpa using ho3) hg3
          have hv : hb v 1 0 = v := by unfold hb; simp; omega
          have hp : pre (hb v 1) 0 ++ [v] = pre (hb v 1) 1 := by rw [pre_succ, hv]
          rw [List.append_assoc, hp] at hb3
          clear hv hp
          clear ho1 ho3 hg3 hbuf
          go_wp2_with fail
          go_roundw
          case rel => exact ⟨1, by omega, by go_num, rfl, hb3⟩
          case measure => simp [intOf]
        · have hjn : j = 1 := by omega
          subst hjn
          go_wp2_with fail
          generalize hHL : pre g0 k ++ [bits .or .u8 m 24] ++ pre (hb v 1) 1 = HL at *
          go_loopw [9, 15] (fun t i wr => ∃ j : Nat, j ≤ n3 ∧ i = .int .i64 j ∧ t = .slice (some ⟨w'.heap.size, 0, none⟩) (k + 1 + 1 + j) (k + 9 + n3) ∧ Buf w' wr (k + 9 + n3) (k + 1 + 1 + j) (HL ++ pre g3 j)) (fun _ i _ => n3 - (intOf i).toNat)
          case atStart => exact ⟨0, by omega, rfl, rfl, by simpa [pre_zero] using hbuf⟩
          case round =>
            obtain ⟨j, hj, rfl, rfl, hbuf3⟩ := hrel
            clear hbuf hHL
            rename World => wr3
            by_cases hlt3 : j < n3
            · obtain ⟨_, _, _, hc3⟩ := hd3
              rcases hc3 with hc3 | ⟨b, o, rfl, hbl, hc3⟩
              · omega
              · have q1 := hbuf3.old (hc3 j hlt3)
                clear hc3
                have ho1 := hbuf3.own
                go_wp2_with (at_builtin; refine wpList_append_fits _ rfl _ _ 22 rfl w'.heap.size 5 i0 1 Try.underlying22 hi hz1 w'.heap.size (k + 1 + 1 + j) (k + 9 + n3) _ rfl (ho1.alloc _) ⟨wr3.heap.size, 0, none⟩ 1 1 [.int .u8 (g3 j)] rfl rfl (new_cell _ _ _) (one_cell _) (by omega) ?_)
                intro w4 ho4 hg4
                have hb4 := hbuf3.app (x := g3 j) (by simpa using ho4) hg4
                rw [List.append_assoc, ← pre_succ] at hb4
                clear ho1 ho4 hg4 hbuf3 q1
                go_wp2_with fail
                go_roundw
                case rel => first | exact ⟨j + 1, by omega, by go_num, rfl, hb4⟩ | ((repeat apply Exists.intro); exact ⟨⟨j + 1, by omega, by go_num, rfl, hb4⟩, rfl⟩)
                case measure => simp [intOf]; omega
            · have hjn : j = n3 := by omega
              subst hjn
              have hdat := hbuf3.data (by omega) (by omega) (by omega) HOK.out
              have hbel := hbuf3.below
              clear hbuf3
              go_wp2_with fail
              refine (zzHead_any wr3 _ (k + 1 + 1 + j) (k + 9 + j) (fun i => (HL ++ pre g3 j).getD i 0) k false m hdat (by omega) (by omega)).mono ?_
              rw [HOUT.out]
              rintro e w5 ⟨rfl, hb5⟩
              have hbel5 := hbel.trans (hb5.mono hbel.size)
              clear hbel hb5 hdat
              go_wp2_with fail
              go_ret
              exact ⟨ret_bool (by simp), hbel5⟩

set_option maxHeartbeats 4000000 in
theorem head_law_2 (a0 a3 : Option Addr) (n0 c0 n3 c3 : Nat) (g0 g3 : Nat → Int) (m v : Int) (w : World) (hd0 : Data w a0 n0 c0 g0) (hd3 : Data w a3 n3 c3 g3) (hs : n0 + n3 ≤ 1048576)
    (hm0 : 0 ≤ m) (hm1 : m ≤ 255) (hm : m % 32 = 0) (hv0 : 255 < v) (hv1 : v ≤ 65535) :
    Calls Try.prog 3 #[.slice a0 n0 c0, .int .u8 m, .int .u64 v, .slice a3 n3 c3] w fun e w' => e = .returned (.bool true) ∧ Below w.heap.size w w' := by
  have HOUT : Hid (headOut (fun j => (pre g0 n0 ++ [bits .or .u8 m 25] ++ pre (hb v 2) 2 ++ pre g3 n3).getD j 0) (n0 + 1 + 2 + n3) n0 false m = (v, (n0 : Int) + 1 + 2, false)) := headOut_long g0 g3 n0 n3 m v 25 2 hm0 hm1 hm (by omega) (by omega) rfl (by omega) (by omega)
  have HOK : Hid (∀ y ∈ pre g0 n0 ++ [bits .or .u8 m 25] ++ pre (hb v 2) 2 ++ pre g3 n3, 0 ≤ y ∧ y ≤ 255) := bytes_ok hd0.2.2.1 hd3.2.2.1 (by rw [(or_parts m 25 hm0 hm1 hm (by omega) (by omega)).1]; omega) (fun y hy => by obtain ⟨j, _, rfl⟩ := pre_mem _ _ _ hy; exact hb_range _ _ _)
  have p1 : decide ((1048576 : Int) < (n0 : Int)) = false := decide_eq_false (by omega)
  have p2 : decide ((1048576 : Int) < (n3 : Int)) = false := decide_eq_false (by omega)
  have p3 : decide ((1048576 : Int) < (n0 : Int) + (n3 : Int)) = false := decide_eq_false (by omega)
  have t0 : decide (v < 24) = false := decide_eq_false (by omega)
  have t1 : decide (v ≤ 255) = false := decide_eq_false (by omega)
  have t2 : decide (v ≤ 65535) = true := decide_eq_true (by omega)
  have p4 : (m % 32 != 0) = false := by simpa using hm
  obtain ⟨i0, hi, hz0, hz1, hz2⟩ := info_parts Try.info5
  have HN : ((n0 + 9 + n3 : Nat) : Int) = (n0 : Int) + 9 + n3 := by omega
  go_enter Try.func3, Try.ntmps3
  go_wp2_with (first
    | (go_at_call 5; refine (bytes5_yes a0 a3 n0 c0 n3 c3 m v _ hs).mono ?_; rintro e w' ⟨rfl, hw⟩; subst hw)
    | (at_make; refine wpList_make_own _ rfl _ _ 22 rfl _ 5 i0 (.int .u8 0) 1 Try.underlying22 hi hz0 hz1 _ _ _ (n0 + 9 + n3) rfl rfl (by omega) (by rw [hz2]; omega) (by unfold maxLen; omega) (Nat.le_refl _) ?_))
  intro w1 hown hgrow
  have hb0 : Buf w' w1 (n0 + 9 + n3) 0 (pre g0 0) := ⟨hown, (Below.refl _ w').grown hgrow (Nat.le_refl _) (fun k hk => by cases hk)⟩
  clear hown hgrow HN p4
  go_wp2_with fail
  go_loopw [9, 10] (fun t i wr => ∃ k : Nat, k ≤ n0 ∧ i = .int .i64 k ∧ t = .slice (some ⟨w'.heap.size, 0, none⟩) k (n0 + 9 + n3) ∧ Buf w' wr (n0 + 9 + n3) k (pre g0 k)) (fun _ i _ => n0 - (intOf i).toNat)
  case atStart => exact ⟨0, by omega, rfl, rfl, hb0⟩
  case round =>
    obtain ⟨k, hk, rfl, rfl, hbuf⟩ := hrel
    clear hb0 p1 p2 p3
    by_cases hlt : k < n0
    · obtain ⟨_, _, _, hc0⟩ := hd0
      rcases hc0 with hc0 | ⟨b, o, rfl, hbl, hc0⟩
      · omega
      · have q1 := hbuf.old (hc0 k hlt)
        clear hd3 hc0
        have ho1 := hbuf.own
        go_wp2_with (at_builtin; refine wpList_append_fits _ rfl _ _ 22 rfl w'.heap.size 5 i0 1 Try.underlying22 hi hz1 w'.heap.size k (n0 + 9 + n3) _ rfl (ho1.alloc _) ⟨wr.heap.size, 0, none⟩ 1 1 [.int .u8 (g0 k)] rfl rfl (new_cell _ _ _) (one_cell _) (by omega) ?_)
        intro w2 ho2 hg2
        have hb2 := hbuf.app ho2 hg2
        rw [← pre_succ] at hb2
        clear ho1 ho2 hg2 hbuf q1
        go_wp2_with fail
        go_roundw
        case rel => exact ⟨k + 1, by omega, by go_num, rfl, hb2⟩
        case measure => simp [intOf]; omega
    · have hkn : k = n0 := by omega
      subst hkn
      have ho1 := hbuf.own
      go_wp2_with (at_builtin; refine wpList_append_fits _ rfl _ _ 22 rfl w'.heap.size 5 i0 1 Try.underlying22 hi hz1 w'.heap.size k (k + 9 + n3) _ rfl (ho1.alloc _) ⟨wr.heap.size, 0, none⟩ 1 1 [.int .u8 (bits .or .u8 m 25)] rfl rfl (new_cell _ _ _) (one_cell _) (by omega) ?_)
      intro w2 ho2 hg2
      have hb2 := hbuf.app ho2 hg2
      clear ho1 ho2 hg2 hbuf
      go_wp2_with fail
      go_loopw [9, 13] (fun t i wr => ∃ j : Nat, j ≤ 2 ∧ i = .int .i64 ((1 : Int) - j) ∧ t = .slice (some ⟨w'.heap.size, 0, none⟩) (k + 1 + j) (k + 9 + n3) ∧ Buf w' wr (k + 9 + n3) (k + 1 + j) (pre g0 k ++ [bits .or .u8 m 25] ++ pre (hb v 2) j)) (fun _ i _ => (intOf i + 1).toNat)
      case atStart => exact ⟨0, by omega, rfl, rfl, by simpa [pre_zero] using hb2⟩
      case round =>
        obtain ⟨j, hj, rfl, rfl, hbuf⟩ := hrel
        clear hb2
        rename World => wr2
        by_cases hlt2 : j < 2
        · have ho1 := hbuf.own
          go_wp2_with (at_builtin; refine wpList_append_fits _ rfl _ _ 22 rfl w'.heap.size 5 i0 1 Try.underlying22 hi hz1 w'.heap.size (k + 1 + j) (k + 9 + n3) _ rfl (ho1.alloc _) ⟨wr2.heap.size, 0, none⟩ 1 1 [.int .u8 _] rfl rfl (new_cell _ _ _) (one_cell _) (by omega) ?_)
          intro w3 ho3 hg3
          have hb3 := hbuf.app (x := hb v 2 j) (by simpa [hb] using ho3) hg3
          rw [List.append_assoc, ← pre_succ] at hb3
          clear ho1 ho3 hg3 hbuf
          go_wp2_with fail
          go_roundw
          case rel => exact ⟨j + 1, by omega, by go_num, rfl, hb3⟩
          case measure => simp [intOf]; omega
        · have hjn : j = 2 := by omega
          subst hjn
          go_wp2_with fail
          generalize hHL : pre g0 k ++ [bits .or .u8 m 25] ++ pre (hb v 2) 2 = HL at *
          go_loopw [9, 15] (fun t i wr => ∃ j : Nat, j ≤ n3 ∧ i = .int .i64 j ∧ t = .slice (some ⟨w'.heap.size, 0, none⟩) (k + 1 + 2 + j) (k + 9 + n3) ∧ Buf w' wr (k + 9 + n3) (k + 1 + 2 + j) (HL ++ pre g3 j)) (fun _ i _ => n3 - (intOf i).toNat)
          case atStart => exact ⟨0, by omega, rfl, rfl, by simpa [pre_zero] using hbuf⟩
          case round =>
            obtain ⟨j, hj, rfl, rfl, hbuf3⟩ := hrel
            clear hbuf hHL
            rename World => wr3
            by_cases hlt3 : j < n3
            · obtain ⟨_, _, _, hc3⟩ := hd3
              rcases hc3 with hc3 | ⟨b, o, rfl, hbl, hc3⟩
              · omega
              · have q1 := hbuf3.old (hc3 j hlt3)
                clear hc3
                have ho1 := hbuf3.own
                go_wp2_with (at_builtin; refine wpList_append_fits _ rfl _ _ 22 rfl w'.heap.size 5 i0 1 Try.underlying22 hi hz1 w'.heap.size (k + 1 + 2 + j) (k + 9 + n3) _ rfl (ho1.alloc _) ⟨wr3.heap.size, 0, none⟩ 1 1 [.int .u8 (g3 j)] rfl rfl (new_cell _ _ _) (one_cell _) (by omega) ?_)
                intro w4 ho4 hg4
                have hb4 := hbuf3.app (x := g3 j) (by simpa using ho4) hg4
                rw [List.append_assoc, ← pre_succ] at hb4
                clear ho1 ho4 hg4 hbuf3 q1
                go_wp2_with fail
                go_roundw
                case rel => first | exact ⟨j + 1, by omega, by go_num, rfl, hb4⟩ | ((repeat apply Exists.intro); exact ⟨⟨j + 1, by omega, by go_num, rfl, hb4⟩, rfl⟩)
                case measure => simp [intOf]; omega
            · have hjn : j = n3 := by omega
              subst hjn
              have hdat := hbuf3.data (by omega) (by omega) (by omega) HOK.out
              have hbel := hbuf3.below
              clear hbuf3
              go_wp2_with fail
              refine (zzHead_any wr3 _ (k + 1 + 2 + j) (k + 9 + j) (fun i => (HL ++ pre g3 j).getD i 0) k false m hdat (by omega) (by omega)).mono ?_
              rw [HOUT.out]
              rintro e w5 ⟨rfl, hb5⟩
              have hbel5 := hbel.trans (hb5.mono hbel.size)
              clear hbel hb5 hdat
              go_wp2_with fail
              go_ret
              exact ⟨ret_bool (by simp), hbel5⟩

set_option maxHeartbeats 4000000 in
theorem head_law_4 (a0 a3 : Option Addr) (n0 c0 n3 c3 : Nat) (g0 g3 : Nat → Int) (m v : Int) (w : World) (hd0 : Data w a0 n0 c0 g0) (hd3 : Data w a3 n3 c3 g3) (hs : n0 + n3 ≤ 1048576)
    (hm0 : 0 ≤ m) (hm1 : m ≤ 255) (hm : m % 32 = 0) (hv0 : 65535 < v) (hv1 : v ≤ 4294967295) :
    Calls Try.prog 3 #[.slice a0 n0 c0, .int .u8 m, .int .u64 v, .slice a3 n3 c3] w fun e w' => e = .returned (.bool true) ∧ Below w.heap.size w w' := by
  have HOUT : Hid (headOut (fun j => (pre g0 n0 ++ [bits .or .u8 m 26] ++ pre (hb v 4) 4 ++ pre g3 n3).getD j 0) (n0 + 1 + 4 + n3) n0 false m = (v, (n0 : Int) + 1 + 4, false)) := headOut_long g0 g3 n0 n3 m v 26 4 hm0 hm1 hm (by omega) (by omega) rfl (by omega) (by omega)
  have HOK : Hid (∀ y ∈ pre g0 n0 ++ [bits .or .u8 m 26] ++ pre (hb v 4) 4 ++ pre g3 n3, 0 ≤ y ∧ y ≤ 255) := bytes_ok hd0.2.2.1 hd3.2.2.1 (by rw [(or_parts m 26 hm0 hm1 hm (by omega) (by omega)).1]; omega) (fun y hy => by obtain ⟨j, _, rfl⟩ := pre_mem _ _ _ hy; exact hb_range _ _ _)
  have p1 : decide ((1048576 : Int) < (n0 : Int)) = false := decide_eq_false (by omega)
  have p2 : decide ((1048576 : Int) < (n3 : Int)) = false := decide_eq_false (by omega)
  have p3 : decide ((1048576 : Int) < (n0 : Int) + (n3 : Int)) = false := decide_eq_false (by omega)
  have t0 : decide (v < 24) = false := decide_eq_false (by omega)
  have t1 : decide (v ≤ 255) = false := decide_eq_false (by omega)
  have t2 : decide (v ≤ 65535) = false := decide_eq_false (by omega)
  have t3 : decide (v ≤ 4294967295) = true := decide_eq_true (by omega)
  have p4 : (m % 32 != 0) = false := by simpa using hm
  obtain ⟨i0, hi, hz0, hz1, hz2⟩ := info_parts Try.info5
  have HN : ((n0 + 9 + n3 : Nat) : Int) = (n0 : Int) + 9 + n3 := by omega
  go_enter Try.func3, Try.ntmps3
  go_wp2_with (first
    | (go_at_call 5; refine (bytes5_yes a0 a3 n0 c0 n3 c3 m v _ hs).mono ?_; rintro e w' ⟨rfl, hw⟩; subst hw)
    | (at_make; refine wpList_make_own _ rfl _ _ 22 rfl _ 5 i0 (.int .u8 0) 1 Try.underlying22 hi hz0 hz1 _ _ _ (n0 + 9 + n3) rfl rfl (by omega) (by rw [hz2]; omega) (by unfold maxLen; omega) (Nat.le_refl _) ?_))
  intro w1 hown hgrow
  have hb0 : Buf w' w1 (n0 + 9 + n3) 0 (pre g0 0) := ⟨hown, (Below.refl _ w').grown hgrow (Nat.le_refl _) (fun k hk => by cases hk)⟩
  clear hown hgrow HN p4
  go_wp2_with fail
  go_loopw [9, 10] (fun t i wr => ∃ k : Nat, k ≤ n0 ∧ i = .int .i64 k ∧ t = .slice (some ⟨w'.heap.size, 0, none⟩) k (n0 + 9 + n3) ∧ Buf w' wr (n0 + 9 + n3) k (pre g0 k)) (fun _ i _ => n0 - (intOf i).toNat)
  case atStart => exact ⟨0, by omega, rfl, rfl, hb0⟩
  case round =>
    obtain ⟨k, hk, rfl, rfl, hbuf⟩ := hrel
    clear hb0 p1 p2 p3
    by_cases hlt : k < n0
    · obtain ⟨_, _, _, hc0⟩ := hd0
      rcases hc0 with hc0 | ⟨b, o, rfl, hbl, hc0⟩
      · omega
      · have q1 := hbuf.old (hc0 k hlt)
        clear hd3 hc0
        have ho1 := hbuf.own
        go_wp2_with (at_builtin; refine wpList_append_fits _ rfl _ _ 22 rfl w'.heap.size 5 i0 1 Try.underlying22 hi hz1 w'.heap.size k (n0 + 9 + n3) _ rfl (ho1.alloc _) ⟨wr.heap.size, 0, none⟩ 1 1 [.int .u8 (g0 k)] rfl rfl (new_cell _ _ _) (one_cell _) (by omega) ?_)
        intro w2 ho2 hg2
        have hb2 := hbuf.app ho2 hg2
        rw [← pre_succ] at hb2
        clear ho1 ho2 hg2 hbuf q1
        go_wp2_with fail
        go_roundw
        case rel => exact ⟨k + 1, by omega, by go_num, rfl, hb2⟩
        case measure => simp [intOf]; omega
    · have hkn : k = n0 := by omega
      subst hkn
      have ho1 := hbuf.own
      go_wp2_with (at_builtin; refine wpList_append_fits _ rfl _ _ 22 rfl w'.heap.size 5 i0 1 Try.underlying22 hi hz1 w'.heap.size k (k + 9 + n3) _ rfl (ho1.alloc _) ⟨wr.heap.size, 0, none⟩ 1 1 [.int .u8 (bits .or .u8 m 26)] rfl rfl (new_cell _ _ _) (one_cell _) (by omega) ?_)
      intro w2 ho2 hg2
      have hb2 := hbuf.app ho2 hg2
      clear ho1 ho2 hg2 hbuf
      go_wp2_with fail
      go_loopw [9, 13] (fun t i wr => ∃ j : Nat, j ≤ 4 ∧ i = .int .i64 ((3 : Int) - j) ∧ t = .slice (some ⟨w'.heap.size, 0, none⟩) (k + 1 + j) (k + 9 + n3) ∧ Buf w' wr (k + 9 + n3) (k + 1 + j) (pre g0 k ++ [bits .or .u8 m 26] ++ pre (hb v 4) j)) (fun _ i _ => (intOf i + 1).toNat)
      case atStart => exact ⟨0, by omega, rfl, rfl, by simpa [pre_zero] using hb2⟩
      case round =>
        obtain ⟨j, hj, rfl, rfl, hbuf⟩ := hrel
        clear hb2
        rename World => wr2
        by_cases hlt2 : j < 4
        · have ho1 := hbuf.own
          go_wp2_with (at_builtin; refine wpList_append_fits _ rfl _ _ 22 rfl w'.heap.size 5 i0 1 Try.underlying22 hi hz1 w'.heap.size (k + 1 + j) (k + 9 + n3) _ rfl (ho1.alloc _) ⟨wr2.heap.size, 0, none⟩ 1 1 [.int .u8 _] rfl rfl (new_cell _ _ _) (one_cell _) (by omega) ?_)
          intro w3 ho3 hg3
          have hb3 := hbuf.app (x := hb v 4 j) (by simpa [hb] using ho3) hg3
          rw [List.append_assoc, ← pre_succ] at hb3
          clear ho1 ho3 hg3 hbuf
          go_wp2_with fail
          go_roundw
          case rel => exact ⟨j + 1, by omega, by go_num, rfl, hb3⟩
          case measure => simp [intOf]; omega
        · have hjn : j = 4 := by omega
          subst hjn
          go_wp2_with fail
          generalize hHL : pre g0 k ++ [bits .or .u8 m 26] ++ pre (hb v 4) 4 = HL at *
          go_loopw [9, 15] (fun t i wr => ∃ j : Nat, j ≤ n3 ∧ i = .int .i64 j ∧ t = .slice (some ⟨w'.heap.size, 0, none⟩) (k + 1 + 4 + j) (k + 9 + n3) ∧ Buf w' wr (k + 9 + n3) (k + 1 + 4 + j) (HL ++ pre g3 j)) (fun _ i _ => n3 - (intOf i).toNat)
          case atStart => exact ⟨0, by omega, rfl, rfl, by simpa [pre_zero] using hbuf⟩
          case round =>
            obtain ⟨j, hj, rfl, rfl, hbuf3⟩ := hrel
            clear hbuf hHL
            rename World => wr3
            by_cases hlt3 : j < n3
            · obtain ⟨_, _, _, hc3⟩ := hd3
              rcases hc3 with hc3 | ⟨b, o, rfl, hbl, hc3⟩
              · omega
              · have q1 := hbuf3.old (hc3 j hlt3)
                clear hc3
                have ho1 := hbuf3.own
                go_wp2_with (at_builtin; refine wpList_append_fits _ rfl _ _ 22 rfl w'.heap.size 5 i0 1 Try.underlying22 hi hz1 w'.heap.size (k + 1 + 4 + j) (k + 9 + n3) _ rfl (ho1.alloc _) ⟨wr3.heap.size, 0, none⟩ 1 1 [.int .u8 (g3 j)] rfl rfl (new_cell _ _ _) (one_cell _) (by omega) ?_)
                intro w4 ho4 hg4
                have hb4 := hbuf3.app (x := g3 j) (by simpa using ho4) hg4
                rw [List.append_assoc, ← pre_succ] at hb4
                clear ho1 ho4 hg4 hbuf3 q1
                go_wp2_with fail
                go_roundw
                case rel => first | exact ⟨j + 1, by omega, by go_num, rfl, hb4⟩ | ((repeat apply Exists.intro); exact ⟨⟨j + 1, by omega, by go_num, rfl, hb4⟩, rfl⟩)
                case measure => simp [intOf]; omega
            · have hjn : j = n3 := by omega
              subst hjn
              have hdat := hbuf3.data (by omega) (by omega) (by omega) HOK.out
              have hbel := hbuf3.below
              clear hbuf3
              go_wp2_with fail
              refine (zzHead_any wr3 _ (k + 1 + 4 + j) (k + 9 + j) (fun i => (HL ++ pre g3 j).getD i 0) k false m hdat (by omega) (by omega)).mono ?_
              rw [HOUT.out]
              rintro e w5 ⟨rfl, hb5⟩
              have hbel5 := hbel.trans (hb5.mono hbel.size)
              clear hbel hb5 hdat
              go_wp2_with fail
              go_ret
              exact ⟨ret_bool (by simp), hbel5⟩

set_option maxHeartbeats 4000000 in
theorem head_law_8 (a0 a3 : Option Addr) (n0 c0 n3 c3 : Nat) (g0 g3 : Nat → Int) (m v : Int) (w : World) (hd0 : Data w a0 n0 c0 g0) (hd3 : Data w a3 n3 c3 g3) (hs : n0 + n3 ≤ 1048576)
    (hm0 : 0 ≤ m) (hm1 : m ≤ 255) (hm : m % 32 = 0) (hv0 : 4294967295 < v) (hv1 : v ≤ 18446744073709551615) :
    Calls Try.prog 3 #[.slice a0 n0 c0, .int .u8 m, .int .u64 v, .slice a3 n3 c3] w fun e w' => e = .returned (.bool true) ∧ Below w.heap.size w w' := by
  have HOUT : Hid (headOut (fun j => (pre g0 n0 ++ [bits .or .u8 m 27] ++ pre (hb v 8) 8 ++ pre g3 n3).getD j 0) (n0 + 1 + 8 + n3) n0 false m = (v, (n0 : Int) + 1 + 8, false)) := headOut_long g0 g3 n0 n3 m v 27 8 hm0 hm1 hm (by omega) (by omega) rfl (by omega) (by omega)
  have HOK : Hid (∀ y ∈ pre g0 n0 ++ [bits .or .u8 m 27] ++ pre (hb v 8) 8 ++ pre g3 n3, 0 ≤ y ∧ y ≤ 255) := bytes_ok hd0.2.2.1 hd3.2.2.1 (by rw [(or_parts m 27 hm0 hm1 hm (by omega) (by omega)).1]; omega) (fun y hy => by obtain ⟨j, _, rfl⟩ := pre_mem _ _ _ hy; exact hb_range _ _ _)
  have p1 : decide ((1048576 : Int) < (n0 : Int)) = false := decide_eq_false (by omega)
  have p2 : decide ((1048576 : Int) < (n3 : Int)) = false := decide_eq_false (by omega)
  have p3 : decide ((1048576 : Int) < (n0 : Int) + (n3 : Int)) = false := decide_eq_false (by omega)
  have t0 : decide (v < 24) = false := decide_eq_false (by omega)
  have t1 : decide (v ≤ 255) = false := decide_eq_false (by omega)
  have t2 : decide (v ≤ 65535) = false := decide_eq_false (by omega)
  have t3 : decide (v ≤ 4294967295) = false := decide_eq_false (by omega)
  have p4 : (m % 32 != 0) = false := by simpa using hm
  obtain ⟨i0, hi, hz0, hz1, hz2⟩ := info_parts Try.info5
  have HN : ((n0 + 9 + n3 : Nat) : Int) = (n0 : Int) + 9 + n3 := by omega
  go_enter Try.func3, Try.ntmps3
  go_wp2_with (first
    | (go_at_call 5; refine (bytes5_yes a0 a3 n0 c0 n3 c3 m v _ hs).mono ?_; rintro e w' ⟨rfl, hw⟩; subst hw)
    | (at_make; refine wpList_make_own _ rfl _ _ 22 rfl _ 5 i0 (.int .u8 0) 1 Try.underlying22 hi hz0 hz1 _ _ _ (n0 + 9 + n3) rfl rfl (by omega) (by rw [hz2]; omega) (by unfold maxLen; omega) (Nat.le_refl _) ?_))
  intro w1 hown hgrow
  have hb0 : Buf w' w1 (n0 + 9 + n3) 0 (pre g0 0) := ⟨hown, (Below.refl _ w').grown hgrow (Nat.le_refl _) (fun k hk => by cases hk)⟩
  clear hown hgrow HN p4
  go_wp2_with fail
  go_loopw [9, 10] (fun t i wr => ∃ k : Nat, k ≤ n0 ∧ i = .int .i64 k ∧ t = .slice (some ⟨w'.heap.size, 0, none⟩) k (n0 + 9 + n3) ∧ Buf w' wr (n0 + 9 + n3) k (pre g0 k)) (fun _ i _ => n0 - (intOf i).toNat)
  case atStart => exact ⟨0, by omega, rfl, rfl, hb0⟩
  case round =>
    obtain ⟨k, hk, rfl, rfl, hbuf⟩ := hrel
    clear hb0 p1 p2 p3
    by_cases hlt : k < n0
    · obtain ⟨_, _, _, hc0⟩ := hd0
      rcases hc0 with hc0 | ⟨b, o, rfl, hbl, hc0⟩
      · omega
      · have q1 := hbuf.old (hc0 k hlt)
        clear hd3 hc0
        have ho1 := hbuf.own
        go_wp2_with (at_builtin; refine wpList_append_fits _ rfl _ _ 22 rfl w'.heap.size 5 i0 1 Try.underlying22 hi hz1 w'.heap.size k (n0 + 9 + n3) _ rfl (ho1.alloc _) ⟨wr.heap.size, 0, none⟩ 1 1 [.int .u8 (g0 k)] rfl rfl (new_cell _ _ _) (one_cell _) (by omega) ?_)
        intro w2 ho2 hg2
        have hb2 := hbuf.app ho2 hg2
        rw [← pre_succ] at hb2
        clear ho1 ho2 hg2 hbuf q1
        go_wp2_with fail
        go_roundw
        case rel => exact ⟨k + 1, by omega, by go_num, rfl, hb2⟩
        case measure => simp [intOf]; omega
    · have hkn : k = n0 := by omega
      subst hkn
      have ho1 := hbuf.own
      go_wp2_with (at_builtin; refine wpList_append_fits _ rfl _ _ 22 rfl w'.heap.size 5 i0 1 Try.underlying22 hi hz1 w'.heap.size k (k + 9 + n3) _ rfl (ho1.alloc _) ⟨wr.heap.size, 0, none⟩ 1 1 [.int .u8 (bits .or .u8 m 27)] rfl rfl (new_cell _ _ _) (one_cell _) (by omega) ?_)
      intro w2 ho2 hg2
      have hb2 := hbuf.app ho2 hg2
      clear ho1 ho2 hg2 hbuf
      go_wp2_with fail
      go_loopw [9, 13] (fun t i wr => ∃ j : Nat, j ≤ 8 ∧ i = .int .i64 ((7 : Int) - j) ∧ t = .slice (some ⟨w'.heap.size, 0, none⟩) (k + 1 + j) (k + 9 + n3) ∧ Buf w' wr (k + 9 + n3) (k + 1 + j) (pre g0 k ++ [bits .or .u8 m 27] ++ pre (hb v 8) j)) (fun _ i _ => (intOf i + 1).toNat)
      case atStart => exact ⟨0, by omega, rfl, rfl, by simpa [pre_zero] using hb2⟩
      case round =>
        obtain ⟨j, hj, rfl, rfl, hbuf⟩ := hrel
        clear hb2
        rename World => wr2
        by_cases hlt2 : j < 8
        · have ho1 := hbuf.own
          go_wp2_with (at_builtin; refine wpList_append_fits _ rfl _ _ 22 rfl w'.heap.size 5 i0 1 Try.underlying22 hi hz1 w'.heap.size (k + 1 + j) (k + 9 + n3) _ rfl (ho1.alloc _) ⟨wr2.heap.size, 0, none⟩ 1 1 [.int .u8 _] rfl rfl (new_cell _ _ _) (one_cell _) (by omega) ?_)
          intro w3 ho3 hg3
          have hb3 := hbuf.app (x := hb v 8 j) (by simpa [hb] using ho3) hg3
          rw [List.append_assoc, ← pre_succ] at hb3
          clear ho1 ho3 hg3 hbuf
          go_wp2_with fail
          go_roundw
          case rel => exact ⟨j + 1, by omega, by go_num, rfl, hb3⟩
          case measure => simp [intOf]; omega
        · have hjn : j = 8 := by omega
          subst hjn
          go_wp2_with fail
          generalize hHL : pre g0 k ++ [bits .or .u8 m 27] ++ pre (hb v 8) 8 = HL at *
          go_loopw [9, 15] (fun t i wr => ∃ j : Nat, j ≤ n3 ∧ i = .int .i64 j ∧ t = .slice (some ⟨w'.heap.size, 0, none⟩) (k + 1 + 8 + j) (k + 9 + n3) ∧ Buf w' wr (k + 9 + n3) (k + 1 + 8 + j) (HL ++ pre g3 j)) (fun _ i _ => n3 - (intOf i).toNat)
          case atStart => exact ⟨0, by omega, rfl, rfl, by simpa [pre_zero] using hbuf⟩
          case round =>
            obtain ⟨j, hj, rfl, rfl, hbuf3⟩ := hrel
            clear hbuf hHL
            rename World => wr3
            by_cases hlt3 : j < n3
            · obtain ⟨_, _, _, hc3⟩ := hd3
              rcases hc3 with hc3 | ⟨b, o, rfl, hbl, hc3⟩
              · omega
              · have q1 := hbuf3.old (hc3 j hlt3)
                clear hc3
                have ho1 := hbuf3.own
                go_wp2_with (at_builtin; refine wpList_append_fits _ rfl _ _ 22 rfl w'.heap.size 5 i0 1 Try.underlying22 hi hz1 w'.heap.size (k + 1 + 8 + j) (k + 9 + n3) _ rfl (ho1.alloc _) ⟨wr3.heap.size, 0, none⟩ 1 1 [.int .u8 (g3 j)] rfl rfl (new_cell _ _ _) (one_cell _) (by omega) ?_)
                intro w4 ho4 hg4
                have hb4 := hbuf3.app (x := g3 j) (by simpa using ho4) hg4
                rw [List.append_assoc, ← pre_succ] at hb4
                clear ho1 ho4 hg4 hbuf3 q1
                go_wp2_with fail
                go_roundw
                case rel => first | exact ⟨j + 1, by omega, by go_num, rfl, hb4⟩ | ((repeat apply Exists.intro); exact ⟨⟨j + 1, by omega, by go_num, rfl, hb4⟩, rfl⟩)
                case measure => simp [intOf]; omega
            · have hjn : j = n3 := by omega
              subst hjn
              have hdat := hbuf3.data (by omega) (by omega) (by omega) HOK.out
              have hbel := hbuf3.below
              clear hbuf3
              go_wp2_with fail
              refine (zzHead_any wr3 _ (k + 1 + 8 + j) (k + 9 + j) (fun i => (HL ++ pre g3 j).getD i 0) k false m hdat (by omega) (by omega)).mono ?_
              rw [HOUT.out]
              rintro e w5 ⟨rfl, hb5⟩
              have hbel5 := hbel.trans (hb5.mono hbel.size)
              clear hbel hb5 hdat
              go_wp2_with fail
              go_ret
              exact ⟨ret_bool (by simp), hbel5⟩

theorem head_law_long (a0 a3 : Option Addr) (n0 c0 n3 c3 : Nat) (m v : Int) (w : World) (h0 : n0 ≤ 9223372036854775807) (h3 : n3 ≤ 9223372036854775807) (h : 1048576 < n0 + n3) :
    Calls Try.prog 3 #[.slice a0 n0 c0, .int .u8 m, .int .u64 v, .slice a3 n3 c3] w fun e w' => e = .returned (.bool true) ∧ Below w.heap.size w w' := by
  go_enter Try.func3, Try.ntmps3
  go_wp2_with (go_at_call 5; refine (bytes5_no a0 a3 n0 c0 n3 c3 m v _ h0 h3 h).mono ?_; rintro e w' ⟨rfl, hw⟩; subst hw)
  go_ret
  exact ⟨rfl, Below.refl _ _⟩

theorem head_law_odd (a0 a3 : Option Addr) (n0 c0 n3 c3 : Nat) (m v : Int) (w : World) (hs : n0 + n3 ≤ 1048576) (hm0 : 0 ≤ m) (hm1 : m ≤ 255) (hm : m % 32 ≠ 0) :
    Calls Try.prog 3 #[.slice a0 n0 c0, .int .u8 m, .int .u64 v, .slice a3 n3 c3] w fun e w' => e = .returned (.bool true) ∧ Below w.heap.size w w' := by
  have p1 : decide ((1048576 : Int) < (n0 : Int)) = false := decide_eq_false (by omega)
  have p2 : decide ((1048576 : Int) < (n3 : Int)) = false := decide_eq_false (by omega)
  have p3 : decide ((1048576 : Int) < (n0 : Int) + (n3 : Int)) = false := decide_eq_false (by omega)
  have p4 : (m % 32 != 0) = true := by simpa using hm
  go_enter Try.func3, Try.ntmps3
  go_wp2_with (go_at_call 5; refine (bytes5_yes a0 a3 n0 c0 n3 c3 m v _ hs).mono ?_; rintro e w' ⟨rfl, hw⟩; subst hw)
  go_ret
  exact ⟨rfl, Below.refl _ _⟩

end Go.Proofs.Qxb6602399a
