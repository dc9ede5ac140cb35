/-
  THE WALK of cborReader's head (10) where an argument of 1, 2, 4 or 8 bytes follows.
-/
import Derived.Test.Qxb6602399aReadWalks
import Derived.Test.Qxb6602399aCbor
namespace Go.Proofs.Qxb6602399a
open Go.RowKit

theorem ret_int {k : IntKind} {a b : Int} (h : a = b) : Ending.returned (.int k a) = .returned (.int k b) := by rw [h]

set_option maxHeartbeats 4000000 in
theorem head_long_1 (B : Nat) (b0 o0 : Nat) (len cap : Nat) (o : Nat) (g : Nat → Int) (major : Int) (w : World) (hl : len ≤ 2000000) (hlc : len ≤ cap) (h : Rd w B (some ⟨b0, o0, none⟩) len cap o false)
    (hg : ∀ j, j < len → w.cell? ⟨b0, o0 + j, none⟩ = some (.int .u8 (g j))) (hr : ∀ j, j < len → 0 ≤ g j ∧ g j ≤ 255) (hB : b0 ≠ B)
    (hm : (bits .and .u8 (g o) 224 != major) = false) (hy : bits .and .u8 (g o) 31 = 24) (hs : o + 1 + 1 ≤ len) :
    Calls Try.prog 10 #[.pointer (some ⟨B, 0, none⟩), .int .u8 major] w fun e w' => e = .returned (.int .u64 (be g (o + 1) 1)) ∧ After w w' B ((o : Int) + 1 + 1) false := by
  have ho : o < len := by omega
  have hx := hg o ho
  have h0 := h.data
  have h1 := h.off
  have h2 := h.failed
  have f1 := h.fz1
  have f2 := h.fz2
  have hlt : decide ((len : Int) - o < 1) = false := decide_eq_false (by omega)
  have hin : (o : Int) < (len : Int) := by omega
  have hin2 : (0 : Int) ≤ (o : Int) := by omega
  have HG : Hid (∀ j, j < len → w.cell? ⟨b0, o0 + j, none⟩ = some (.int .u8 (g j))) := hg
  have HR : Hid (∀ j, j < len → 0 ≤ g j ∧ g j ≤ 255) := hr
  clear hg hr
  have d1 : decide ((len : Int) - ((o : Int) + 1) < 1) = false := decide_eq_false (by omega)
  go_enter Try.func10, Try.ntmps10
  go_wp2
  go_quiet ((go_at_call 12; exact Calls.quiet_of (left_any B _ len cap o _ hl (by omega) (by omega) (by simpa using h0) (by simpa using h1))))
  obtain ⟨n1, e1⟩ : ∃ n1, n1 = nq := ⟨_, rfl⟩
  subst e1
  go_wp2
  go_quiet (fail)
  obtain ⟨n2, e1⟩ : ∃ n1, n1 = nq := ⟨_, rfl⟩
  subst e1
  go_wp2_with (go_at_call 12; refine (left_any B _ len cap ((o : Int) + 1) _ hl (by omega) (by omega) (by exact (h.drewN.setOff _).data) (by exact (h.drewN.setOff _).off)).mono ?_; rintro e w' ⟨rfl, m, rfl⟩)
  go_quiet (fail)
  go_wp2
  have R : Rd ((((w.drewN (n1 + n2)).setCell ⟨B, 1, none⟩ (.int .i64 ((o : Int) + 1))).drewN m).drewN nq) B (some ⟨b0, o0, none⟩) len cap ((o : Int) + 1) false := ((h.drewN.setOff _).drewN).drewN
  have A : After w ((((w.drewN (n1 + n2)).setCell ⟨B, 1, none⟩ (.int .i64 ((o : Int) + 1))).drewN m).drewN nq) B ((o : Int) + 1) false := (((After.start h).drewN.setOff _).drewN).drewN
  have G : ∀ j, j < len → ((((w.drewN (n1 + n2)).setCell ⟨B, 1, none⟩ (.int .i64 ((o : Int) + 1))).drewN m).drewN nq).cell? ⟨b0, o0 + j, none⟩ = some (.int .u8 (g j)) := by
    intro j hj
    rw [World.cell?_drewN, World.cell?_drewN, World.cell?_setCell_other _ _ _ _ (fun e => hB (congrArg Addr.block e).symm)]
    exact HG.out j hj
  generalize ((((w.drewN (n1 + n2)).setCell ⟨B, 1, none⟩ (.int .i64 ((o : Int) + 1))).drewN m).drewN nq) = W at *
  have HG2 : Hid (∀ j, j < len → W.cell? ⟨b0, o0 + j, none⟩ = some (.int .u8 (g j))) := G
  clear G HG h0 h1 h2 f1 f2 hx
  have r1 := R.off
  have r2 := R.fz1
  go_loop [6, 87] (fun t i => ∃ k : Nat, k ≤ 1 ∧ i = .int .i64 k ∧ t = .int .u64 (be g (o + 1) k)) (fun _ i => 1 - (intOf i).toNat)
  case atStart => exact ⟨0, by omega, rfl, rfl⟩
  case round =>
    obtain ⟨k, hk, rfl, rfl⟩ := hrel
    clear hm hlt hy d1
    by_cases hlt : k < 1
    · have hc2 : W.cell? ⟨b0, o0 + (o + 1) + k, none⟩ = some (.int .u8 (g (o + 1 + k))) := by rw [show o0 + (o + 1) + k = o0 + (o + 1 + k) by omega]; exact HG2.out (o + 1 + k) (by omega)
      have HJ : Hid (bits .or .u64 (IntKind.u64.wrap (be g (o + 1) k * 256)) (IntKind.u64.wrap (g (o + 1 + k))) = be g (o + 1) (k + 1)) := by
        have hb := be_small g (o + 1) k (by omega) (fun j hj => HR.out _ (by omega))
        have hb2 := HR.out (o + 1 + k) (by omega)
        exact or_join _ _ hb.1 hb.2 hb2.1 hb2.2
      go_wp2
      go_round
      case rel => exact ⟨k + 1, by omega, by go_num, by rw [HJ.out]⟩
      case measure => simp [intOf]; omega
    · have hkn : k = 1 := by omega
      subst hkn
      go_wp2
      go_ret
      exact ⟨rfl, A.setOff _⟩

set_option maxHeartbeats 4000000 in
theorem head_long_2 (B : Nat) (b0 o0 : Nat) (len cap : Nat) (o : Nat) (g : Nat → Int) (major : Int) (w : World) (hl : len ≤ 2000000) (hlc : len ≤ cap) (h : Rd w B (some ⟨b0, o0, none⟩) len cap o false)
    (hg : ∀ j, j < len → w.cell? ⟨b0, o0 + j, none⟩ = some (.int .u8 (g j))) (hr : ∀ j, j < len → 0 ≤ g j ∧ g j ≤ 255) (hB : b0 ≠ B)
    (hm : (bits .and .u8 (g o) 224 != major) = false) (hy : bits .and .u8 (g o) 31 = 25) (hs : o + 1 + 2 ≤ len) :
    Calls Try.prog 10 #[.pointer (some ⟨B, 0, none⟩), .int .u8 major] w fun e w' => e = .returned (.int .u64 (be g (o + 1) 2)) ∧ After w w' B ((o : Int) + 1 + 2) false := by
  have ho : o < len := by omega
  have hx := hg o ho
  have h0 := h.data
  have h1 := h.off
  have h2 := h.failed
  have f1 := h.fz1
  have f2 := h.fz2
  have hlt : decide ((len : Int) - o < 1) = false := decide_eq_false (by omega)
  have hin : (o : Int) < (len : Int) := by omega
  have hin2 : (0 : Int) ≤ (o : Int) := by omega
  have HG : Hid (∀ j, j < len → w.cell? ⟨b0, o0 + j, none⟩ = some (.int .u8 (g j))) := hg
  have HR : Hid (∀ j, j < len → 0 ≤ g j ∧ g j ≤ 255) := hr
  clear hg hr
  have d1 : decide ((len : Int) - ((o : Int) + 1) < 2) = false := decide_eq_false (by omega)
  go_enter Try.func10, Try.ntmps10
  go_wp2
  go_quiet ((go_at_call 12; exact Calls.quiet_of (left_any B _ len cap o _ hl (by omega) (by omega) (by simpa using h0) (by simpa using h1))))
  obtain ⟨n1, e1⟩ : ∃ n1, n1 = nq := ⟨_, rfl⟩
  subst e1
  go_wp2
  go_quiet (fail)
  obtain ⟨n2, e1⟩ : ∃ n1, n1 = nq := ⟨_, rfl⟩
  subst e1
  go_wp2_with (go_at_call 12; refine (left_any B _ len cap ((o : Int) + 1) _ hl (by omega) (by omega) (by exact (h.drewN.setOff _).data) (by exact (h.drewN.setOff _).off)).mono ?_; rintro e w' ⟨rfl, m, rfl⟩)
  go_quiet (fail)
  go_wp2
  have R : Rd ((((w.drewN (n1 + n2)).setCell ⟨B, 1, none⟩ (.int .i64 ((o : Int) + 1))).drewN m).drewN nq) B (some ⟨b0, o0, none⟩) len cap ((o : Int) + 1) false := ((h.drewN.setOff _).drewN).drewN
  have A : After w ((((w.drewN (n1 + n2)).setCell ⟨B, 1, none⟩ (.int .i64 ((o : Int) + 1))).drewN m).drewN nq) B ((o : Int) + 1) false := (((After.start h).drewN.setOff _).drewN).drewN
  have G : ∀ j, j < len → ((((w.drewN (n1 + n2)).setCell ⟨B, 1, none⟩ (.int .i64 ((o : Int) + 1))).drewN m).drewN nq).cell? ⟨b0, o0 + j, none⟩ = some (.int .u8 (g j)) := by
    intro j hj
    rw [World.cell?_drewN, World.cell?_drewN, World.cell?_setCell_other _ _ _ _ (fun e => hB (congrArg Addr.block e).symm)]
    exact HG.out j hj
  generalize ((((w.drewN (n1 + n2)).setCell ⟨B, 1, none⟩ (.int .i64 ((o : Int) + 1))).drewN m).drewN nq) = W at *
  have HG2 : Hid (∀ j, j < len → W.cell? ⟨b0, o0 + j, none⟩ = some (.int .u8 (g j))) := G
  clear G HG h0 h1 h2 f1 f2 hx
  have r1 := R.off
  have r2 := R.fz1
  go_loop [6, 87] (fun t i => ∃ k : Nat, k ≤ 2 ∧ i = .int .i64 k ∧ t = .int .u64 (be g (o + 1) k)) (fun _ i => 2 - (intOf i).toNat)
  case atStart => exact ⟨0, by omega, rfl, rfl⟩
  case round =>
    obtain ⟨k, hk, rfl, rfl⟩ := hrel
    clear hm hlt hy d1
    by_cases hlt : k < 2
    · have hc2 : W.cell? ⟨b0, o0 + (o + 1) + k, none⟩ = some (.int .u8 (g (o + 1 + k))) := by rw [show o0 + (o + 1) + k = o0 + (o + 1 + k) by omega]; exact HG2.out (o + 1 + k) (by omega)
      have HJ : Hid (bits .or .u64 (IntKind.u64.wrap (be g (o + 1) k * 256)) (IntKind.u64.wrap (g (o + 1 + k))) = be g (o + 1) (k + 1)) := by
        have hb := be_small g (o + 1) k (by omega) (fun j hj => HR.out _ (by omega))
        have hb2 := HR.out (o + 1 + k) (by omega)
        exact or_join _ _ hb.1 hb.2 hb2.1 hb2.2
      go_wp2
      go_round
      case rel => exact ⟨k + 1, by omega, by go_num, by rw [HJ.out]⟩
      case measure => simp [intOf]; omega
    · have hkn : k = 2 := by omega
      subst hkn
      go_wp2
      go_ret
      exact ⟨rfl, A.setOff _⟩

set_option maxHeartbeats 4000000 in
theorem head_long_4 (B : Nat) (b0 o0 : Nat) (len cap : Nat) (o : Nat) (g : Nat → Int) (major : Int) (w : World) (hl : len ≤ 2000000) (hlc : len ≤ cap) (h : Rd w B (some ⟨b0, o0, none⟩) len cap o false)
    (hg : ∀ j, j < len → w.cell? ⟨b0, o0 + j, none⟩ = some (.int .u8 (g j))) (hr : ∀ j, j < len → 0 ≤ g j ∧ g j ≤ 255) (hB : b0 ≠ B)
    (hm : (bits .and .u8 (g o) 224 != major) = false) (hy : bits .and .u8 (g o) 31 = 26) (hs : o + 1 + 4 ≤ len) :
    Calls Try.prog 10 #[.pointer (some ⟨B, 0, none⟩), .int .u8 major] w fun e w' => e = .returned (.int .u64 (be g (o + 1) 4)) ∧ After w w' B ((o : Int) + 1 + 4) false := by
  have ho : o < len := by omega
  have hx := hg o ho
  have h0 := h.data
  have h1 := h.off
  have h2 := h.failed
  have f1 := h.fz1
  have f2 := h.fz2
  have hlt : decide ((len : Int) - o < 1) = false := decide_eq_false (by omega)
  have hin : (o : Int) < (len : Int) := by omega
  have hin2 : (0 : Int) ≤ (o : Int) := by omega
  have HG : Hid (∀ j, j < len → w.cell? ⟨b0, o0 + j, none⟩ = some (.int .u8 (g j))) := hg
  have HR : Hid (∀ j, j < len → 0 ≤ g j ∧ g j ≤ 255) := hr
  clear hg hr
  have d1 : decide ((len : Int) - ((o : Int) + 1) < 4) = false := decide_eq_false (by omega)
  go_enter Try.func10, Try.ntmps10
  go_wp2
  go_quiet ((go_at_call 12; exact Calls.quiet_of (left_any B _ len cap o _ hl (by omega) (by omega) (by simpa using h0) (by simpa using h1))))
  obtain ⟨n1, e1⟩ : ∃ n1, n1 = nq := ⟨_, rfl⟩
  subst e1
  go_wp2
  go_quiet (fail)
  obtain ⟨n2, e1⟩ : ∃ n1, n1 = nq := ⟨_, rfl⟩
  subst e1
  go_wp2_with (go_at_call 12; refine (left_any B _ len cap ((o : Int) + 1) _ hl (by omega) (by omega) (by exact (h.drewN.setOff _).data) (by exact (h.drewN.setOff _).off)).mono ?_; rintro e w' ⟨rfl, m, rfl⟩)
  go_quiet (fail)
  go_wp2
  have R : Rd ((((w.drewN (n1 + n2)).setCell ⟨B, 1, none⟩ (.int .i64 ((o : Int) + 1))).drewN m).drewN nq) B (some ⟨b0, o0, none⟩) len cap ((o : Int) + 1) false := ((h.drewN.setOff _).drewN).drewN
  have A : After w ((((w.drewN (n1 + n2)).setCell ⟨B, 1, none⟩ (.int .i64 ((o : Int) + 1))).drewN m).drewN nq) B ((o : Int) + 1) false := (((After.start h).drewN.setOff _).drewN).drewN
  have G : ∀ j, j < len → ((((w.drewN (n1 + n2)).setCell ⟨B, 1, none⟩ (.int .i64 ((o : Int) + 1))).drewN m).drewN nq).cell? ⟨b0, o0 + j, none⟩ = some (.int .u8 (g j)) := by
    intro j hj
    rw [World.cell?_drewN, World.cell?_drewN, World.cell?_setCell_other _ _ _ _ (fun e => hB (congrArg Addr.block e).symm)]
    exact HG.out j hj
  generalize ((((w.drewN (n1 + n2)).setCell ⟨B, 1, none⟩ (.int .i64 ((o : Int) + 1))).drewN m).drewN nq) = W at *
  have HG2 : Hid (∀ j, j < len → W.cell? ⟨b0, o0 + j, none⟩ = some (.int .u8 (g j))) := G
  clear G HG h0 h1 h2 f1 f2 hx
  have r1 := R.off
  have r2 := R.fz1
  go_loop [6, 87] (fun t i => ∃ k : Nat, k ≤ 4 ∧ i = .int .i64 k ∧ t = .int .u64 (be g (o + 1) k)) (fun _ i => 4 - (intOf i).toNat)
  case atStart => exact ⟨0, by omega, rfl, rfl⟩
  case round =>
    obtain ⟨k, hk, rfl, rfl⟩ := hrel
    clear hm hlt hy d1
    by_cases hlt : k < 4
    · have hc2 : W.cell? ⟨b0, o0 + (o + 1) + k, none⟩ = some (.int .u8 (g (o + 1 + k))) := by rw [show o0 + (o + 1) + k = o0 + (o + 1 + k) by omega]; exact HG2.out (o + 1 + k) (by omega)
      have HJ : Hid (bits .or .u64 (IntKind.u64.wrap (be g (o + 1) k * 256)) (IntKind.u64.wrap (g (o + 1 + k))) = be g (o + 1) (k + 1)) := by
        have hb := be_small g (o + 1) k (by omega) (fun j hj => HR.out _ (by omega))
        have hb2 := HR.out (o + 1 + k) (by omega)
        exact or_join _ _ hb.1 hb.2 hb2.1 hb2.2
      go_wp2
      go_round
      case rel => exact ⟨k + 1, by omega, by go_num, by rw [HJ.out]⟩
      case measure => simp [intOf]; omega
    · have hkn : k = 4 := by omega
      subst hkn
      go_wp2
      go_ret
      exact ⟨rfl, A.setOff _⟩

set_option maxHeartbeats 4000000 in
theorem head_long_8 (B : Nat) (b0 o0 : Nat) (len cap : Nat) (o : Nat) (g : Nat → Int) (major : Int) (w : World) (hl : len ≤ 2000000) (hlc : len ≤ cap) (h : Rd w B (some ⟨b0, o0, none⟩) len cap o false)
    (hg : ∀ j, j < len → w.cell? ⟨b0, o0 + j, none⟩ = some (.int .u8 (g j))) (hr : ∀ j, j < len → 0 ≤ g j ∧ g j ≤ 255) (hB : b0 ≠ B)
    (hm : (bits .and .u8 (g o) 224 != major) = false) (hy : bits .and .u8 (g o) 31 = 27) (hs : o + 1 + 8 ≤ len) :
    Calls Try.prog 10 #[.pointer (some ⟨B, 0, none⟩), .int .u8 major] w fun e w' => e = .returned (.int .u64 (be g (o + 1) 8)) ∧ After w w' B ((o : Int) + 1 + 8) false := by
  have ho : o < len := by omega
  have hx := hg o ho
  have h0 := h.data
  have h1 := h.off
  have h2 := h.failed
  have f1 := h.fz1
  have f2 := h.fz2
  have hlt : decide ((len : Int) - o < 1) = false := decide_eq_false (by omega)
  have hin : (o : Int) < (len : Int) := by omega
  have hin2 : (0 : Int) ≤ (o : Int) := by omega
  have HG : Hid (∀ j, j < len → w.cell? ⟨b0, o0 + j, none⟩ = some (.int .u8 (g j))) := hg
  have HR : Hid (∀ j, j < len → 0 ≤ g j ∧ g j ≤ 255) := hr
  clear hg hr
  have d1 : decide ((len : Int) - ((o : Int) + 1) < 8) = false := decide_eq_false (by omega)
  go_enter Try.func10, Try.ntmps10
  go_wp2
  go_quiet ((go_at_call 12; exact Calls.quiet_of (left_any B _ len cap o _ hl (by omega) (by omega) (by simpa using h0) (by simpa using h1))))
  obtain ⟨n1, e1⟩ : ∃ n1, n1 = nq := ⟨_, rfl⟩
  subst e1
  go_wp2
  go_quiet (fail)
  obtain ⟨n2, e1⟩ : ∃ n1, n1 = nq := ⟨_, rfl⟩
  subst e1
  go_wp2_with (go_at_call 12; refine (left_any B _ len cap ((o : Int) + 1) _ hl (by omega) (by omega) (by exact (h.drewN.setOff _).data) (by exact (h.drewN.setOff _).off)).mono ?_; rintro e w' ⟨rfl, m, rfl⟩)
  go_quiet (fail)
  go_wp2
  have R : Rd ((((w.drewN (n1 + n2)).setCell ⟨B, 1, none⟩ (.int .i64 ((o : Int) + 1))).drewN m).drewN nq) B (some ⟨b0, o0, none⟩) len cap ((o : Int) + 1) false := ((h.drewN.setOff _).drewN).drewN
  have A : After w ((((w.drewN (n1 + n2)).setCell ⟨B, 1, none⟩ (.int .i64 ((o : Int) + 1))).drewN m).drewN nq) B ((o : Int) + 1) false := (((After.start h).drewN.setOff _).drewN).drewN
  have G : ∀ j, j < len → ((((w.drewN (n1 + n2)).setCell ⟨B, 1, none⟩ (.int .i64 ((o : Int) + 1))).drewN m).drewN nq).cell? ⟨b0, o0 + j, none⟩ = some (.int .u8 (g j)) := by
    intro j hj
    rw [World.cell?_drewN, World.cell?_drewN, World.cell?_setCell_other _ _ _ _ (fun e => hB (congrArg Addr.block e).symm)]
    exact HG.out j hj
  generalize ((((w.drewN (n1 + n2)).setCell ⟨B, 1, none⟩ (.int .i64 ((o : Int) + 1))).drewN m).drewN nq) = W at *
  have HG2 : Hid (∀ j, j < len → W.cell? ⟨b0, o0 + j, none⟩ = some (.int .u8 (g j))) := G
  clear G HG h0 h1 h2 f1 f2 hx
  have r1 := R.off
  have r2 := R.fz1
  go_loop [6, 87] (fun t i => ∃ k : Nat, k ≤ 8 ∧ i = .int .i64 k ∧ t = .int .u64 (be g (o + 1) k)) (fun _ i => 8 - (intOf i).toNat)
  case atStart => exact ⟨0, by omega, rfl, rfl⟩
  case round =>
    obtain ⟨k, hk, rfl, rfl⟩ := hrel
    clear hm hlt hy d1
    by_cases hlt : k < 8
    · have hc2 : W.cell? ⟨b0, o0 + (o + 1) + k, none⟩ = some (.int .u8 (g (o + 1 + k))) := by rw [show o0 + (o + 1) + k = o0 + (o + 1 + k) by omega]; exact HG2.out (o + 1 + k) (by omega)
      have HJ : Hid (bits .or .u64 (IntKind.u64.wrap (be g (o + 1) k * 256)) (IntKind.u64.wrap (g (o + 1 + k))) = be g (o + 1) (k + 1)) := by
        have hb := be_small g (o + 1) k (by omega) (fun j hj => HR.out _ (by omega))
        have hb2 := HR.out (o + 1 + k) (by omega)
        exact or_join _ _ hb.1 hb.2 hb2.1 hb2.2
      go_wp2
      go_round
      case rel => exact ⟨k + 1, by omega, by go_num, by rw [HJ.out]⟩
      case measure => simp [intOf]; omega
    · have hkn : k = 8 := by omega
      subst hkn
      go_wp2
      go_ret
      exact ⟨rfl, A.setOff _⟩

end Go.Proofs.Qxb6602399a
