/-
  THE WALKS of cborReader's left (12), fail (13), head (10), bool (11).
-/
import Derived.Test.Qxb6602399aRows
import Derived.WalkKit
import Derived.Outline
import Derived.ProofKit
import Derived.Below
import Derived.Deep.QuietTactic
import Derived.BigQuiet
namespace Go.Proofs.Qxb6602399a
open Go.RowKit

/-- The reader that lies in block B. -/
structure Rd (w : World) (B : Nat) (a : Option Addr) (len cap : Nat) (off : Int) (failed : Bool) : Prop where
  data : w.cell? ⟨B, 0, none⟩ = some (.slice a len cap)
  off : w.cell? ⟨B, 1, none⟩ = some (.int .i64 off)
  failed : w.cell? ⟨B, 2, none⟩ = some (.bool failed)
  fz1 : w.frozen? ⟨B, 1, none⟩ = false
  fz2 : w.frozen? ⟨B, 2, none⟩ = false

/-- The bytes of the data. -/
def Bytes (w : World) (a : Option Addr) (n : Nat) (g : Nat → Int) : Prop := ∀ j, j < n → ∃ b off, a = some ⟨b, off, none⟩ ∧ w.cell? ⟨b, off + j, none⟩ = some (.int .u8 (g j))

theorem left_any (B : Nat) (a : Option Addr) (len cap : Nat) (off : Int) (w : World) (hl : len ≤ 2000000) (ho : 0 ≤ off) (ho' : off ≤ 9223372036854775807)
    (h0 : w.cell? ⟨B, 0, none⟩ = some (.slice a len cap)) (h1 : w.cell? ⟨B, 1, none⟩ = some (.int .i64 off)) :
    Calls Try.prog 12 #[.pointer (some ⟨B, 0, none⟩)] w fun e w' => e = .returned (.int .i64 ((len : Int) - off)) ∧ ∃ m, w' = w.drewN m := by
  go_enter Try.func12, Try.ntmps12
  go_wp2
  go_quiet (fail)
  go_wp2
  go_ret
  exact ⟨rfl, _, rfl⟩

theorem fail_any (B : Nat) (f : Bool) (w : World) (h2 : w.cell? ⟨B, 2, none⟩ = some (.bool f)) (hf : w.frozen? ⟨B, 2, none⟩ = false) :
    Calls Try.prog 13 #[.pointer (some ⟨B, 0, none⟩)] w fun e w' => e = .returned (.tuple #[]) ∧ w' = w.setCell ⟨B, 2, none⟩ (.bool true) := by
  go_enter Try.func13, Try.ntmps13
  go_wp2
  go_end0
  exact ⟨rfl, rfl⟩

/-- What a call on the reader leaves: nothing below block B has turned; the reader's two fields. -/
structure After (w w' : World) (B : Nat) (off : Int) (failed : Bool) : Prop where
  below : Below B w w'
  off : w'.cell? ⟨B, 1, none⟩ = some (.int .i64 off)
  failed : w'.cell? ⟨B, 2, none⟩ = some (.bool failed)

theorem After.start {w : World} {B : Nat} {a : Option Addr} {len cap : Nat} {off : Int} {failed : Bool} (h : Rd w B a len cap off failed) : After w w B off failed := ⟨Below.refl _ _, h.off, h.failed⟩
theorem After.drewN {w w' : World} {B : Nat} {off : Int} {failed : Bool} (h : After w w' B off failed) {m : Nat} : After w (w'.drewN m) B off failed :=
  ⟨⟨h.below.os, h.below.tape, h.below.output, h.below.size, h.below.block⟩, h.off, h.failed⟩
theorem After.setOff {w w' : World} {B : Nat} {off : Int} {failed : Bool} (h : After w w' B off failed) (o : Int) : After w (w'.setCell ⟨B, 1, none⟩ (.int .i64 o)) B o failed :=
  ⟨h.below.setCell (Nat.le_refl _) _, World.cell?_setCell_same _ _ _ h.off, by rw [World.cell?_setCell_other _ _ _ _ (by simp)]; exact h.failed⟩
theorem After.setFail {w w' : World} {B : Nat} {off : Int} {failed : Bool} (h : After w w' B off failed) (f : Bool) : After w (w'.setCell ⟨B, 2, none⟩ (.bool f)) B off f :=
  ⟨h.below.setCell (Nat.le_refl _) _, by rw [World.cell?_setCell_other _ _ _ _ (by simp)]; exact h.off, World.cell?_setCell_same _ _ _ h.failed⟩

theorem Rd.drewN {w : World} {B : Nat} {a : Option Addr} {len cap : Nat} {off : Int} {failed : Bool} (h : Rd w B a len cap off failed) {m : Nat} : Rd (w.drewN m) B a len cap off failed := ⟨h.data, h.off, h.failed, h.fz1, h.fz2⟩
theorem Rd.setOff {w : World} {B : Nat} {a : Option Addr} {len cap : Nat} {off : Int} {failed : Bool} (h : Rd w B a len cap off failed) (o : Int) : Rd (w.setCell ⟨B, 1, none⟩ (.int .i64 o)) B a len cap o failed :=
  ⟨by rw [World.cell?_setCell_other _ _ _ _ (by simp)]; exact h.data, World.cell?_setCell_same _ _ _ h.off, by rw [World.cell?_setCell_other _ _ _ _ (by simp)]; exact h.failed,
    by rw [World.frozen?_setCell]; exact h.fz1, by rw [World.frozen?_setCell]; exact h.fz2⟩

set_option maxHeartbeats 1000000 in
theorem head_failed (B : Nat) (a : Option Addr) (len cap : Nat) (off : Int) (major : Int) (w : World) (h : Rd w B a len cap off true) :
    Calls Try.prog 10 #[.pointer (some ⟨B, 0, none⟩), .int .u8 major] w fun e w' => e = .returned (.int .u64 0) ∧ After w w' B off true := by
  have h0 := h.data
  have h1 := h.off
  have h2 := h.failed
  have f2 := h.fz2
  go_enter Try.func10, Try.ntmps10
  go_wp2
  go_quiet (fail)
  go_wp2_with (go_at_call 13; refine (fail_any B true _ (by simpa using h2) (by simpa using f2)).mono ?_; rintro e w' ⟨rfl, rfl⟩)
  go_ret
  exact ⟨rfl, (After.start h).drewN.setFail _⟩

set_option maxHeartbeats 1000000 in
theorem head_end (B : Nat) (a : Option Addr) (len cap : Nat) (off : Int) (major : Int) (w : World) (hl : len ≤ 2000000) (ho : 0 ≤ off) (ho' : off ≤ 9223372036854775807) (hlo : (len : Int) ≤ off) (h : Rd w B a len cap off false) :
    Calls Try.prog 10 #[.pointer (some ⟨B, 0, none⟩), .int .u8 major] w fun e w' => e = .returned (.int .u64 0) ∧ After w w' B off true := by
  have h0 := h.data
  have h1 := h.off
  have h2 := h.failed
  have f2 := h.fz2
  have hlt : decide ((len : Int) - off < 1) = true := decide_eq_true (by omega)
  go_enter Try.func10, Try.ntmps10
  go_wp2
  go_quiet ((go_at_call 12; exact Calls.quiet_of (left_any B a len cap off _ hl ho ho' (by simpa using h0) (by simpa using h1))))
  go_wp2_with (go_at_call 13; refine (fail_any B false _ (by simpa using h2) (by simpa using f2)).mono ?_; rintro e w' ⟨rfl, rfl⟩)
  go_ret
  exact ⟨rfl, (After.start h).drewN.setFail _⟩

set_option maxHeartbeats 1000000 in
theorem head_other (B : Nat) (b0 o0 : Nat) (len cap : Nat) (o : Nat) (x : Int) (major : Int) (w : World) (hl : len ≤ 2000000) (ho : o < len) (h : Rd w B (some ⟨b0, o0, none⟩) len cap o false) (hx : w.cell? ⟨b0, o0 + o, none⟩ = some (.int .u8 x))
    (hm : (bits .and .u8 x 224 != major) = true) :
    Calls Try.prog 10 #[.pointer (some ⟨B, 0, none⟩), .int .u8 major] w fun e w' => e = .returned (.int .u64 0) ∧ After w w' B o true := by
  have h0 := h.data
  have h1 := h.off
  have h2 := h.failed
  have f2 := h.fz2
  have hlt : decide ((len : Int) - o < 1) = false := decide_eq_false (by omega)
  have hin : (o : Int) < (len : Int) := by omega
  have hin2 : (0 : Int) ≤ (o : Int) := by omega
  go_enter Try.func10, Try.ntmps10
  go_wp2
  go_quiet ((go_at_call 12; exact Calls.quiet_of (left_any B _ len cap o _ hl (by omega) (by omega) (by simpa using h0) (by simpa using h1))))
  go_wp2_with (go_at_call 13; refine (fail_any B false _ (by simpa using h2) (by simpa using f2)).mono ?_; rintro e w' ⟨rfl, rfl⟩)
  go_ret
  exact ⟨rfl, (After.start h).drewN.setFail _⟩

set_option maxHeartbeats 1000000 in
theorem head_short (B : Nat) (b0 o0 : Nat) (len cap : Nat) (o : Nat) (x : Int) (major y : Int) (w : World) (hl : len ≤ 2000000) (ho : o < len) (h : Rd w B (some ⟨b0, o0, none⟩) len cap o false) (hx : w.cell? ⟨b0, o0 + o, none⟩ = some (.int .u8 x))
    (hm : (bits .and .u8 x 224 != major) = false) (hy : bits .and .u8 x 31 = y) (hy0 : 0 ≤ y) (hy1 : y < 24) :
    Calls Try.prog 10 #[.pointer (some ⟨B, 0, none⟩), .int .u8 major] w fun e w' => e = .returned (.int .u64 y) ∧ After w w' B ((o : Int) + 1) false := by
  have h0 := h.data
  have h1 := h.off
  have h2 := h.failed
  have f1 := h.fz1
  have hlt : decide ((len : Int) - o < 1) = false := decide_eq_false (by omega)
  have hin : (o : Int) < (len : Int) := by omega
  have hin2 : (0 : Int) ≤ (o : Int) := by omega
  go_enter Try.func10, Try.ntmps10
  go_wp2
  go_quiet ((go_at_call 12; exact Calls.quiet_of (left_any B _ len cap o _ hl (by omega) (by omega) (by simpa using h0) (by simpa using h1))))
  go_wp2
  go_quiet (fail)
  go_wp2
  go_ret
  exact ⟨rfl, ((After.start h).drewN.setOff _)⟩

set_option maxHeartbeats 1000000 in
theorem head_bad (B : Nat) (b0 o0 : Nat) (len cap : Nat) (o : Nat) (x : Int) (major y : Int) (w : World) (hl : len ≤ 2000000) (ho : o < len) (h : Rd w B (some ⟨b0, o0, none⟩) len cap o false) (hx : w.cell? ⟨b0, o0 + o, none⟩ = some (.int .u8 x))
    (hm : (bits .and .u8 x 224 != major) = false) (hy : bits .and .u8 x 31 = y) (hy0 : 27 < y) (hy1 : y ≤ 31) :
    Calls Try.prog 10 #[.pointer (some ⟨B, 0, none⟩), .int .u8 major] w fun e w' => e = .returned (.int .u64 0) ∧ After w w' B ((o : Int) + 1) true := by
  have h0 := h.data
  have h1 := h.off
  have h2 := h.failed
  have f1 := h.fz1
  have f2 := h.fz2
  have hlt : decide ((len : Int) - o < 1) = false := decide_eq_false (by omega)
  have hin : (o : Int) < (len : Int) := by omega
  have hin2 : (0 : Int) ≤ (o : Int) := by omega
  have hyd : decide (27 < y) = true := decide_eq_true hy0
  go_enter Try.func10, Try.ntmps10
  go_wp2
  go_quiet ((go_at_call 12; exact Calls.quiet_of (left_any B _ len cap o _ hl (by omega) (by omega) (by simpa using h0) (by simpa using h1))))
  go_wp2
  go_quiet (fail)
  go_wp2_with (go_at_call 13; refine (fail_any B false _ (by exact (h.drewN.setOff _).failed) (by exact (h.drewN.setOff _).fz2)).mono ?_; rintro e w' ⟨rfl, rfl⟩)
  go_ret
  exact ⟨rfl, ((After.start h).drewN.setOff _).setFail _⟩

/-- The four widths. -/
def Wide (y : Int) (sz : Nat) : Prop := (y = 24 ∧ sz = 1) ∨ (y = 25 ∧ sz = 2) ∨ (y = 26 ∧ sz = 4) ∨ (y = 27 ∧ sz = 8)

set_option maxHeartbeats 2000000 in
theorem head_cut (B : Nat) (b0 o0 : Nat) (len cap : Nat) (o : Nat) (x : Int) (major y : Int) (sz : Nat) (w : World) (hl : len ≤ 2000000) (ho : o < len) (h : Rd w B (some ⟨b0, o0, none⟩) len cap o false) (hx : w.cell? ⟨b0, o0 + o, none⟩ = some (.int .u8 x))
    (hm : (bits .and .u8 x 224 != major) = false) (hy : bits .and .u8 x 31 = y) (hw : Wide y sz) (hs : len < o + 1 + sz) :
    Calls Try.prog 10 #[.pointer (some ⟨B, 0, none⟩), .int .u8 major] w fun e w' => e = .returned (.int .u64 0) ∧ After w w' B ((o : Int) + 1) true := by
  have h0 := h.data
  have h1 := h.off
  have h2 := h.failed
  have f1 := h.fz1
  have f2 := h.fz2
  have hlt : decide ((len : Int) - o < 1) = false := decide_eq_false (by omega)
  have hin : (o : Int) < (len : Int) := by omega
  have hin2 : (0 : Int) ≤ (o : Int) := by omega
  rcases hw with ⟨rfl, rfl⟩ | ⟨rfl, rfl⟩ | ⟨rfl, rfl⟩ | ⟨rfl, rfl⟩
  all_goals
    go_enter Try.func10, Try.ntmps10
    go_wp2
    go_quiet ((go_at_call 12; exact Calls.quiet_of (left_any B _ len cap o _ hl (by omega) (by omega) (by simpa using h0) (by simpa using h1))))
    go_wp2
    go_quiet (fail)
    go_wp2_with (first
      | (go_at_call 12; refine (left_any B _ len cap ((o : Int) + 1) _ hl (by omega) (by omega) (by exact (h.drewN.setOff _).data) (by exact (h.drewN.setOff _).off)).mono ?_; rintro e w' ⟨rfl, m, rfl⟩)
      | (go_at_call 13; refine (fail_any B false _ (by exact (h.drewN.setOff _).drewN.failed) (by exact (h.drewN.setOff _).drewN.fz2)).mono ?_; rintro e w' ⟨rfl, rfl⟩))
    go_ret
    exact ⟨rfl, ((After.start h).drewN.setOff _).drewN.setFail _⟩

end Go.Proofs.Qxb6602399a
