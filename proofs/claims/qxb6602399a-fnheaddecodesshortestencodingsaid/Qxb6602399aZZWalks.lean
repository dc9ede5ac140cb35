/-
  THE WALKS of cborReader's bool (11), of ZZHead (6), ZZBool (9), zzCloneBytes (8).
-/
import Derived.Test.Qxb6602399aLongWalk
import Derived.Lib.SliceRun
namespace Go.Proofs.Qxb6602399a
open Go.RowKit

theorem ret_bool {a b : Bool} (h : a = b) : Ending.returned (.bool a) = .returned (.bool b) := by rw [h]

/-! ### bool -/
set_option maxHeartbeats 1000000 in
theorem bool_failed (B : Nat) (a : Option Addr) (len cap : Nat) (off : Int) (w : World) (h : Rd w B a len cap off true) :
    Calls Try.prog 11 #[.pointer (some ⟨B, 0, none⟩)] w fun e w' => e = .returned (.bool false) ∧ After w w' B off true := by
  have h0 := h.data
  have h1 := h.off
  have h2 := h.failed
  have f2 := h.fz2
  go_enter Try.func11, Try.ntmps11
  go_wp2_with (go_at_call 13; refine (fail_any B true _ (by simpa using h2) (by simpa using f2)).mono ?_; rintro e w' ⟨rfl, rfl⟩)
  go_ret
  exact ⟨rfl, (After.start h).setFail _⟩

set_option maxHeartbeats 1000000 in
theorem bool_end (B : Nat) (a : Option Addr) (len cap : Nat) (off : Int) (w : World) (hl : len ≤ 2000000) (ho : 0 ≤ off) (ho' : off ≤ 9223372036854775807) (hlo : (len : Int) ≤ off) (h : Rd w B a len cap off false) :
    Calls Try.prog 11 #[.pointer (some ⟨B, 0, none⟩)] w fun e w' => e = .returned (.bool false) ∧ After w w' B off true := by
  have h0 := h.data
  have h1 := h.off
  have h2 := h.failed
  have f2 := h.fz2
  have hlt : decide ((len : Int) - off < 1) = true := decide_eq_true (by omega)
  go_enter Try.func11, Try.ntmps11
  go_wp2_with (first
    | (go_at_call 12; refine (left_any B a len cap off _ hl ho ho' (by simpa using h0) (by simpa using h1)).mono ?_; rintro e w' ⟨rfl, m, rfl⟩)
    | (go_at_call 13; refine (fail_any B false _ (by simpa using h2) (by simpa using f2)).mono ?_; rintro e w' ⟨rfl, rfl⟩))
  go_ret
  exact ⟨rfl, (After.start h).drewN.setFail _⟩

set_option maxHeartbeats 1000000 in
/-- A byte is there: what it says, and whether it fails. -/
theorem bool_in (B : Nat) (b0 o0 : Nat) (len cap : Nat) (o : Nat) (x : Int) (w : World) (hl : len ≤ 2000000) (ho : o < len) (h : Rd w B (some ⟨b0, o0, none⟩) len cap o false) (hx : w.cell? ⟨b0, o0 + o, none⟩ = some (.int .u8 x)) (hB : b0 ≠ B) :
    Calls Try.prog 11 #[.pointer (some ⟨B, 0, none⟩)] w fun e w' => e = .returned (.bool (x == 245)) ∧ After w w' B ((o : Int) + 1) (!(x == 245) && !(x == 244)) := by
  have h0 := h.data
  have h1 := h.off
  have h2 := h.failed
  have f1 := h.fz1
  have f2 := h.fz2
  have hlt : decide ((len : Int) - o < 1) = false := decide_eq_false (by omega)
  have hxx : x = 245 ∨ x = 244 ∨ ((x == 245) = false ∧ (x == 244) = false) := by
    by_cases e : x = 245
    · exact .inl e
    · by_cases e' : x = 244
      · exact .inr (.inl e')
      · exact .inr (.inr ⟨by simpa using e, by simpa using e'⟩)
  rcases hxx with rfl | rfl | ⟨e1, e2⟩
  all_goals
    go_enter Try.func11, Try.ntmps11
    go_wp2_with (go_at_call 12; refine (left_any B _ len cap o _ hl (by omega) (by omega) (by simpa using h0) (by simpa using h1)).mono ?_; rintro e w' ⟨rfl, m, rfl⟩)
    have R : Rd (((w.drewN m).setCell ⟨B, 1, none⟩ (.int .i64 ((o : Int) + 1)))) B (some ⟨b0, o0, none⟩) len cap ((o : Int) + 1) false := h.drewN.setOff _
    have A : After w (((w.drewN m).setCell ⟨B, 1, none⟩ (.int .i64 ((o : Int) + 1)))) B ((o : Int) + 1) false := (After.start h).drewN.setOff _
    have G : (((w.drewN m).setCell ⟨B, 1, none⟩ (.int .i64 ((o : Int) + 1)))).cell? ⟨b0, o0 + o, none⟩ = w.cell? ⟨b0, o0 + o, none⟩ := by
      rw [World.cell?_setCell_other _ _ _ _ (fun e => hB (congrArg Addr.block e).symm), World.cell?_drewN]
    rw [hx] at G
    generalize (((w.drewN m).setCell ⟨B, 1, none⟩ (.int .i64 ((o : Int) + 1)))) = W at *
    have r0 := R.data
    have r1 := R.off
    have hin : (o : Int) < (len : Int) := by omega
    have hin2 : (0 : Int) ≤ (o : Int) := by omega
    have hin3 : (o : Int) + 1 - 1 = (o : Int) := by omega
    clear hx h0 h1 h2 f1 f2
    go_quiet (fail)
    go_wp2_with (go_at_call 13; refine (fail_any B false _ (by exact R.drewN.failed) (by exact R.drewN.fz2)).mono ?_; rintro e w' ⟨rfl, rfl⟩)
    go_ret
    first
    | exact ⟨rfl, A.drewN⟩
    | exact ⟨ret_bool e1.symm, by rw [e1, e2]; exact A.drewN.setFail _⟩

/-! ### what the two methods answer, as plain functions -/
def sz (y : Int) : Nat := if y = 24 then 1 else if y = 25 then 2 else if y = 26 then 4 else 8

def headOut (g : Nat → Int) (len : Nat) (off : Int) (failed : Bool) (major : Int) : Int × Int × Bool :=
  if failed = true ∨ (len : Int) ≤ off then (0, off, true)
  else if bits .and .u8 (g off.toNat) 224 ≠ major then (0, off, true)
  else if bits .and .u8 (g off.toNat) 31 < 24 then (bits .and .u8 (g off.toNat) 31, off + 1, false)
  else if 27 < bits .and .u8 (g off.toNat) 31 then (0, off + 1, true)
  else if len < off.toNat + 1 + sz (bits .and .u8 (g off.toNat) 31) then (0, off + 1, true)
  else (be g (off.toNat + 1) (sz (bits .and .u8 (g off.toNat) 31)), off + 1 + sz (bits .and .u8 (g off.toNat) 31), false)

def boolOut (g : Nat → Int) (len : Nat) (off : Int) (failed : Bool) : Bool × Int × Bool :=
  if failed = true ∨ (len : Int) ≤ off then (false, off, true)
  else (g off.toNat == 245, off + 1, !(g off.toNat == 245) && !(g off.toNat == 244))

/-- A slice of bytes, whether or not it has any. -/
def Data (w : World) (a : Option Addr) (len cap : Nat) (g : Nat → Int) : Prop :=
  len ≤ 2000000 ∧ len ≤ cap ∧ (∀ j, j < len → 0 ≤ g j ∧ g j ≤ 255) ∧ (len = 0 ∨ ∃ b off, a = some ⟨b, off, none⟩ ∧ b < w.heap.size ∧ ∀ j, j < len → w.cell? ⟨b, off + j, none⟩ = some (.int .u8 (g j)))

theorem Data.kept {w w' : World} {a : Option Addr} {len cap : Nat} {g : Nat → Int} (h : Data w a len cap g) (hb : Below w.heap.size w w') : Data w' a len cap g := by
  obtain ⟨h1, h2, h3, h4⟩ := h
  refine ⟨h1, h2, h3, ?_⟩
  rcases h4 with h4 | ⟨b, o, rfl, hlt, hc⟩
  · exact .inl h4
  · exact .inr ⟨b, o, rfl, Nat.lt_of_lt_of_le hlt hb.size, fun j hj => by rw [hb.cell (p := ⟨b, o + j, none⟩) hlt]; exact hc j hj⟩

theorem head_any (w0 w : World) (a : Option Addr) (len cap : Nat) (g : Nat → Int) (off : Int) (failed : Bool) (major : Int) (hd : Data w0 a len cap g) (hb : Below w0.heap.size w0 w) (ho : 0 ≤ off) (ho' : off ≤ 9223372036854775807)
    (h : Rd w w0.heap.size a len cap off failed) :
    Calls Try.prog 10 #[.pointer (some ⟨w0.heap.size, 0, none⟩), .int .u8 major] w fun e w' => e = .returned (.int .u64 (headOut g len off failed major).1) ∧ After w w' w0.heap.size (headOut g len off failed major).2.1 (headOut g len off failed major).2.2 := by
  obtain ⟨hl, hlc, hr, hc⟩ := hd
  unfold headOut
  cases failed with
  | true => rw [if_pos (.inl rfl)]; exact head_failed _ a len cap off major w h
  | false =>
    by_cases hlo : (len : Int) ≤ off
    · rw [if_pos (.inr hlo)]; exact head_end _ a len cap off major w hl ho ho' hlo h
    · rw [if_neg (by simp; omega)]
      rcases hc with hc | ⟨b0, o0, rfl, hlt, hc⟩
      · omega
      · obtain ⟨o, rfl⟩ : ∃ o : Nat, off = o := ⟨off.toNat, by omega⟩
        have hol : o < len := by omega
        have hB : b0 ≠ w0.heap.size := by omega
        have hg : ∀ j, j < len → w.cell? ⟨b0, o0 + j, none⟩ = some (.int .u8 (g j)) := fun j hj => by rw [hb.cell (p := ⟨b0, o0 + j, none⟩) hlt]; exact hc j hj
        rw [Int.toNat_natCast]
        by_cases hm : bits .and .u8 (g o) 224 ≠ major
        · rw [if_pos hm]; exact head_other _ b0 o0 len cap o (g o) major w hl hol h (hg o hol) (by simpa using hm)
        · rw [if_neg hm]
          have hm' : (bits .and .u8 (g o) 224 != major) = false := by simpa using hm
          obtain ⟨_, hp1, hp2, _⟩ := byte_parts (g o) (hr o hol).1 (hr o hol).2
          by_cases h1 : bits .and .u8 (g o) 31 < 24
          · rw [if_pos h1]; exact head_short _ b0 o0 len cap o (g o) major _ w hl hol h (hg o hol) hm' rfl hp1 h1
          · rw [if_neg h1]
            by_cases h2 : 27 < bits .and .u8 (g o) 31
            · rw [if_pos h2]; exact head_bad _ b0 o0 len cap o (g o) major _ w hl hol h (hg o hol) hm' rfl h2 hp2
            · rw [if_neg h2]
              have hy : bits .and .u8 (g o) 31 = 24 ∨ bits .and .u8 (g o) 31 = 25 ∨ bits .and .u8 (g o) 31 = 26 ∨ bits .and .u8 (g o) 31 = 27 := by omega
              rcases hy with hy | hy | hy | hy
              · rw [show sz (bits .and .u8 (g o) 31) = 1 by rw [hy]; rfl]
                by_cases h3 : len < o + 1 + 1
                · rw [if_pos h3]; exact head_cut _ b0 o0 len cap o (g o) major 24 1 w hl hol h (hg o hol) hm' hy (.inl ⟨rfl, rfl⟩) h3
                · rw [if_neg h3]; exact head_long_1 _ b0 o0 len cap o g major w hl hlc h hg hr hB hm' hy (by omega)
              · rw [show sz (bits .and .u8 (g o) 31) = 2 by rw [hy]; rfl]
                by_cases h3 : len < o + 1 + 2
                · rw [if_pos h3]; exact head_cut _ b0 o0 len cap o (g o) major 25 2 w hl hol h (hg o hol) hm' hy (.inr (.inl ⟨rfl, rfl⟩)) h3
                · rw [if_neg h3]; exact head_long_2 _ b0 o0 len cap o g major w hl hlc h hg hr hB hm' hy (by omega)
              · rw [show sz (bits .and .u8 (g o) 31) = 4 by rw [hy]; rfl]
                by_cases h3 : len < o + 1 + 4
                · rw [if_pos h3]; exact head_cut _ b0 o0 len cap o (g o) major 26 4 w hl hol h (hg o hol) hm' hy (.inr (.inr (.inl ⟨rfl, rfl⟩))) h3
                · rw [if_neg h3]; exact head_long_4 _ b0 o0 len cap o g major w hl hlc h hg hr hB hm' hy (by omega)
              · rw [show sz (bits .and .u8 (g o) 31) = 8 by rw [hy]; rfl]
                by_cases h3 : len < o + 1 + 8
                · rw [if_pos h3]; exact head_cut _ b0 o0 len cap o (g o) major 27 8 w hl hol h (hg o hol) hm' hy (.inr (.inr (.inr ⟨rfl, rfl⟩))) h3
                · rw [if_neg h3]; exact head_long_8 _ b0 o0 len cap o g major w hl hlc h hg hr hB hm' hy (by omega)

theorem bool_any (w0 w : World) (a : Option Addr) (len cap : Nat) (g : Nat → Int) (off : Int) (failed : Bool) (hd : Data w0 a len cap g) (hb : Below w0.heap.size w0 w) (ho : 0 ≤ off) (ho' : off ≤ 9223372036854775807)
    (h : Rd w w0.heap.size a len cap off failed) :
    Calls Try.prog 11 #[.pointer (some ⟨w0.heap.size, 0, none⟩)] w fun e w' => e = .returned (.bool (boolOut g len off failed).1) ∧ After w w' w0.heap.size (boolOut g len off failed).2.1 (boolOut g len off failed).2.2 := by
  obtain ⟨hl, hlc, hr, hc⟩ := hd
  unfold boolOut
  cases failed with
  | true => rw [if_pos (.inl rfl)]; exact bool_failed _ a len cap off w h
  | false =>
    by_cases hlo : (len : Int) ≤ off
    · rw [if_pos (.inr hlo)]; exact bool_end _ a len cap off w hl ho ho' hlo h
    · rw [if_neg (by simp; omega)]
      rcases hc with hc | ⟨b0, o0, rfl, hlt, hc⟩
      · omega
      · obtain ⟨o, rfl⟩ : ∃ o : Nat, off = o := ⟨off.toNat, by omega⟩
        rw [Int.toNat_natCast]
        exact bool_in _ b0 o0 len cap o (g o) w hl (by omega) h (by rw [hb.cell (p := ⟨b0, o0 + o, none⟩) hlt]; exact hc o (by omega)) (by omega)

/-! ### ZZHead, ZZBool -/
theorem rd_new (w : World) (a : Option Addr) (len cap : Nat) (off : Int) (failed : Bool) : Rd (w.alloc (.cells #[.slice a len cap, .int .i64 off, .bool failed] 34)) w.heap.size a len cap off failed := by
  refine ⟨?_, ?_, ?_, ?_, ?_⟩ <;> go_simp

set_option maxHeartbeats 1000000 in
theorem zzHead_any (w : World) (a : Option Addr) (len cap : Nat) (g : Nat → Int) (off : Int) (failed : Bool) (major : Int) (hd : Data w a len cap g) (ho : 0 ≤ off) (ho' : off ≤ 9223372036854775807) :
    Calls Try.prog 6 #[.slice a len cap, .int .i64 off, .bool failed, .int .u8 major] w fun e w' => e = .returned (.tuple #[.int .u64 (headOut g len off failed major).1, .int .i64 (headOut g len off failed major).2.1, .bool (headOut g len off failed major).2.2]) ∧ Below w.heap.size w w' := by
  have hh := head_any w _ a len cap g off failed major hd ((Below.refl _ w).alloc (Nat.le_refl _) _) ho ho' (rd_new w a len cap off failed)
  generalize headOut g len off failed major = r at *
  obtain ⟨n, o', f'⟩ := r
  have HH : Hid _ := hh
  clear hh
  go_enter Try.func6, Try.ntmps6
  go_wp2_with fail
  refine Calls.mono HH.out ?_
  rintro e w' ⟨rfl, hA⟩
  have hbel : Below w.heap.size w w' := ((Below.refl _ w).alloc (Nat.le_refl _) _).trans hA.below
  have h1 := hA.off
  have h2 := hA.failed
  clear HH hA
  go_wp2
  go_quiet (fail)
  go_wp2
  go_ret3
  exact ⟨rfl, ⟨hbel.os, hbel.tape, hbel.output, hbel.size, hbel.block⟩⟩

set_option maxHeartbeats 1000000 in
theorem zzBool_any (w : World) (a : Option Addr) (len cap : Nat) (g : Nat → Int) (off : Int) (failed : Bool) (hd : Data w a len cap g) (ho : 0 ≤ off) (ho' : off ≤ 9223372036854775807) :
    Calls Try.prog 9 #[.slice a len cap, .int .i64 off, .bool failed] w fun e w' => e = .returned (.tuple #[.bool (boolOut g len off failed).1, .int .i64 (boolOut g len off failed).2.1, .bool (boolOut g len off failed).2.2]) ∧ Below w.heap.size w w' := by
  have hh := bool_any w _ a len cap g off failed hd ((Below.refl _ w).alloc (Nat.le_refl _) _) ho ho' (rd_new w a len cap off failed)
  generalize boolOut g len off failed = r at *
  obtain ⟨n, o', f'⟩ := r
  have HH : Hid _ := hh
  clear hh
  go_enter Try.func9, Try.ntmps9
  go_wp2_with fail
  refine Calls.mono HH.out ?_
  rintro e w' ⟨rfl, hA⟩
  have hbel : Below w.heap.size w w' := ((Below.refl _ w).alloc (Nat.le_refl _) _).trans hA.below
  have h1 := hA.off
  have h2 := hA.failed
  clear HH hA
  go_wp2
  go_quiet (fail)
  go_wp2
  go_ret3
  exact ⟨rfl, ⟨hbel.os, hbel.tape, hbel.output, hbel.size, hbel.block⟩⟩

end Go.Proofs.Qxb6602399a
