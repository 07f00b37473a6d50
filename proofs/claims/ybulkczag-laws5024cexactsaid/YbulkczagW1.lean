import Derived.Test.YbulkczagRows
import Derived.WalkKit
import Derived.WalkSpells
import Derived.WalkLawsBesides
import Derived.Deep.QuietTactic
import Derived.BigQuiet
namespace Go.Proofs.Ybulkczag
open Go.RowKit

/-- A byte, an ASCII letter lowered. -/
def low (c : Int) : Int := if 65 ≤ c ∧ c ≤ 90 then c + 32 else c
theorem low_bd {c : Int} (h0 : 0 ≤ c) (h1 : c ≤ 255) : 0 ≤ low c ∧ low c ≤ 255 := by unfold low; split <;> omega
theorem ret_int {k : IntKind} {a b : Int} (h : a = b) : Ending.returned (.int k a) = .returned (.int k b) := by rw [h]

set_option maxHeartbeats 400000 in
theorem lowA (c : Int) (w : World) (h0 : 0 ≤ c) (h1 : c ≤ 255) : Calls Yba.prog 9 #[.int .u8 c] w fun e w' => e = .returned (.int .u8 (low c)) ∧ w' = w := by
  by_cases ha : 65 ≤ c
  · by_cases hb : c ≤ 90
    · go_enter Yba.func9, Yba.ntmps9
      go_wp2
      go_ret
      exact ⟨ret_int (by unfold low; rw [if_pos ⟨ha, hb⟩]; omega), rfl⟩
    · go_enter Yba.func9, Yba.ntmps9
      go_wp2
      go_ret
      exact ⟨ret_int (by unfold low; rw [if_neg (by omega)]), rfl⟩
  · go_enter Yba.func9, Yba.ntmps9
    go_wp2
    go_ret
    exact ⟨ret_int (by unfold low; rw [if_neg (by omega)]), rfl⟩

set_option maxHeartbeats 400000 in
theorem lowB (c : Int) (w : World) (h0 : 0 ≤ c) (h1 : c ≤ 255) : Calls Yba.prog 8 #[.int .u8 c] w fun e w' => e = .returned (.int .u8 (low c)) ∧ w' = w := by
  by_cases ha : 65 ≤ c
  · by_cases hb : c ≤ 90
    · go_enter Yba.func8, Yba.ntmps8
      go_wp2
      go_ret
      exact ⟨ret_int (by unfold low; rw [if_pos ⟨ha, hb⟩]), rfl⟩
    · go_enter Yba.func8, Yba.ntmps8
      go_wp2
      go_ret
      exact ⟨ret_int (by unfold low; rw [if_neg (by omega)]), rfl⟩
  · go_enter Yba.func8, Yba.ntmps8
    go_wp2
    go_ret
    exact ⟨ret_int (by unfold low; rw [if_neg (by omega)]), rfl⟩

def flip (c : Int) : Int := if 65 ≤ c ∧ c ≤ 90 then c + 32 else if 97 ≤ c ∧ c ≤ 122 then c - 32 else c
theorem low_flip (c : Int) : low (flip c) = low c := by unfold low flip; split <;> (try split) <;> (repeat' split) <;> omega
theorem flip_bd {c : Int} (h0 : 0 ≤ c) (h1 : c ≤ 255) : 0 ≤ flip c ∧ flip c ≤ 255 := by unfold flip; split <;> (try split) <;> omega

set_option maxHeartbeats 400000 in
theorem flip_any (c : Int) (w : World) (h0 : 0 ≤ c) (h1 : c ≤ 255) : Calls Yba.prog 7 #[.int .u8 c] w fun e w' => e = .returned (.int .u8 (flip c)) ∧ w' = w := by
  rcases (by omega : c < 65 ∨ (65 ≤ c ∧ c ≤ 90) ∨ (90 < c ∧ c < 97) ∨ (97 ≤ c ∧ c ≤ 122) ∨ 122 < c) with h | ⟨h, h'⟩ | ⟨h, h'⟩ | ⟨h, h'⟩ | h
  all_goals
    go_enter Yba.func7, Yba.ntmps7
    go_wp2
    go_ret
    exact ⟨ret_int (by unfold flip; first | rw [if_pos (by omega)] | rw [if_neg (by omega), if_pos (by omega)] | rw [if_neg (by omega), if_neg (by omega)]), rfl⟩

/-- The key of three bytes. -/
def key3 (a b c : Int) : Int := low a * 65536 + low b * 256 + low c

set_option maxHeartbeats 400000 in
theorem name_other (s : ByteArray) (w : World) (h : ¬ s.size = 3) : Calls Yba.prog 5 #[.string s] w fun e w' => e = .returned (.int .u32 0) ∧ w' = w := by
  have h' : ((s.size : Int) != 3) = true := by simp; omega
  go_enter Yba.func5, Yba.ntmps5
  go_wp2
  go_ret
  exact ⟨rfl, rfl⟩

theorem u8_bd (x : UInt8) : (0 : Int) ≤ (x.toNat : Int) ∧ (x.toNat : Int) ≤ 255 := by have := x.toNat_lt; omega

theorem bits_or_u32 (a b : Nat) (ha : a < 4294967296) (hb : b < 4294967296) : bits .or .u32 (a : Int) (b : Int) = ((a ||| b : Nat) : Int) := by
  have hx : a ||| b < 2 ^ 32 := Nat.or_lt_two_pow (by omega) (by omega)
  have h1 : (BitVec.ofInt 32 (a : Int)).toNat = a := by
    rw [BitVec.ofInt_natCast, BitVec.toNat_ofNat]; exact Nat.mod_eq_of_lt (by omega)
  have h2 : (BitVec.ofInt 32 (b : Int)).toNat = b := by
    rw [BitVec.ofInt_natCast, BitVec.toNat_ofNat]; exact Nat.mod_eq_of_lt (by omega)
  show IntKind.u32.wrap ((BitVec.ofInt 32 (a : Int) ||| BitVec.ofInt 32 (b : Int)).toNat : Int) = _
  have hw : ∀ n : Int, IntKind.u32.wrap n = n % 4294967296 := fun n => by simp [IntKind.wrap, IntKind.bits, IntKind.signed]
  rw [BitVec.toNat_or, h1, h2, hw]
  omega

/-- A number whose low byte is empty, or a byte: their sum. -/
theorem or_byte (a b : Int) (ha : 0 ≤ a) (ha' : a < 16777216) (hb : 0 ≤ b) (hb' : b < 256) : bits .or .u32 (a * 256) b = a * 256 + b := by
  obtain ⟨x, rfl⟩ : ∃ x : Nat, a = (x : Int) := ⟨a.toNat, by omega⟩
  obtain ⟨y, rfl⟩ : ∃ y : Nat, b = (y : Int) := ⟨b.toNat, by omega⟩
  have h := Nat.shiftLeft_add_eq_or_of_lt (show y < 2 ^ 8 by omega) x
  rw [Nat.shiftLeft_eq] at h
  have e : ((x : Int) * 256) = ((x * 2 ^ 8 : Nat) : Int) := by omega
  rw [e, bits_or_u32 _ _ (by omega) (by omega), ← h]
  omega

theorem key_spelt (x y z : Int) (hx : 0 ≤ x ∧ x ≤ 255) (hy : 0 ≤ y ∧ y ≤ 255) (hz : 0 ≤ z ∧ z ≤ 255) :
    bits .or .u32 (bits .or .u32 (x % 4294967296 * 65536 % 4294967296) (y % 4294967296 * 256 % 4294967296)) (z % 4294967296) = x * 65536 + y * 256 + z := by
  have e1 : x % 4294967296 * 65536 % 4294967296 = x * 65536 := by omega
  have e2 : y % 4294967296 * 256 % 4294967296 = y * 256 := by omega
  have e3 : z % 4294967296 = z := by omega
  rw [e1, e2, e3]
  obtain ⟨a, rfl⟩ : ∃ a : Nat, x = (a : Int) := ⟨x.toNat, by omega⟩
  obtain ⟨b, rfl⟩ : ∃ b : Nat, y = (b : Int) := ⟨y.toNat, by omega⟩
  have h := Nat.shiftLeft_add_eq_or_of_lt (show b * 256 < 2 ^ 16 by omega) a
  rw [Nat.shiftLeft_eq] at h
  have f1 : ((a : Int) * 65536) = ((a * 2 ^ 16 : Nat) : Int) := by omega
  have f2 : ((b : Int) * 256) = ((b * 256 : Nat) : Int) := by omega
  have f3 : bits .or .u32 ((a : Int) * 65536) ((b : Int) * 256) = ((a : Int) * 256 + b) * 256 := by
    rw [f1, f2, bits_or_u32 _ _ (by omega) (by omega), ← h]; omega
  rw [f3, or_byte _ _ (by omega) (by omega) (by omega) (by omega)]
  omega

theorem model_spelt (x y z : Int) (hx : 0 ≤ x ∧ x ≤ 255) (hy : 0 ≤ y ∧ y ≤ 255) (hz : 0 ≤ z ∧ z ≤ 255) :
    bits .or .u32 (bits .or .u32 (bits .or .u32 0 (x % 4294967296) * 256 % 4294967296) (y % 4294967296) * 256 % 4294967296) (z % 4294967296) = x * 65536 + y * 256 + z := by
  have e1 : x % 4294967296 = x := by omega
  have e2 : y % 4294967296 = y := by omega
  have e3 : z % 4294967296 = z := by omega
  have f0 : bits .or .u32 0 x = x := by
    have := or_byte 0 x (by omega) (by omega) hx.1 (by omega)
    simpa using this
  rw [e1, e2, e3, f0]
  have g1 : x * 256 % 4294967296 = x * 256 := by omega
  rw [g1, or_byte _ _ (by omega) (by omega) (by omega) (by omega)]
  have g2 : (x * 256 + y) * 256 % 4294967296 = (x * 256 + y) * 256 := by omega
  rw [g2, or_byte _ _ (by omega) (by omega) (by omega) (by omega)]
  omega

set_option maxHeartbeats 400000 in
theorem name_three (s : ByteArray) (w : World) (h : s.size = 3) (a b c : Int) (h0 : (s[0].toNat : Int) = a) (h1 : (s[1].toNat : Int) = b) (h2 : (s[2].toNat : Int) = c) :
    Calls Yba.prog 5 #[.string s] w fun e w' => e = .returned (.int .u32 (key3 a b c)) ∧ ∃ n, w' = w.drewN n := by
  have h' : ((s.size : Int) != 3) = false := by simp; omega
  have H0 : Hid ((s[0].toNat : Int) = a) := h0
  have H1 : Hid ((s[1].toNat : Int) = b) := h1
  have H2 : Hid ((s[2].toNat : Int) = c) := h2
  clear h0 h1 h2
  go_enter Yba.func5, Yba.ntmps5
  go_wp2
  go_quiet ((go_at_call 9; exact Calls.quiet_of_same (lowA _ _ (u8_bd _).1 (u8_bd _).2)))
  go_wp2
  go_ret
  refine ⟨ret_int ?_, _, rfl⟩
  rw [key_spelt _ _ _ (low_bd (u8_bd _).1 (u8_bd _).2) (low_bd (u8_bd _).1 (u8_bd _).2) (low_bd (u8_bd _).1 (u8_bd _).2)]
  rw [H0.out, H1.out, H2.out]
  rfl

set_option maxHeartbeats 400000 in
theorem model_other (s : ByteArray) (w : World) (h : ¬ s.size = 3) : Calls Yba.prog 6 #[.string s] w fun e w' => e = .returned (.int .u32 0) ∧ w' = w := by
  have h' : ((s.size : Int) != 3) = true := by simp; omega
  go_enter Yba.func6, Yba.ntmps6
  go_wp2
  go_ret
  exact ⟨rfl, rfl⟩

set_option maxHeartbeats 400000 in
theorem model_three (s : ByteArray) (w : World) (h : s.size = 3) (a b c : Int) (h0 : (s[0].toNat : Int) = a) (h1 : (s[1].toNat : Int) = b) (h2 : (s[2].toNat : Int) = c) :
    Calls Yba.prog 6 #[.string s] w fun e w' => e = .returned (.int .u32 (key3 a b c)) ∧ w' = w := by
  have h' : ((s.size : Int) != 3) = false := by simp; omega
  have H0 : Hid ((s[0].toNat : Int) = a) := h0
  have H1 : Hid ((s[1].toNat : Int) = b) := h1
  have H2 : Hid ((s[2].toNat : Int) = c) := h2
  clear h0 h1 h2
  go_enter Yba.func6, Yba.ntmps6
  go_wp2
  refine wp_loop_rounds 4 ?_
  rw [rounds_succ]
  go_wp2_with (go_at_call 8; refine (lowB _ _ (u8_bd _).1 (u8_bd _).2).mono ?_; rintro e w' ⟨rfl, rfl⟩)
  rw [rounds_succ]
  go_wp2_with (go_at_call 8; refine (lowB _ _ (u8_bd _).1 (u8_bd _).2).mono ?_; rintro e w' ⟨rfl, rfl⟩)
  rw [rounds_succ]
  go_wp2_with (go_at_call 8; refine (lowB _ _ (u8_bd _).1 (u8_bd _).2).mono ?_; rintro e w' ⟨rfl, rfl⟩)
  rw [rounds_succ]
  go_wp2
  go_ret
  refine ⟨ret_int ?_, rfl⟩
  rw [model_spelt _ _ _ (low_bd (u8_bd _).1 (u8_bd _).2) (low_bd (u8_bd _).1 (u8_bd _).2) (low_bd (u8_bd _).1 (u8_bd _).2)]
  rw [H0.out, H1.out, H2.out]
  rfl
end Go.Proofs.Ybulkczag
