/-
  THE BRIDGE: what the walk writes of Go's operations on 64-bit words, in the words of Nat. No Go function in sight.
-/
import Derived.Laws.BitsAllLaws
import Derived.Test.Qxb6003627aMath
namespace Go.Proofs.Qxb6003627a
open Crc

/-- A word: an unsigned number of 64 bits. -/
def Word (n : Nat) : Prop := n < 18446744073709551616

theorem two64 : (18446744073709551616 : Nat) = 2 ^ 64 := by decide
theorem Word.of {w n : Nat} (hw : w ≤ 64) (h : n < 2 ^ w) : Word n := by
  unfold Word; rw [two64]; exact Nat.lt_of_lt_of_le h (Nat.pow_le_pow_right (by decide) hw)
theorem Word.xor {a b : Nat} (ha : Word a) (hb : Word b) : Word (a ^^^ b) := by
  unfold Word at *; rw [two64] at *; exact Nat.xor_lt_two_pow ha hb
theorem Word.half {a : Nat} (ha : Word a) : Word (a / 2) := by unfold Word at *; omega
theorem Word.zero : Word 0 := by unfold Word; omega
theorem Word.tx {p v : Nat} (hp : Word p) (hv : Word v) : Word (tx p v) := by
  unfold Word at *; rw [two64] at *; exact tx_lt hp hv
theorem Word.tm {p v : Nat} (hp : Word p) (u k : Nat) (hv : Word v) : Word (tm p u k v) := by
  unfold Word at *; rw [two64] at *; exact tm_lt hp u k v hv
theorem Word.div {a : Nat} (ha : Word a) (b : Nat) : Word (a / b) := Nat.lt_of_le_of_lt (Nat.div_le_self a b) ha

theorem xor_word {a b : Nat} (ha : Word a) (hb : Word b) : bits .xor .u64 (a : Int) (b : Int) = ((a ^^^ b : Nat) : Int) := u64_xor_nat a b ha hb

theorem and_one {a : Nat} (ha : Word a) : bits .and .u64 (a : Int) 1 = ((a % 2 : Nat) : Int) := by
  have h := u64_and_nat a 1 ha (by decide)
  rw [nat_mask1] at h
  exact h

theorem odd_test {a : Nat} (ha : Word a) : (bits .and .u64 (a : Int) 1 != 0) = decide (a % 2 = 1) := by
  rw [and_one ha]
  rw [Bool.eq_iff_iff]; simp only [bne_iff_ne, ne_eq, decide_eq_true_eq]; omega
theorem bit_test {a : Nat} (ha : Word a) (k : Nat) : (bits .and .u64 ((a : Int) / 2 ^ k) 1 != 0) = a.testBit k := by
  have e : ((a : Int) / 2 ^ k) = ((a / 2 ^ k : Nat) : Int) := by
    rw [Int.natCast_ediv]; simp
  rw [e, odd_test (ha.div _), Nat.testBit_eq_decide_div_mod_eq]

theorem tx_odd {p v : Nat} (hp : Word p) (hv : Word v) (h : (bits .and .u64 (v : Int) 1 != 0) = true) : bits .xor .u64 ((v : Int) / 2) (p : Int) = ((tx p v : Nat) : Int) := by
  rw [odd_test hv] at h
  have e := xor_word (hv.half) hp
  rw [Int.natCast_ediv] at e
  unfold tx; rw [if_pos (by simpa using h)]; exact e
theorem tx_even {p v : Nat} (hv : Word v) (h : (bits .and .u64 (v : Int) 1 != 0) = false) : (v : Int) / 2 = ((tx p v : Nat) : Int) := by
  rw [odd_test hv] at h
  unfold tx; rw [if_neg (by simpa using h)]; simp

theorem pow_word {k : Nat} (h : k < 64) : Word (2 ^ k) := by
  unfold Word; rw [two64]; exact Nat.pow_lt_pow_right (by decide) h
theorem wrap_word {n : Nat} (h : Word n) : IntKind.u64.wrap (n : Int) = n := by
  unfold Word at h
  simp [IntKind.wrap, IntKind.bits, IntKind.signed]; omega
theorem wrap_pow {k : Nat} (h : k < 64) : IntKind.u64.wrap (2 ^ k) = ((2 ^ k : Nat) : Int) := by
  have e := wrap_word (pow_word h)
  rw [← e]; congr 1
theorem wrap_mask {k : Nat} (h : k < 64) : IntKind.u64.wrap (IntKind.u64.wrap (2 ^ k) - 1) = ((2 ^ k - 1 : Nat) : Int) := by
  have h0 := Nat.two_pow_pos k
  rw [wrap_pow h]
  have e : ((2 ^ k : Nat) : Int) - 1 = ((2 ^ k - 1 : Nat) : Int) := by omega
  rw [e]
  exact wrap_word (Nat.lt_of_le_of_lt (Nat.sub_le _ _) (pow_word h))

/-- The mask of w bits, and the one of the ring: under names of their own, so that no tactic reckons them out. -/
def msk (w : Nat) : Nat := 2 ^ w - 1
def one (w : Nat) : Nat := 2 ^ (w - 1)
theorem lt_of_msk {w n : Nat} (h : n ≤ msk w) : n < 2 ^ w := by
  have := Nat.two_pow_pos w; unfold msk at h; omega
theorem one_lt {w : Nat} (h : 1 ≤ w) : one w < 2 ^ w := Nat.pow_lt_pow_right (by omega) (by omega)
theorem one_word {w : Nat} (h : w ≤ 64) (h1 : 1 ≤ w) : Word (one w) := pow_word (by omega)
theorem wrap_one {w : Nat} (h : w ≤ 64) (h1 : 1 ≤ w) : IntKind.u64.wrap (2 ^ (w - 1)) = ((one w : Nat) : Int) := wrap_pow (by omega)
end Go.Proofs.Qxb6003627a
