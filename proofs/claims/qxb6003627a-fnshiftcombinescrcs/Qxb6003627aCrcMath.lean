/-
  PLAIN MATHEMATICS: the bit-by-bit CRC register, and how two CRCs combine. No Go in sight.
-/
import Derived.Test.Qxb6003627aBits
namespace Go.Proofs.Qxb6003627a.Crc

/-- Bit j of the byte b. -/
def dbit (b j : Nat) : Nat := b / 2 ^ j % 2
/-- The byte b, shifted right by j. -/
def sh (b j : Nat) : Nat := b / 2 ^ j
/-- The register behind the first j bits of the byte b. -/
def byteN (p b : Nat) : Nat → Nat → Nat
  | 0, r => r
  | j + 1, r => tx p (byteN p b j r ^^^ dbit b j)
/-- The register behind all bytes. -/
def raw (p : Nat) : Nat → List Nat → Nat
  | r, [] => r
  | r, b :: bs => raw p (byteN p b 8 r) bs

theorem byteN_lin (p b : Nat) : ∀ j r, byteN p b j r = it p j r ^^^ byteN p b j 0
  | 0, r => by simp [byteN, it]
  | j + 1, r => by
    simp only [byteN]
    rw [byteN_lin p b j r, Nat.xor_assoc, tx_xor]
    congr 1
    exact (it_tx p j r).symm
theorem raw_lin (p : Nat) : ∀ bs r, raw p r bs = it p (8 * bs.length) r ^^^ raw p 0 bs
  | [], r => by simp [raw, it]
  | b :: bs, r => by
    simp only [raw, List.length_cons]
    rw [raw_lin p bs (byteN p b 8 r), raw_lin p bs (byteN p b 8 0), byteN_lin p b 8 r, it_xor, Nat.xor_assoc,
      show 8 * (bs.length + 1) = 8 * bs.length + 8 by omega, it_add]
theorem dbit_lt (b j : Nat) : dbit b j < 2 := Nat.mod_lt _ (by decide)
theorem byteN_lt {w p : Nat} (h1 : 1 ≤ w) (hp : p < 2 ^ w) (b : Nat) : ∀ j r, r < 2 ^ w → byteN p b j r < 2 ^ w
  | 0, _, h => h
  | j + 1, r, h => by
    have h2 : 2 ^ 1 ≤ 2 ^ w := Nat.pow_le_pow_right (by decide) h1
    have := dbit_lt b j
    exact tx_lt hp (Nat.xor_lt_two_pow (byteN_lt h1 hp b j r h) (by omega))
theorem raw_lt {w p : Nat} (h1 : 1 ≤ w) (hp : p < 2 ^ w) : ∀ bs r, r < 2 ^ w → raw p r bs < 2 ^ w
  | [], _, h => h
  | b :: bs, r, h => raw_lt h1 hp bs _ (byteN_lt h1 hp b 8 r h)
theorem xmid (a m b c : Nat) : (a ^^^ m) ^^^ (m ^^^ (b ^^^ c)) = (a ^^^ b) ^^^ c := by
  rw [Nat.xor_assoc, ← Nat.xor_assoc m m, xx, Nat.zero_xor, Nat.xor_assoc]
/-- THE LAW: the CRC of a followed by b out of those of a and of b. -/
theorem combine (p m : Nat) (as bs : List Nat) :
    it p (8 * bs.length) (raw p m as ^^^ m) ^^^ (raw p m bs ^^^ m) = raw p (raw p m as) bs ^^^ m := by
  rw [raw_lin p bs (raw p m as), raw_lin p bs m, it_xor, Nat.xor_assoc (it p (8 * bs.length) m)]
  exact xmid _ _ _ _
end Go.Proofs.Qxb6003627a.Crc
