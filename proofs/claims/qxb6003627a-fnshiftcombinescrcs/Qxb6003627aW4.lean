/-
  THE WALK OF FnShiftCombinesCRCs, over rows of bytes.
-/
import Derived.Test.Qxb6003627aW3
namespace Go.Proofs.Qxb6003627a
open Go.RowKit Crc

set_option maxHeartbeats 1000000 in
theorem combines_core (wd p : Nat) (hp : Word p) (a : Option Addr) (xs : List Nat) (ca : Nat) (b : Option Addr) (bs : List Nat) (cb : Nat) (w : World)
    (ha : Row w a xs) (hb : Row w b bs) (na : a = none → xs = [] ∧ ca = 0) (nb : b = none → bs = [] ∧ cb = 0) (la : xs.length ≤ 9223372036854775807) (lb : bs.length ≤ 9223372036854775807) :
    Calls Try.prog 7 #[.int .u64 wd, .int .u64 p, .slice a xs.length ca, .slice b bs.length cb] w fun e w' => e = .returned (.bool true) ∧ Below w.heap.size w w' := by
  by_cases hs : 1048576 < xs.length + bs.length
  · go_enter Try.func7, Try.ntmps7
    go_wp2_with (go_at_call 15; refine (bytes_no _ _ _ _ _ _ _ _ hs la lb _).mono ?_; rintro e w' ⟨rfl, rfl⟩)
    go_ret
    exact ⟨rfl, Below.refl _ _⟩
  have hs : xs.length + bs.length ≤ 1048576 := by omega
  by_cases h2 : wd < 2
  · go_enter Try.func7, Try.ntmps7
    go_wp2_with (go_at_call 15; refine (bytes_yes _ _ _ _ _ _ _ _ hs _).mono ?_; rintro e w' ⟨rfl, rfl⟩)
    go_ret
    exact ⟨rfl, Below.refl _ _⟩
  by_cases h64 : 64 < wd
  · go_enter Try.func7, Try.ntmps7
    go_wp2_with (go_at_call 15; refine (bytes_yes _ _ _ _ _ _ _ _ hs _).mono ?_; rintro e w' ⟨rfl, rfl⟩)
    go_ret
    exact ⟨rfl, Below.refl _ _⟩
  have h2 : 2 ≤ wd := by omega
  have h64 : wd ≤ 64 := by omega
  by_cases g1 : msk wd < p
  · go_enter Try.func7, Try.ntmps7
    go_wp2_with (first | (go_at_call 15; refine (bytes_yes _ _ _ _ _ _ _ _ hs _).mono ?_; rintro e w' ⟨rfl, rfl⟩) | (go_at_call 8; refine (zzMask_any wd h64 _).mono ?_; rintro e w' ⟨rfl, rfl⟩))
    go_ret
    exact ⟨rfl, Below.refl _ _⟩
  have g1 : p ≤ msk wd := by omega
  have l1 := lt_of_msk g1
  have lm : msk wd < 2 ^ wd := lt_of_msk (Nat.le_refl _)
  have wm : Word (msk wd) := Word.of h64 lm
  have lA : raw p (msk wd) xs < 2 ^ wd := raw_lt (by omega) l1 xs _ lm
  have lX : raw p (msk wd) xs ^^^ msk wd < 2 ^ wd := Nat.xor_lt_two_pow lA lm
  have wA : Word (raw p (msk wd) xs) := Word.of h64 lA
  have wB : Word (raw p (msk wd) bs) := hp.raw bs wm
  have wAB : Word (raw p (raw p (msk wd) xs) bs) := hp.raw bs wA
  have wX : Word (raw p (msk wd) xs ^^^ msk wd) := wA.xor wm
  have wY : Word (it p (8 * bs.length) (raw p (msk wd) xs ^^^ msk wd)) := Word.of h64 (it_lt l1 _ _ lX)
  have x1 := xor_word wAB wm
  have x2 := xor_word wA wm
  have x3 := xor_word wB wm
  have x4 := xor_word wY (wB.xor wm)
  rw [combine] at x4
  have sa : xs.length ≤ 1048576 := by omega
  have sb : bs.length ≤ 1048576 := by omega
  have HL : Hid (p < 2 ^ wd) := l1
  have HX : Hid (raw p (msk wd) xs ^^^ msk wd < 2 ^ wd) := lX
  clear l1 lA lX wY wAB
  go_enter Try.func7, Try.ntmps7
  go_wp2_with (first | (go_at_call 15; refine (bytes_yes _ _ _ _ _ _ _ _ hs _).mono ?_; rintro e w' ⟨rfl, rfl⟩) | (go_at_call 8; refine (zzMask_any wd h64 _).mono ?_; rintro e w' ⟨rfl, rfl⟩))
  refine (clone_any a ca xs sa na _ ha).mono ?_
  rintro e w1 ⟨a', ca', rfl, hb1, ha1⟩
  replace hb := hb.below hb1
  clear ha na
  go_wp2_with fail
  refine (clone_any b cb bs sb nb _ hb).mono ?_
  rintro e w2 ⟨b', cb', rfl, hb2, hb3⟩
  replace ha1 := ha1.below hb2
  have hbel := hb1.trans (hb2.mono hb1.size)
  clear hb1 hb2 hb nb
  go_wp2_with fail
  refine (raw_any p _ _ _ xs hp wm sa _ ha1).mono ?_
  rintro e w3 ⟨rfl, rfl⟩
  go_wp2_with fail
  refine (raw_any p _ _ _ bs hp wA sb _ hb3).mono ?_
  rintro e w4 ⟨rfl, rfl⟩
  go_wp2_with fail
  refine (raw_any p _ _ _ xs hp wm sa _ ha1).mono ?_
  rintro e w5 ⟨rfl, rfl⟩
  go_wp2_with fail
  refine (raw_any p _ _ _ bs hp wm sb _ hb3).mono ?_
  rintro e w6 ⟨rfl, rfl⟩
  go_wp2_with fail
  refine (ZZShift_any wd p _ bs.length h2 h64 HL.out HX.out (by omega) _).mono ?_
  rintro e w7 ⟨rfl, hk⟩
  go_wp2
  go_ret
  exact ⟨rfl, hbel.trans (hk.1.mono hbel.size)⟩
end Go.Proofs.Qxb6003627a
