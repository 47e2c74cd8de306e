/-
  THE WALKS OF ZZTimesX, zzXR, zzPowXR.
-/
import Derived.Test.Qxb6003627aW2
import Derived.Test.Qxb6003627aW5
namespace Go.Proofs.Qxb6003627a
open Go.RowKit Crc

/-- ZZTimesX. -/
theorem ZZTimesX_any (wd : Int) (p v : Nat) (hp : Word p) (hv : Word v) (w : World) :
    Calls Try.prog 11 #[.int .u64 wd, .int .u64 p, .int .u64 v] w fun e w' => e = .returned (.int .u64 (tx p v : Nat)) ∧ Kept w w' := by
  go_enter Try.func11, Try.ntmps11
  go_wp2_with (go_at_call 21; refine (timesX_any wd p v hp hv _).mono ?_; rintro e w' ⟨rfl, hk'⟩)
  go_ret
  exact ⟨rfl, hk'⟩

theorem en_two (p v : Nat) : en p 128 2 v = it p 1 v := by
  have := en_shl p 127 1 1 v
  rw [show 127 + 1 = 128 by omega, show 1 * 2 ^ 1 = 2 by decide] at this
  rw [this]; exact en_one p 126 _
theorem two_Rev {wd p : Nat} (h1 : 1 ≤ wd) (h64 : wd ≤ 64) (hp : p < 2 ^ wd) : Rev wd (rd wd (Rev wd p) (128 - wd) 2) = it p 1 (one wd) := by
  rw [rd_Rev h1 h64 hp (by decide), en_two]; rfl
theorem one_Rev {wd p : Nat} (h1 : 1 ≤ wd) (h64 : wd ≤ 64) (hp : p < 2 ^ wd) : Rev wd (rd wd (Rev wd p) (128 - wd) 1) = it p 0 (one wd) := by
  rw [rd_Rev h1 h64 hp (by decide)]; exact en_one p 127 _
theorem rd_word {wd q N : Nat} (h64 : wd ≤ 64) (hq : q < 2 ^ wd) (hN : N < 2 ^ 128) : rd wd q (128 - wd) N < 2 ^ wd :=
  rd_lt hq _ _ (by rw [show wd + (128 - wd) = 128 by omega]; exact hN)

/-- zzXR. -/
theorem XR_any (wd p : Nat) (h1 : 1 ≤ wd) (h64 : wd ≤ 64) (hp : p < 2 ^ wd) (w : World) :
    Calls Try.prog 12 #[.int .u64 wd, .int .u64 p] w fun e w' => e = .returned (.int .u64 (it p 1 (one wd) : Nat)) ∧ w' = w := by
  have HR : Hid (Rev wd (rd wd (Rev wd p) (128 - wd) 2) = it p 1 (one wd)) := two_Rev h1 h64 hp
  have HQ : Hid (Rev wd p < 2 ^ wd) := Rev_lt wd p
  have wp : Word p := Word.of h64 hp
  have wr : Word (rd wd (Rev wd p) (128 - wd) 2) := Word.of h64 (rd_word h64 (Rev_lt wd p) (by decide))
  clear hp
  go_enter Try.func12, Try.ntmps12
  go_wp2_with fail
  refine (rev_any p wd wp h1 h64 _).mono ?_
  rintro e w' ⟨rfl, rfl⟩
  go_wp2_with fail
  refine (reduce_any 2 wd (Rev wd p) h1 h64 HQ.out (by decide) _ _ (by decide) (by decide) _).mono ?_
  rintro e w' ⟨rfl, rfl⟩
  go_wp2_with fail
  refine (rev_any _ wd wr h1 h64 _).mono ?_
  rintro e w' ⟨rfl, rfl⟩
  go_wp2
  go_ret
  exact ⟨ret_int (by rw [HR.out]), rfl⟩
end Go.Proofs.Qxb6003627a
