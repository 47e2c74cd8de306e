/-
  THE WALK OF FnTimesXIsTimesByX.
-/
import Derived.Test.Qxb6003627aW6
namespace Go.Proofs.Qxb6003627a
open Go.RowKit Crc

set_option maxHeartbeats 1000000 in
theorem timesX_law (a0 : Int) (a1 : Int) (a2 : Int) (w0 : (Lit.int .u64 a0).wf = true) (w1 : (Lit.int .u64 a1).wf = true) (w2 : (Lit.int .u64 a2).wf = true) (w : World) :
    Calls Try.prog 5 #[.int .u64 a0, .int .u64 a1, .int .u64 a2] w fun e w' => e = .returned (.bool true) ∧ Grown w w' := by
  obtain ⟨wd, rfl, _⟩ := wf_word w0
  obtain ⟨p, rfl, hp⟩ := wf_word w1
  obtain ⟨v, rfl, hv⟩ := wf_word w2
  clear w0 w1 w2
  by_cases h1 : wd < 1
  · go_enter Try.func5, Try.ntmps5
    go_wp2
    go_ret
    exact ⟨rfl, Grown.refl _⟩
  by_cases h64 : 64 < wd
  · go_enter Try.func5, Try.ntmps5
    go_wp2
    go_ret
    exact ⟨rfl, Grown.refl _⟩
  replace h1 : 1 ≤ wd := by omega
  replace h64 : wd ≤ 64 := by omega
  by_cases g1 : msk wd < p
  · go_enter Try.func5, Try.ntmps5
    go_wp2_with (go_at_call 8; refine (zzMask_any wd h64 _).mono ?_; rintro e w' ⟨rfl, rfl⟩)
    go_ret
    exact ⟨rfl, Grown.refl _⟩
  by_cases g2 : msk wd < v
  · go_enter Try.func5, Try.ntmps5
    go_wp2_with (go_at_call 8; refine (zzMask_any wd h64 _).mono ?_; rintro e w' ⟨rfl, rfl⟩)
    go_ret
    exact ⟨rfl, Grown.refl _⟩
  replace g1 : p ≤ msk wd := by omega
  replace g2 : v ≤ msk wd := by omega
  have l1 := lt_of_msk g1
  have l2 := lt_of_msk g2
  have LX : Hid (it p 1 (one wd) < 2 ^ wd) := it_lt l1 1 _ (one_lt h1)
  have e1 : tm p (it p 1 (one wd)) wd v = tx p v := it_one_mul p wd 1 h1 l1 v l2
  have e2 : Hid (tm p p wd v = it p wd v) := by
    have := it_one_mul p wd wd h1 l1 v l2
    rw [it_w h1] at this; exact this
  have HW : Hid (∀ k, Word (it p k v)) := fun k => Word.of h64 (it_lt l1 k v l2)
  have L1 : Hid (p < 2 ^ wd) := l1
  have L2 : Hid (v < 2 ^ wd) := l2
  clear l1 l2
  have hK := Kept.refl w
  go_enter Try.func5, Try.ntmps5
  go_wp2_with (first | (go_at_call 8; refine (zzMask_any wd h64 _).mono ?_; rintro e w' ⟨rfl, rfl⟩) | (go_at_call 11; refine (ZZTimesX_any _ p v hp hv _).mono ?_; rintro e w' ⟨rfl, hk'⟩; replace hK := hK.trans hk'; clear hk') | (go_at_call 12; refine (XR_any wd p h1 h64 L1.out _).mono ?_; rintro e w' ⟨rfl, rfl⟩) | (go_at_call 9; refine (mulR_any _ v wd p h1 h64 L1.out LX.out L2.out _).mono ?_; rintro e w' ⟨rfl, rfl⟩))
  have HE : Hid (tm p (it p 1 (one wd)) wd v = tx p v) := e1
  clear e1
  go_loopw [8, 9] (fun r i wr => ∃ k : Nat, k ≤ wd ∧ i = .int .u64 k ∧ r = .int .u64 (it p k v : Nat) ∧ Kept w' wr) (fun _ i _ => wd - (intOf i).toNat)
  case atStart => exact ⟨0, by omega, rfl, rfl, Kept.refl _⟩
  case round =>
    obtain ⟨k, hk, rfl, rfl, hkw⟩ := hrel
    by_cases hlt : k < wd
    · have wk := HW.out k
      have HS : Hid (tx p (it p k v) = it p (k + 1) v) := (it_tx p k v).symm
      go_wp2_with (go_at_call 11; refine (ZZTimesX_any _ p _ hp wk _).mono ?_; rintro e w' ⟨rfl, hk'⟩)
      go_roundw
      case rel => exact ⟨k + 1, by omega, by go_num, by rw [HS.out], hkw.trans hk'⟩
      case measure => simp [intOf]; omega
    · obtain rfl : k = wd := by omega
      have e3 := e2.out
      go_wp2_with (go_at_call 9; refine (mulR_any p v _ p h1 h64 L1.out L1.out L2.out _).mono ?_; rintro e w' ⟨rfl, rfl⟩)
      go_ret
      exact ⟨rfl, (hK.trans hkw).grown⟩
end Go.Proofs.Qxb6003627a
