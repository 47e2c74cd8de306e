/-
  THE WALKS OF zzPowXR AND OF FnShiftIsTimesXToThe8n.
-/
import Derived.Test.Qxb6003627aW6
namespace Go.Proofs.Qxb6003627a
open Go.RowKit Crc

theorem pow_sq {wd p A m : Nat} (h1 : 1 ≤ wd) (h64 : wd ≤ 64) (hp : p < 2 ^ wd) (hA : A < 2 ^ wd) (h : Rev wd A = it p m (one wd)) :
    mn wd (Rev wd p) A A < 2 ^ wd ∧ Rev wd (mn wd (Rev wd p) A A) = it p (m + m) (one wd) := by
  refine ⟨mn_lt h64 (Rev_lt wd p) (Nat.lt_of_lt_of_le hA (Nat.pow_le_pow_right (by decide) h64)), ?_⟩
  rw [mn_tm h1 h64 hp hA hA, h, it_mul h1 hp]
theorem pow_x {wd p A X m : Nat} (h1 : 1 ≤ wd) (h64 : wd ≤ 64) (hp : p < 2 ^ wd) (hA : A < 2 ^ wd) (hX : X < 2 ^ wd) (h : Rev wd A = it p m (one wd)) (hx : Rev wd X = it p 1 (one wd)) :
    mn wd (Rev wd p) A X < 2 ^ wd ∧ Rev wd (mn wd (Rev wd p) A X) = it p (m + 1) (one wd) := by
  refine ⟨mn_lt h64 (Rev_lt wd p) (Nat.lt_of_lt_of_le hA (Nat.pow_le_pow_right (by decide) h64)), ?_⟩
  rw [mn_tm h1 h64 hp hA hX, h, hx, it_mul h1 hp, Nat.add_comm]
theorem half_bit_set {e k : Nat} (h : e.testBit k = true) : e / 2 ^ (k + 1) + e / 2 ^ (k + 1) + 1 = e / 2 ^ k := by
  rw [Nat.testBit_eq_decide_div_mod_eq] at h
  have h : e / 2 ^ k % 2 = 1 := by simpa using h
  rw [Nat.pow_succ, ← Nat.div_div_eq_div_mul]; omega
theorem half_bit_unset {e k : Nat} (h : e.testBit k = false) : e / 2 ^ (k + 1) + e / 2 ^ (k + 1) = e / 2 ^ k := by
  rw [Nat.testBit_eq_decide_div_mod_eq] at h
  have h : ¬ e / 2 ^ k % 2 = 1 := by simpa using h
  rw [Nat.pow_succ, ← Nat.div_div_eq_div_mul]; omega

set_option maxRecDepth 10000 in
set_option maxHeartbeats 1000000 in
/-- zzPowXR. -/
theorem powXR_any (e wd p : Nat) (e' : Int) (ee : e' = e) (he : Word e) (h1 : 1 ≤ wd) (h64 : wd ≤ 64) (hp : p < 2 ^ wd) (w : World) :
    Calls Try.prog 13 #[.int .u64 e', .int .u64 wd, .int .u64 p] w fun en w' => en = .returned (.int .u64 (it p e (one wd) : Nat)) ∧ w' = w := by
  subst ee
  have wp : Word p := Word.of h64 hp
  have HP : Hid (p < 2 ^ wd) := hp
  have HQ : Hid (Rev wd p < 2 ^ wd) := Rev_lt wd p
  obtain ⟨X, hX⟩ : ∃ X, X = rd wd (Rev wd p) (128 - wd) 2 := ⟨_, rfl⟩
  obtain ⟨O, hO⟩ : ∃ X, X = rd wd (Rev wd p) (128 - wd) 1 := ⟨_, rfl⟩
  have HXL : Hid (X < 2 ^ wd) := by unfold Hid; rw [hX]; exact rd_word h64 (Rev_lt wd p) (by decide)
  have HOL : Hid (O < 2 ^ wd) := by unfold Hid; rw [hO]; exact rd_word h64 (Rev_lt wd p) (by decide)
  have HXR : Hid (Rev wd X = it p 1 (one wd)) := by unfold Hid; rw [hX]; exact two_Rev h1 h64 hp
  have HOR : Hid (Rev wd O = it p 0 (one wd)) := by unfold Hid; rw [hO]; exact one_Rev h1 h64 hp
  have HX : Hid (rd wd (Rev wd p) (128 - wd) 2 = X) := hX.symm
  have HO : Hid (rd wd (Rev wd p) (128 - wd) 1 = O) := hO.symm
  have wx : Word X := Word.of h64 HXL.out
  clear hp hX hO
  go_enter Try.func13, Try.ntmps13
  go_wp2_with fail
  refine (rev_any p wd wp h1 h64 _).mono ?_
  rintro en w' ⟨rfl, rfl⟩
  go_wp2_with fail
  refine (reduce_any 2 wd (Rev wd p) h1 h64 HQ.out (by decide) _ _ (by decide) (by decide) _).mono ?_
  rintro en w' ⟨rfl, rfl⟩
  rw [HX.out]
  go_wp2_with fail
  refine (reduce_any 1 wd (Rev wd p) h1 h64 HQ.out (by decide) _ _ (by decide) (by decide) _).mono ?_
  rintro en w' ⟨rfl, rfl⟩
  rw [HO.out]
  go_wp2_with fail
  go_loop [9, 10] (fun a i => ∃ k A : Nat, k ≤ 64 ∧ i = .int .i64 ((k : Int) - 1) ∧ a = .int .u64 A ∧ Hid (A < 2 ^ wd) ∧ Hid (Rev wd A = it p (e / 2 ^ k) (one wd))) (fun _ i => (intOf i + 1).toNat)
  case atStart => exact ⟨64, O, by omega, by go_num, rfl, HOL, by have := HOR.out; unfold Hid; rw [Nat.div_eq_of_lt (by rw [← two64]; exact he)]; exact this⟩
  case round =>
    obtain ⟨k, A, hk, rfl, rfl, HA, HR⟩ := hrel
    have wa : Word A := Word.of h64 HA.out
    rcases k with _ | k
    · have HR' : Hid (Rev wd A = it p e (one wd)) := by have := HR.out; rwa [Nat.pow_zero, Nat.div_one] at this
      go_wp2_with (go_at_call 18; refine (rev_any A wd wa h1 h64 _).mono ?_; rintro en w' ⟨rfl, rfl⟩)
      go_ret
      exact ⟨ret_int (by rw [HR'.out]), rfl⟩
    · have e1 : ((k + 1 : Nat) : Int) - 1 = (k : Int) := by omega
      rw [e1]
      clear e1
      obtain ⟨hs1, hs2⟩ := pow_sq h1 h64 HP.out HA.out HR.out
      obtain ⟨S, hS⟩ : ∃ S, S = mn wd (Rev wd p) A A := ⟨_, rfl⟩
      rw [← hS] at hs1 hs2
      have HS : Hid (mn wd (Rev wd p) A A = S) := hS.symm
      have HS1 : Hid (S < 2 ^ wd) := hs1
      have ws : Word S := Word.of h64 hs1
      by_cases h : (bits .and .u64 ((e : Int) / 2 ^ k) 1 != 0) = true
      · have hb : e.testBit k = true := by rw [← bit_test he k]; exact h
        obtain ⟨ht1, ht2⟩ := pow_x h1 h64 HP.out hs1 HXL.out hs2 HXR.out
        rw [half_bit_set hb] at ht2
        have HT1 : Hid (mn wd (Rev wd p) S X < 2 ^ wd) := ht1
        have HT2 : Hid (Rev wd (mn wd (Rev wd p) S X) = it p (e / 2 ^ k) (one wd)) := ht2
        clear hs1 hs2 hS ht1 ht2 hb
        go_wp2_with fail
        refine (mulN_any A A wd (Rev wd p) h1 h64 HQ.out wa wa _).mono ?_
        rintro en w' ⟨rfl, rfl⟩
        rw [HS.out]
        go_wp2_with fail
        refine (mulN_any S X wd (Rev wd p) h1 h64 HQ.out ws wx _).mono ?_
        rintro en w' ⟨rfl, rfl⟩
        go_wp2
        go_round
        case rel => exact ⟨k, _, by omega, rfl, rfl, HT1, HT2⟩
        case measure => simp [intOf]
      · have h : (bits .and .u64 ((e : Int) / 2 ^ k) 1 != 0) = false := by simpa using h
        have hb : e.testBit k = false := by rw [← bit_test he k]; exact h
        rw [half_bit_unset hb] at hs2
        have HS2 : Hid (Rev wd S = it p (e / 2 ^ k) (one wd)) := hs2
        clear hs1 hs2 hS hb
        go_wp2_with fail
        refine (mulN_any A A wd (Rev wd p) h1 h64 HQ.out wa wa _).mono ?_
        rintro en w' ⟨rfl, rfl⟩
        rw [HS.out]
        go_wp2
        go_round
        case rel => exact ⟨k, S, by omega, rfl, rfl, HS1, HS2⟩
        case measure => simp [intOf]

theorem ZZShift_at (wd p v n : Nat) (n' : Int) (en : n' = n) (h2 : 2 ≤ wd) (h64 : wd ≤ 64) (hp : p < 2 ^ wd) (hv : v < 2 ^ wd) (hn : n < 2305843009213693952) (w : World) :
    Calls Try.prog 14 #[.int .u64 wd, .int .u64 p, .int .u64 v, .int .i64 n'] w fun e w' => e = .returned (.int .u64 (it p (8 * n) v : Nat)) ∧ Kept w w' := by
  subst en; exact ZZShift_any wd p v n h2 h64 hp hv hn w

set_option maxHeartbeats 1000000 in
theorem shift_law (a0 : Int) (a1 : Int) (a2 : Int) (a3 : Int) (w0 : (Lit.int .u64 a0).wf = true) (w1 : (Lit.int .u64 a1).wf = true) (w2 : (Lit.int .u64 a2).wf = true) (w : World) :
    Calls Try.prog 6 #[.int .u64 a0, .int .u64 a1, .int .u64 a2, .int .i64 a3] w fun e w' => e = .returned (.bool true) ∧ Grown w w' := by
  obtain ⟨wd, rfl, _⟩ := wf_word w0
  obtain ⟨p, rfl, _⟩ := wf_word w1
  obtain ⟨v, rfl, _⟩ := wf_word w2
  clear w0 w1 w2
  by_cases h2 : wd < 2
  · go_enter Try.func6, Try.ntmps6
    go_wp2
    go_ret
    exact ⟨rfl, Grown.refl _⟩
  by_cases h64 : 64 < wd
  · go_enter Try.func6, Try.ntmps6
    go_wp2
    go_ret
    exact ⟨rfl, Grown.refl _⟩
  replace h2 : 2 ≤ wd := by omega
  replace h64 : wd ≤ 64 := by omega
  by_cases g1 : msk wd < p
  · go_enter Try.func6, Try.ntmps6
    go_wp2_with (go_at_call 8; refine (zzMask_any wd h64 _).mono ?_; rintro e w' ⟨rfl, rfl⟩)
    go_ret
    exact ⟨rfl, Grown.refl _⟩
  by_cases g2 : msk wd < v
  · go_enter Try.func6, Try.ntmps6
    go_wp2_with (go_at_call 8; refine (zzMask_any wd h64 _).mono ?_; rintro e w' ⟨rfl, rfl⟩)
    go_ret
    exact ⟨rfl, Grown.refl _⟩
  replace g1 : p ≤ msk wd := by omega
  replace g2 : v ≤ msk wd := by omega
  by_cases n0 : a3 < 0
  · go_enter Try.func6, Try.ntmps6
    go_wp2_with (go_at_call 8; refine (zzMask_any wd h64 _).mono ?_; rintro e w' ⟨rfl, rfl⟩)
    go_ret
    exact ⟨rfl, Grown.refl _⟩
  by_cases n1 : 2305843009213693951 < a3
  · go_enter Try.func6, Try.ntmps6
    go_wp2_with (go_at_call 8; refine (zzMask_any wd h64 _).mono ?_; rintro e w' ⟨rfl, rfl⟩)
    go_ret
    exact ⟨rfl, Grown.refl _⟩
  obtain ⟨n, rfl⟩ := Int.eq_ofNat_of_zero_le (show 0 ≤ a3 by omega)
  replace n1 : n ≤ 2305843009213693951 := by omega
  clear n0
  have h1 : 1 ≤ wd := by omega
  have l1 := lt_of_msk g1
  have l2 := lt_of_msk g2
  have HW : Hid (it p (8 * n) (one wd) < 2 ^ wd) := it_lt l1 _ _ (one_lt h1)
  have HH : Hid (it p (8 * (n / 2)) v < 2 ^ wd) := it_lt l1 _ _ l2
  have e1 : tm p v wd (it p (8 * n) (one wd)) = it p (8 * n) v := mul_it_one p wd (8 * n) h1 v l2
  have e2 : it p (8 * (n - n / 2)) (it p (8 * (n / 2)) v) = it p (8 * n) v := by
    rw [← it_add]; congr 1; omega
  have L1 : Hid (p < 2 ^ wd) := l1
  have L2 : Hid (v < 2 ^ wd) := l2
  have we : Word (8 * n) := by unfold Word; omega
  clear l1 l2
  have hK := Kept.refl w
  go_enter Try.func6, Try.ntmps6
  go_wp2_with fail
  refine (zzMask_any wd h64 _).mono ?_
  rintro e w' ⟨rfl, rfl⟩
  go_wp2_with fail
  refine (powXR_any (8 * n) wd p _ (by omega) we h1 h64 L1.out _).mono ?_
  rintro e w' ⟨rfl, rfl⟩
  go_wp2_with fail
  refine (mulR_any v _ wd p h1 h64 L1.out L2.out HW.out _).mono ?_
  rintro e w' ⟨rfl, rfl⟩
  go_wp2_with fail
  refine (ZZShift_at wd p v n _ rfl h2 h64 L1.out L2.out (by omega) _).mono ?_
  rintro e w1 ⟨rfl, hk1⟩
  replace hK := hK.trans hk1
  clear hk1
  go_wp2_with fail
  refine (ZZShift_at wd p v (n / 2) _ (by omega) h2 h64 L1.out L2.out (by omega) _).mono ?_
  rintro e w2 ⟨rfl, hk2⟩
  replace hK := hK.trans hk2
  clear hk2
  go_wp2_with fail
  refine (ZZShift_at wd p _ (n - n / 2) _ (by omega) h2 h64 L1.out HH.out (by omega) _).mono ?_
  rintro e w3 ⟨rfl, hk3⟩
  replace hK := hK.trans hk3
  clear hk3
  go_wp2
  go_ret
  exact ⟨rfl, hK.grown⟩
end Go.Proofs.Qxb6003627a
