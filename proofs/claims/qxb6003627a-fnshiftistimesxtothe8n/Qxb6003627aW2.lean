/-
  THE WALKS OF crc.shift, ZZShift.
-/
import Derived.Test.Qxb6003627aW1
namespace Go.Proofs.Qxb6003627a
open Go.RowKit Crc

theorem Word.it {wd p : Nat} (h64 : wd ≤ 64) (h1 : 1 ≤ wd) (hp : p < 2 ^ wd) (a : Nat) : Word (it p a (one wd)) := Word.of h64 (it_lt hp a _ (one_lt h1))
theorem it_mul {wd p : Nat} (h1 : 1 ≤ wd) (hp : p < 2 ^ wd) (a b : Nat) : tm p (it p a (one wd)) wd (it p b (one wd)) = it p (a + b) (one wd) := by
  exact (it_one_mul p wd a h1 hp _ (it_lt hp b _ (one_lt h1))).trans (it_add p a b _).symm
theorem one_half {wd p : Nat} (h : 2 ≤ wd) : ((one wd : Nat) : Int) / 2 = ((it p 1 (one wd) : Nat) : Int) := by
  obtain ⟨k, rfl⟩ : ∃ k, wd = k + 2 := ⟨wd - 2, by omega⟩
  have e : it p 1 (one (k + 2)) = 2 ^ k := by
    unfold one; simp only [it]; exact tx_pow p k
  rw [e]; unfold one
  rw [show k + 2 - 1 = k + 1 by omega, Nat.pow_succ]; omega
theorem step_odd {a b E n : Nat} (h : a + b * E = n) (ho : E % 2 = 1) : (a + b) + (b + b) * (E / 2) = n := by
  have e : E = 2 * (E / 2) + 1 := by omega
  rw [e, Nat.mul_add, Nat.mul_one] at h
  rw [← h, ← Nat.mul_assoc, Nat.mul_two]; omega
theorem step_even {a b E n : Nat} (h : a + b * E = n) (ho : ¬ E % 2 = 1) : a + (b + b) * (E / 2) = n := by
  have e : E = 2 * (E / 2) := by omega
  rw [e] at h
  rw [← h, ← Nat.mul_assoc, Nat.mul_two]

set_option maxHeartbeats 400000 in
theorem shift_any (wd p v n : Nat) (h2 : 2 ≤ wd) (h64 : wd ≤ 64) (hp : p < 2 ^ wd) (hv : v < 2 ^ wd) (hn : n < 2305843009213693952) (w : World) :
    Calls Try.prog 23 #[.agg #[.int .u64 wd, .int .u64 p], .int .u64 v, .int .i64 n] w fun e w' => e = .returned (.int .u64 (it p (8 * n) v : Nat)) ∧ Kept w w' := by
  have h1 : 1 ≤ wd := by omega
  have o1 := wrap_one h64 h1
  have o2 := one_half (p := p) h2
  have wp : Word p := Word.of h64 hp
  have wv : Word v := Word.of h64 hv
  have HR : Hid (tm p v wd (it p (8 * n) (one wd)) = it p (8 * n) v) := mul_it_one p wd _ h1 v hv
  have HM : Hid (∀ a b, tm p (it p a (one wd)) wd (it p b (one wd)) = it p (a + b) (one wd)) := it_mul h1 hp
  have WI : ∀ a, Word (it p a (one wd)) := Word.it h64 h1 hp
  clear hp hv
  go_enter Try.func23, Try.ntmps23
  go_wp2
  go_loopw [8, 9, 10] (fun f g e wr => ∃ a b E : Nat, e = .int .u64 E ∧ f = .int .u64 (it p a (one wd) : Nat) ∧ g = .int .u64 (it p b (one wd) : Nat) ∧ Word E ∧ Hid (a + b * E = 8 * n) ∧ Kept (w.alloc (.cells #[.int .u64 wd, .int .u64 p] 41)) wr)
    (fun _ _ i _ => (intOf i).toNat)
  case atStart =>
    exact ⟨0, 1, 8 * n, by go_num, rfl, rfl, by unfold Word; omega, by unfold Hid; omega, Kept.refl _⟩
  case round =>
    obtain ⟨a, b, E, rfl, rfl, rfl, hE, HE, hkw⟩ := hrel
    have c0 : wr.cell? ⟨w.heap.size, 0, none⟩ = some (.int .u64 wd) := (hkw.cell (by simp)).trans (by simp)
    have c1 : wr.cell? ⟨w.heap.size, 1, none⟩ = some (.int .u64 p) := (hkw.cell (by simp)).trans (by simp)
    by_cases h0 : E = 0
    · subst h0
      have HA : Hid (a = 8 * n) := by have := HE.out; unfold Hid; omega
      clear HE
      have wa := WI a
      go_wp2_with (go_at_call 20; refine (times_any wd p v _ h1 h64 wp wv wa _).mono ?_; rintro e w' ⟨rfl, hk'⟩)
      go_ret
      exact ⟨ret_int (by rw [HA.out, HR.out]), (((Kept.refl _).alloc _ _).trans hkw).trans hk'⟩
    · have hpos : 0 < E := by omega
      clear h0
      have wa := WI a
      have wb := WI b
      by_cases h : (bits .and .u64 (E : Int) 1 != 0) = true
      · have HO : Hid (E % 2 = 1) := by rw [odd_test hE] at h; simpa [Hid] using h
        have m1 := HM.out a b
        have m2 := HM.out b b
        go_wp2_with (go_at_call 20; refine (times_any wd p _ _ h1 h64 wp (by assumption) (by assumption) _).mono ?_; rintro e w' ⟨rfl, hk'⟩; replace hkw := hkw.trans hk'; clear hk'; have d0 := (hkw.cell (b := w.heap.size) (o := 0) (by simp)).trans (show _ = some (Value.int .u64 wd) by simp); have d1 := (hkw.cell (b := w.heap.size) (o := 1) (by simp)).trans (show _ = some (Value.int .u64 p) by simp))
        go_roundw
        case rel => exact ⟨a + b, b + b, E / 2, rfl, rfl, rfl, hE.half, step_odd HE.out HO.out, hkw⟩
        case measure => simp [intOf]; omega
      · have h : (bits .and .u64 (E : Int) 1 != 0) = false := by simpa using h
        have HO : Hid (¬ E % 2 = 1) := by rw [odd_test hE] at h; simpa [Hid] using h
        have m2 := HM.out b b
        go_wp2_with (go_at_call 20; refine (times_any wd p _ _ h1 h64 wp (by assumption) (by assumption) _).mono ?_; rintro e w' ⟨rfl, hk'⟩; replace hkw := hkw.trans hk'; clear hk')
        go_roundw
        case rel => exact ⟨a, b + b, E / 2, rfl, rfl, rfl, hE.half, step_even HE.out HO.out, hkw⟩
        case measure => simp [intOf]; omega

theorem ZZShift_any (wd p v n : Nat) (h2 : 2 ≤ wd) (h64 : wd ≤ 64) (hp : p < 2 ^ wd) (hv : v < 2 ^ wd) (hn : n < 2305843009213693952) (w : World) :
    Calls Try.prog 14 #[.int .u64 wd, .int .u64 p, .int .u64 v, .int .i64 n] w fun e w' => e = .returned (.int .u64 (it p (8 * n) v : Nat)) ∧ Kept w w' := by
  go_enter Try.func14, Try.ntmps14
  go_wp2_with (go_at_call 23; refine (shift_any wd p v n h2 h64 hp hv hn _).mono ?_; rintro e w' ⟨rfl, hk'⟩)
  go_ret
  exact ⟨rfl, hk'⟩
end Go.Proofs.Qxb6003627a
