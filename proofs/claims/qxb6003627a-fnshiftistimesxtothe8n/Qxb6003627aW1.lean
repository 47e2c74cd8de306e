/-
  THE WALKS OF crc.timesX, crc.times, ZZTimes, zzMask.
-/
import Derived.Test.Qxb6003627aRows
import Derived.Test.Qxb6003627aBits
import Derived.WalkKit
import Derived.ProofKit
import Derived.WalkSpells
import Derived.Below
import Derived.OpenShut
import Derived.Outline
namespace Go.Proofs.Qxb6003627a
open Go.RowKit Crc

/-- The world has at most new blocks; nothing that was there has turned. -/
def Kept (w w' : World) : Prop := Below w.heap.size w w' ∧ ∀ a, w'.frozen? a = w.frozen? a
theorem Kept.refl (w : World) : Kept w w := ⟨Below.refl _ _, fun _ => rfl⟩
theorem Kept.trans {a b c : World} (h : Kept a b) (k : Kept b c) : Kept a c :=
  ⟨h.1.trans (k.1.mono h.1.size), fun x => (k.2 x).trans (h.2 x)⟩
theorem Kept.alloc {a b : World} (h : Kept a b) (c : Array Value) (t : TypeId) : Kept a (b.alloc (.cells c t)) :=
  ⟨h.1.alloc h.1.size _, fun x => (frozen?_alloc_cells _ _ _ x).trans (h.2 x)⟩
theorem Kept.grown {w w' : World} (h : Kept w w') : Grown w w' := ⟨h.1.frame _, h.2, h.1.size⟩
theorem Kept.cell {w w' : World} (h : Kept w w') {b o : Nat} (hb : b < w.heap.size) : w'.cell? ⟨b, o, none⟩ = w.cell? ⟨b, o, none⟩ := h.1.cell (p := ⟨b, o, none⟩) hb
theorem wf_word {a : Int} (h : (Lit.int .u64 a).wf = true) : ∃ n : Nat, a = (n : Int) ∧ Word n := by
  obtain ⟨h0, h1⟩ := bounds_u64 h
  obtain ⟨n, rfl⟩ := Int.eq_ofNat_of_zero_le h0
  exact ⟨n, rfl, by unfold Word; omega⟩
theorem ret_int {k : IntKind} {a b : Int} (h : a = b) : Ending.returned (.int k a) = .returned (.int k b) := by rw [h]

theorem timesX_any (wd : Int) (p v : Nat) (hp : Word p) (hv : Word v) (w : World) :
    Calls Try.prog 21 #[.agg #[.int .u64 wd, .int .u64 p], .int .u64 v] w fun e w' => e = .returned (.int .u64 (tx p v : Nat)) ∧ Kept w w' := by
  by_cases h : (bits .and .u64 (v : Int) 1 != 0) = true
  · go_enter Try.func21, Try.ntmps21
    go_wp2
    go_ret
    exact ⟨ret_int (tx_odd hp hv h), (Kept.refl _).alloc _ _⟩
  · have h : (bits .and .u64 (v : Int) 1 != 0) = false := by simpa using h
    go_enter Try.func21, Try.ntmps21
    go_wp2
    go_ret
    exact ⟨ret_int (tx_even hv h), (Kept.refl _).alloc _ _⟩

set_option maxHeartbeats 400000 in
theorem times_any (wd p u v : Nat) (h1 : 1 ≤ wd) (h64 : wd ≤ 64) (hp : Word p) (hu : Word u) (hv : Word v) (w : World) :
    Calls Try.prog 20 #[.agg #[.int .u64 wd, .int .u64 p], .int .u64 u, .int .u64 v] w fun e w' => e = .returned (.int .u64 (tm p u wd v : Nat)) ∧ Kept w w' := by
  go_enter Try.func20, Try.ntmps20
  go_wp2
  go_loopw [2, 7, 8] (fun x y i wr => ∃ k a b : Nat, k ≤ wd ∧ i = .int .i64 ((k : Int) - 1) ∧ x = .int .u64 a ∧ y = .int .u64 b ∧ Word a ∧ Word b ∧ Hid (b ^^^ tm p u k a = tm p u wd v) ∧ Kept (w.alloc (.cells #[.int .u64 wd, .int .u64 p] 41)) wr)
    (fun _ _ i _ => (intOf i + 1).toNat)
  case atStart => exact ⟨wd, v, 0, Nat.le_refl _, rfl, rfl, rfl, hv, Word.zero, by unfold Hid; simp, Kept.refl _⟩
  case round =>
    obtain ⟨k, a, b, hk, rfl, rfl, rfl, ha, hb, HE, hkw⟩ := hrel
    rcases k with _ | k
    · have HE' : Hid (b = tm p u wd v) := by have := HE.out; simpa [tm, Hid] using this
      clear HE
      go_wp2
      go_ret
      exact ⟨ret_int (by rw [HE'.out]), ((Kept.refl _).alloc _ _).trans hkw⟩
    · have c0 : wr.cell? ⟨w.heap.size, 0, none⟩ = some (.int .u64 wd) := (hkw.cell (by simp)).trans (by simp)
      have c1 : wr.cell? ⟨w.heap.size, 1, none⟩ = some (.int .u64 p) := (hkw.cell (by simp)).trans (by simp)
      have e : ((k + 1 : Nat) : Int) - 1 = (k : Int) := by omega
      rw [e]
      clear e
      have hx : Hid (bits .xor .u64 (b : Int) (a : Int) = ((b ^^^ a : Nat) : Int)) := xor_word hb ha
      by_cases h : (bits .and .u64 ((u : Int) / 2 ^ k) 1 != 0) = true
      · have HB : Hid (u.testBit k = true) := by unfold Hid; rw [← bit_test hu k]; exact h
        go_wp2_with (go_at_call 21; refine (timesX_any _ p a hp ha _).mono ?_; rintro e w' ⟨rfl, hk'⟩)
        go_roundw
        case rel => exact ⟨k, tx p a, b ^^^ a, by omega, rfl, rfl, by rw [hx.out], hp.tx ha, hb.xor ha, by have := HE.out; unfold Hid; rw [tm, HB.out, if_pos rfl, ← Nat.xor_assoc] at this; exact this, hkw.trans hk'⟩
        case measure => simp [intOf]
      · have h : (bits .and .u64 ((u : Int) / 2 ^ k) 1 != 0) = false := by simpa using h
        have HB : Hid (u.testBit k = false) := by unfold Hid; rw [← bit_test hu k]; exact h
        go_wp2_with (go_at_call 21; refine (timesX_any _ p a hp ha _).mono ?_; rintro e w' ⟨rfl, hk'⟩)
        go_roundw
        case rel => exact ⟨k, tx p a, b, by omega, rfl, rfl, rfl, hp.tx ha, hb, by have := HE.out; unfold Hid; rw [tm, HB.out, if_neg (by decide), Nat.zero_xor] at this; exact this, hkw.trans hk'⟩
        case measure => simp [intOf]

theorem ZZTimes_any (wd p u v : Nat) (h1 : 1 ≤ wd) (h64 : wd ≤ 64) (hp : Word p) (hu : Word u) (hv : Word v) (w : World) :
    Calls Try.prog 10 #[.int .u64 wd, .int .u64 p, .int .u64 u, .int .u64 v] w fun e w' => e = .returned (.int .u64 (tm p u wd v : Nat)) ∧ Kept w w' := by
  go_enter Try.func10, Try.ntmps10
  go_wp2_with (go_at_call 20; refine (times_any wd p u v h1 h64 hp hu hv _).mono ?_; rintro e w' ⟨rfl, hk'⟩)
  go_ret
  exact ⟨rfl, hk'⟩

theorem zzMask_any (wd : Nat) (h64 : wd ≤ 64) (w : World) :
    Calls Try.prog 8 #[.int .u64 wd] w fun e w' => e = .returned (.int .u64 (msk wd : Nat)) ∧ w' = w := by
  by_cases h : wd = 64
  · subst h
    go_enter Try.func8, Try.ntmps8
    go_wp2
    go_ret
    exact ⟨rfl, rfl⟩
  · have hlt : wd < 64 := by omega
    clear h
    go_enter Try.func8, Try.ntmps8
    go_wp2
    go_ret
    exact ⟨ret_int (wrap_mask hlt), rfl⟩
end Go.Proofs.Qxb6003627a
