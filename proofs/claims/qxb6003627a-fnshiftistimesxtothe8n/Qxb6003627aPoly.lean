/-
  PLAIN MATHEMATICS: polynomials over the field of two in the plain bit order: the carry-less product, long division, mirroring; and that they compute what 'tm' computes in the mirrored order. No Go in sight.
-/
import Derived.Test.Qxb6003627aMath
namespace Go.Proofs.Qxb6003627a.Crc

/-- The polynomial N, at x = tx p, applied to v: the low k bits of N. -/
def en (p : Nat) : Nat → Nat → Nat → Nat
  | 0, _, _ => 0
  | k + 1, N, v => (if N % 2 = 1 then v else 0) ^^^ en p k (N / 2) (tx p v)

theorem en_zero (p : Nat) : ∀ k v, en p k 0 v = 0
  | 0, _ => rfl
  | k + 1, v => by simp [en, en_zero p k]
theorem en_xor (p : Nat) : ∀ k N M v, en p k (N ^^^ M) v = en p k N v ^^^ en p k M v
  | 0, _, _, _ => by simp [en]
  | k + 1, N, M, v => by
    simp only [en, half_xor, en_xor p k]
    rw [xac]
    congr 1
    rw [par_xor]
    have ha : N % 2 = 0 ∨ N % 2 = 1 := by omega
    have hb : M % 2 = 0 ∨ M % 2 = 1 := by omega
    rcases ha with ha | ha <;> rcases hb with hb | hb <;> simp [ha, hb]
theorem en_it (p : Nat) : ∀ k N s v, en p k N (it p s v) = it p s (en p k N v)
  | 0, _, s, _ => by simp [en, it_zero]
  | k + 1, N, s, v => by
    simp only [en, it_xor, ← en_it p k]
    rw [← it_tx]
    congr 1
    split
    · rfl
    · exact (it_zero p s).symm
theorem en_shl (p : Nat) (k N : Nat) : ∀ s v, en p (k + s) (N * 2 ^ s) v = en p k N (it p s v)
  | 0, v => by simp [it]
  | s + 1, v => by
    have e : N * 2 ^ (s + 1) = 2 * (N * 2 ^ s) := by rw [Nat.pow_succ]; rw [← Nat.mul_assoc, Nat.mul_comm]
    rw [e, show k + (s + 1) = (k + s) + 1 by omega, en]
    rw [show 2 * (N * 2 ^ s) / 2 = N * 2 ^ s by omega, en_shl p k N s, if_neg (by omega), Nat.zero_xor]
    rfl
theorem en_more (p : Nat) : ∀ k j N v, N < 2 ^ k → en p (k + j) N v = en p k N v
  | 0, j, N, v, h => by
    have : N = 0 := by simpa using h
    subst this; rw [en_zero, en_zero]
  | k + 1, j, N, v, h => by
    rw [show k + 1 + j = (k + j) + 1 by omega, en, en, en_more p k j (N / 2) (tx p v) (by rw [Nat.pow_succ] at h; omega)]
theorem en_le {p k k' N : Nat} (v : Nat) (h : N < 2 ^ k) (hk : k ≤ k') : en p k' N v = en p k N v := by
  obtain ⟨j, rfl⟩ : ∃ j, k' = k + j := ⟨k' - k, by omega⟩
  exact en_more p k j N v h
theorem en_one (p k v : Nat) : en p (k + 1) 1 v = v := by
  rw [en]; simp [en_zero]

/-- Mirrored bits: the same sum. -/
theorem tm_en (p x : Nat) : ∀ k M v, (∀ i, i < k → M.testBit i = x.testBit (k - 1 - i)) → tm p x k v = en p k M v
  | 0, _, _, _ => rfl
  | k + 1, M, v, h => by
    have h0 := h 0 (by omega)
    rw [Nat.testBit_zero] at h0
    rw [tm, en, tm_en p x k (M / 2) (tx p v) (fun i hi => by
      rw [Nat.testBit_div_two, h (i + 1) (by omega)]; congr 1; omega)]
    congr 1
    rw [show k + 1 - 1 - 0 = k by omega] at h0
    rw [← h0]; simp

/-- The mirror of the low w bits of x, the first k of them. -/
def rv (w x : Nat) : Nat → Nat
  | 0 => 0
  | k + 1 => if x.testBit k then rv w x k ||| 2 ^ (w - 1 - k) else rv w x k
def Rev (w x : Nat) : Nat := rv w x w
theorem rv_bit (w x j : Nat) : ∀ k, k ≤ w → (rv w x k).testBit j = (decide (j < w ∧ w - 1 - j < k) && x.testBit (w - 1 - j))
  | 0, _ => by simp [rv]
  | k + 1, hk => by
    have ih := rv_bit w x j k (by omega)
    rw [rv]
    by_cases hj : j < w
    · by_cases e : w - 1 - j = k
      · have e2 : w - 1 - k = j := by omega
        cases hx : x.testBit k
        · simp [ih, e, hj, hx]
        · simp [ih, Nat.testBit_or, e2, e, hj, hx]
      · have e2 : ¬ w - 1 - k = j := by omega
        have e3 : (w - 1 - j < k + 1) ↔ (w - 1 - j < k) := by omega
        cases hx : x.testBit k
        · simp [ih, e3]
        · simp only [if_true, Nat.testBit_or, ih, Nat.testBit_two_pow, e3]
          simp [e2]
    · cases hx : x.testBit k
      · simp [ih, hj]
      · simp only [if_true, Nat.testBit_or, ih, Nat.testBit_two_pow]
        have : ¬ w - 1 - k = j := by omega
        simp [hj, this]
theorem Rev_bit (w x j : Nat) : (Rev w x).testBit j = (decide (j < w) && x.testBit (w - 1 - j)) := by
  rw [Rev, rv_bit w x j w (Nat.le_refl w)]
  by_cases hj : j < w
  · have : w - 1 - j < w := by omega
    simp [hj, this]
  · simp [hj]
theorem Rev_lt (w x : Nat) : Rev w x < 2 ^ w := by
  apply Nat.lt_pow_two_of_testBit
  intro i hi
  rw [Rev_bit]; simp; omega
theorem Rev_Rev {w x : Nat} (h : x < 2 ^ w) : Rev w (Rev w x) = x := by
  apply Nat.eq_of_testBit_eq; intro j
  rw [Rev_bit, Rev_bit]
  by_cases hj : j < w
  · have e : w - 1 - (w - 1 - j) = j := by omega
    simp [hj, e]
    intro; omega
  · have e : x.testBit j = false := Nat.testBit_lt_two_pow (Nat.lt_of_lt_of_le h (Nat.pow_le_pow_right (by decide) (by omega)))
    simp [hj, e]
theorem tm_Rev (p x w v : Nat) : tm p x w v = en p w (Rev w x) v :=
  tm_en p x w (Rev w x) v (fun i hi => by rw [Rev_bit]; simp [hi])
/-- The value of a polynomial below x^w, read in the mirrored order, is its mirror. -/
theorem en_Rev {p w L : Nat} (h1 : 1 ≤ w) (hL : L < 2 ^ w) : en p w L (2 ^ (w - 1)) = Rev w L := by
  have e := tm_Rev p (Rev w L) w (2 ^ (w - 1))
  rw [Rev_Rev hL, mul_one p _ w h1 (Rev_lt w L)] at e
  exact e.symm

/-- The carry-less product, over the first k bits of b. -/
def cl (a b : Nat) : Nat → Nat
  | 0 => 0
  | k + 1 => if b.testBit k then cl a b k ^^^ a * 2 ^ k else cl a b k
theorem cl_lt {a b : Nat} (ha : a < 2 ^ 64) : ∀ k, k ≤ 64 → cl a b k < 2 ^ 128
  | 0, _ => by simp [cl]
  | k + 1, hk => by
    have ih := cl_lt (b := b) ha k (by omega)
    rw [cl]; split
    · refine Nat.xor_lt_two_pow ih ?_
      calc a * 2 ^ k < 2 ^ 64 * 2 ^ k := Nat.mul_lt_mul_of_pos_right ha (Nat.two_pow_pos k)
        _ ≤ 2 ^ 64 * 2 ^ 64 := Nat.mul_le_mul_left _ (Nat.pow_le_pow_right (by decide) (by omega))
        _ = 2 ^ 128 := by decide
    · exact ih
theorem cl_en {p a : Nat} (b : Nat) (ha : a < 2 ^ 64) (v : Nat) : ∀ k, k ≤ 64 → en p 128 (cl a b k) v = en p 64 (b % 2 ^ k) (en p 64 a v)
  | 0, _ => by simp [cl, en_zero, Nat.mod_one]
  | k + 1, hk => by
    have ih := cl_en (p := p) b ha v k (by omega)
    rw [← low_bits, en_xor, ← ih, cl]
    cases hb : b.testBit k
    · simp [en_zero]
    · simp only [if_true, en_xor]
      rw [Nat.xor_comm]
      congr 1
      have e1 : en p 128 (a * 2 ^ k) v = en p (128 - k) a (it p k v) := by
        have := en_shl p (128 - k) a k v
        rwa [show 128 - k + k = 128 by omega] at this
      have e2 : en p 64 (2 ^ k) (en p 64 a v) = it p k (en p 64 a v) := by
        have := en_shl p (64 - k) 1 k (en p 64 a v)
        rw [show 64 - k + k = 64 by omega, Nat.one_mul] at this
        rw [this]
        obtain ⟨j, hj⟩ : ∃ j, 64 - k = j + 1 := ⟨63 - k, by omega⟩
        rw [hj, en_one]
      rw [e1, e2, en_it, en_le v ha (by omega)]

/-- Long division by x^w + q, the k top steps. -/
def rd (w q : Nat) : Nat → Nat → Nat
  | 0, N => N
  | k + 1, N => rd w q k (if N.testBit (w + k) then (N ^^^ 1 * 2 ^ (w + k)) ^^^ q * 2 ^ k else N)
theorem top_off {N d : Nat} (h : N < 2 ^ (d + 1)) (hb : N.testBit d = true) : N ^^^ 1 * 2 ^ d < 2 ^ d := by
  apply Nat.lt_pow_two_of_testBit
  intro i hi
  rw [Nat.testBit_xor, Nat.one_mul, Nat.testBit_two_pow]
  by_cases e : i = d
  · subst e; simp [hb]
  · rw [Nat.testBit_lt_two_pow (Nat.lt_of_lt_of_le h (Nat.pow_le_pow_right (by decide) (by omega)))]
    simp; omega
theorem top_unset {N d : Nat} (h : N < 2 ^ (d + 1)) (hb : N.testBit d = false) : N < 2 ^ d := by
  apply Nat.lt_pow_two_of_testBit
  intro i hi
  by_cases e : i = d
  · subst e; exact hb
  · exact Nat.testBit_lt_two_pow (Nat.lt_of_lt_of_le h (Nat.pow_le_pow_right (by decide) (by omega)))
theorem q_shl {w q k : Nat} (hq : q < 2 ^ w) : q * 2 ^ k < 2 ^ (w + k) := by
  rw [Nat.pow_add]; exact Nat.mul_lt_mul_of_pos_right hq (Nat.two_pow_pos k)
theorem rd_step_lt {w q k N : Nat} (hq : q < 2 ^ w) (h : N < 2 ^ (w + (k + 1))) :
    (if N.testBit (w + k) then (N ^^^ 1 * 2 ^ (w + k)) ^^^ q * 2 ^ k else N) < 2 ^ (w + k) := by
  split
  · rename_i hb
    exact Nat.xor_lt_two_pow (top_off h hb) (q_shl hq)
  · rename_i hb
    exact top_unset h (by simpa using hb)
theorem rd_lt {w q : Nat} (hq : q < 2 ^ w) : ∀ k N, N < 2 ^ (w + k) → rd w q k N < 2 ^ w
  | 0, _, h => h
  | k + 1, N, h => by rw [rd]; exact rd_lt hq k _ (rd_step_lt hq h)
/-- x^w is p itself. -/
theorem it_w {p w : Nat} (h1 : 1 ≤ w) : it p w (2 ^ (w - 1)) = p := by
  have h : ∀ j, it p j (2 ^ j) = 1 := by
    intro j
    induction j with
    | zero => rfl
    | succ j ih => rw [it, tx_pow]; exact ih
  obtain ⟨k, rfl⟩ : ∃ k, w = k + 1 := ⟨w - 1, by omega⟩
  rw [Nat.add_sub_cancel, show k + 1 = 1 + k by omega, it_add, h k]
  simp [it, tx]
theorem rd_en {p w : Nat} (h1 : 1 ≤ w) (h64 : w ≤ 64) (hp : p < 2 ^ w) : ∀ k N, w + k ≤ 128 →
    en p 128 (rd w (Rev w p) k N) (2 ^ (w - 1)) = en p 128 N (2 ^ (w - 1))
  | 0, _, _ => rfl
  | k + 1, N, hk => by
    rw [rd, rd_en h1 h64 hp k _ (by omega)]
    split
    · have e1 : en p 128 (1 * 2 ^ (w + k)) (2 ^ (w - 1)) = it p (w + k) (2 ^ (w - 1)) := by
        have := en_shl p (128 - (w + k)) 1 (w + k) (2 ^ (w - 1))
        rw [show 128 - (w + k) + (w + k) = 128 by omega] at this
        rw [this]
        obtain ⟨j, hj⟩ : ∃ j, 128 - (w + k) = j + 1 := ⟨127 - (w + k), by omega⟩
        rw [hj, en_one]
      have e2 : en p 128 (Rev w p * 2 ^ k) (2 ^ (w - 1)) = it p k p := by
        have := en_shl p (128 - k) (Rev w p) k (2 ^ (w - 1))
        rw [show 128 - k + k = 128 by omega] at this
        rw [this, en_it, en_le _ (Rev_lt w p) (by omega), en_Rev h1 (Rev_lt w p), Rev_Rev hp]
      rw [en_xor, en_xor, e1, e2, Nat.add_comm w k, it_add, it_w h1, Nat.xor_assoc, xx, Nat.xor_zero]
    · rfl

/-- The product of two polynomials modulo x^w + q. -/
def mn (w q a b : Nat) : Nat := rd w q (128 - w) (cl a b 64)
theorem mn_lt {w q a b : Nat} (h64 : w ≤ 64) (hq : q < 2 ^ w) (ha : a < 2 ^ 64) : mn w q a b < 2 ^ w :=
  rd_lt hq _ _ (by rw [show w + (128 - w) = 128 by omega]; exact cl_lt ha 64 (Nat.le_refl _))
theorem rd_Rev {p w N : Nat} (h1 : 1 ≤ w) (h64 : w ≤ 64) (hp : p < 2 ^ w) (hN : N < 2 ^ 128) :
    Rev w (rd w (Rev w p) (128 - w) N) = en p 128 N (2 ^ (w - 1)) := by
  have hl : rd w (Rev w p) (128 - w) N < 2 ^ w := rd_lt (Rev_lt w p) _ _ (by rw [show w + (128 - w) = 128 by omega]; exact hN)
  rw [← en_Rev (p := p) h1 hl, ← rd_en h1 h64 hp (128 - w) N (by omega)]
  exact (en_le _ hl (by omega)).symm
/-- MIRRORED, THE PRODUCT MODULO x^w + p IS 'tm'. -/
theorem mn_tm {p w a b : Nat} (h1 : 1 ≤ w) (h64 : w ≤ 64) (hp : p < 2 ^ w) (ha : a < 2 ^ w) (hb : b < 2 ^ w) :
    Rev w (mn w (Rev w p) a b) = tm p (Rev w b) w (Rev w a) := by
  have le64 : 2 ^ w ≤ 2 ^ 64 := Nat.pow_le_pow_right (by decide) h64
  have ha' : a < 2 ^ 64 := by omega
  have hb' : b < 2 ^ 64 := by omega
  rw [mn, rd_Rev h1 h64 hp (cl_lt ha' 64 (Nat.le_refl _)), cl_en b ha' _ 64 (Nat.le_refl _), Nat.mod_eq_of_lt hb',
    en_le _ hb h64, en_le _ ha h64, en_Rev h1 ha, tm_Rev, Rev_Rev hb]
/-- zzMulR computes 'tm'. -/
theorem mulR {p w u v : Nat} (h1 : 1 ≤ w) (h64 : w ≤ 64) (hp : p < 2 ^ w) (hu : u < 2 ^ w) (hv : v < 2 ^ w) :
    Rev w (mn w (Rev w p) (Rev w u) (Rev w v)) = tm p u w v := by
  rw [mn_tm h1 h64 hp (Rev_lt w u) (Rev_lt w v), Rev_Rev hu, Rev_Rev hv]
  exact (mul_comm p u v w h1 hu hv).symm
end Go.Proofs.Qxb6003627a.Crc
