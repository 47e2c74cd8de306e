/-
  PLAIN MATHEMATICS: no Go in sight. Multiplication modulo a polynomial over the field of two, in the mirrored bit order that packages hash/crc32 and crc64 use; the numbers are Nat.
-/
namespace Go.Proofs.Qxb6003627a.Crc

/-- One step of multiplication by x, in the mirrored order (bit 0 holds the highest coefficient). -/
def tx (p v : Nat) : Nat := if v % 2 = 1 then (v / 2) ^^^ p else v / 2

/-- 'tm p u k v': the low k bits of u, from bit k-1 down, against v, x v, x^2 v, .. -/
def tm (p u : Nat) : Nat → Nat → Nat
  | 0, _ => 0
  | k + 1, v => (if u.testBit k then v else 0) ^^^ tm p u k (tx p v)

/-- i steps of tx. -/
def it (p : Nat) : Nat → Nat → Nat
  | 0, v => v
  | i + 1, v => it p i (tx p v)

theorem xx (a : Nat) : a ^^^ a = 0 := Nat.xor_self a
theorem xac (a b c d : Nat) : (a ^^^ b) ^^^ (c ^^^ d) = (a ^^^ c) ^^^ (b ^^^ d) := by
  rw [Nat.xor_assoc, Nat.xor_assoc, ← Nat.xor_assoc b c d, Nat.xor_comm b c, Nat.xor_assoc c b d]
theorem xlc (a b c : Nat) : a ^^^ (b ^^^ c) = b ^^^ (a ^^^ c) := by
  rw [← Nat.xor_assoc, Nat.xor_comm a b, Nat.xor_assoc]

theorem half_xor (a b : Nat) : (a ^^^ b) / 2 = (a / 2) ^^^ (b / 2) := by
  apply Nat.eq_of_testBit_eq; intro i
  simp [Nat.testBit_div_two]
theorem par_xor (a b : Nat) : (a ^^^ b) % 2 = (a % 2 + b % 2) % 2 := by
  have h := Nat.testBit_xor a b 0
  simp only [Nat.testBit_zero] at h
  have ha : a % 2 = 0 ∨ a % 2 = 1 := by omega
  have hb : b % 2 = 0 ∨ b % 2 = 1 := by omega
  have hc : (a ^^^ b) % 2 = 0 ∨ (a ^^^ b) % 2 = 1 := by omega
  rcases ha with ha | ha <;> rcases hb with hb | hb <;> rcases hc with hc | hc <;> simp [ha, hb, hc] at h ⊢

theorem tx_zero (p : Nat) : tx p 0 = 0 := by simp [tx]
theorem tx_xor (p a b : Nat) : tx p (a ^^^ b) = tx p a ^^^ tx p b := by
  unfold tx
  rw [half_xor, par_xor]
  have ha : a % 2 = 0 ∨ a % 2 = 1 := by omega
  have hb : b % 2 = 0 ∨ b % 2 = 1 := by omega
  rcases ha with ha | ha <;> rcases hb with hb | hb <;> simp only [ha, hb]
  · simp
  · simp [Nat.xor_assoc]
  · simp; rw [Nat.xor_assoc, Nat.xor_assoc, Nat.xor_comm p]
  · simp; rw [xac, xx, Nat.xor_zero]

theorem tx_lt {w p v : Nat} (hp : p < 2 ^ w) (hv : v < 2 ^ w) : tx p v < 2 ^ w := by
  unfold tx; split
  · exact Nat.xor_lt_two_pow (by omega) hp
  · omega

theorem tm_zero (p u : Nat) : ∀ k, tm p u k 0 = 0
  | 0 => rfl
  | k + 1 => by simp [tm, tx_zero, tm_zero p u k]
theorem tm_xor (p u : Nat) : ∀ k a b, tm p u k (a ^^^ b) = tm p u k a ^^^ tm p u k b
  | 0, _, _ => by simp [tm]
  | k + 1, a, b => by
    simp only [tm, tx_xor, tm_xor p u k]
    split
    · rw [xac]
    · simp
theorem tm_add (p u v : Nat) : ∀ k a, tm p (u ^^^ v) k a = tm p u k a ^^^ tm p v k a
  | 0, _ => by simp [tm]
  | k + 1, a => by
    simp only [tm, Nat.testBit_xor, tm_add p u v k]
    rw [xac]
    congr 1
    cases u.testBit k <;> cases v.testBit k <;> simp
theorem tm_tx (p u : Nat) : ∀ k a, tx p (tm p u k a) = tm p u k (tx p a)
  | 0, _ => by simp [tm, tx_zero]
  | k + 1, a => by
    simp only [tm, tx_xor, tm_tx p u k]
    congr 1
    split
    · rfl
    · exact tx_zero p
/-- Any two multiplications commute. -/
theorem tm_tm (p u v j : Nat) : ∀ k a, tm p u k (tm p v j a) = tm p v j (tm p u k a)
  | 0, a => by simp [tm, tm_zero]
  | k + 1, a => by
    simp only [tm, tm_xor, tm_tx, tm_tm p u v j k]
    congr 1
    split
    · rfl
    · exact (tm_zero p v j).symm
theorem tm_lt {w p : Nat} (hp : p < 2 ^ w) (u : Nat) : ∀ k a, a < 2 ^ w → tm p u k a < 2 ^ w
  | 0, _, _ => by simp [tm]; exact Nat.two_pow_pos w
  | k + 1, a, ha => by
    simp only [tm]
    refine Nat.xor_lt_two_pow ?_ (tm_lt hp u k _ (tx_lt hp ha))
    split
    · exact ha
    · exact Nat.two_pow_pos w

theorem it_zero (p : Nat) : ∀ i, it p i 0 = 0
  | 0 => rfl
  | i + 1 => by simp [it, tx_zero, it_zero p i]
theorem it_xor (p : Nat) : ∀ i a b, it p i (a ^^^ b) = it p i a ^^^ it p i b
  | 0, _, _ => rfl
  | i + 1, a, b => by simp only [it, tx_xor, it_xor p i]
theorem it_tx (p : Nat) : ∀ i v, it p i (tx p v) = tx p (it p i v)
  | 0, _ => rfl
  | i + 1, v => by simp only [it]; exact it_tx p i (tx p v)
theorem it_add (p : Nat) : ∀ i j v, it p (i + j) v = it p i (it p j v)
  | 0, j, v => by simp [it]
  | i + 1, j, v => by
    rw [show i + 1 + j = (i + j) + 1 by omega]
    simp only [it]; rw [it_add p i j, ← it_tx]
theorem it_lt {w p : Nat} (hp : p < 2 ^ w) : ∀ i v, v < 2 ^ w → it p i v < 2 ^ w
  | 0, _, h => h
  | i + 1, _, h => it_lt hp i _ (tx_lt hp h)
theorem tm_it (p u k : Nat) : ∀ i a, it p i (tm p u k a) = tm p u k (it p i a)
  | 0, _ => rfl
  | i + 1, a => by simp only [it, tm_tx]; exact tm_it p u k i _

/-- x^i, mirrored, for i < w. -/
theorem tx_pow (p i : Nat) : tx p (2 ^ (i + 1)) = 2 ^ i := by
  unfold tx
  have h : (2 ^ (i + 1)) % 2 = 0 := by rw [Nat.pow_succ]; omega
  rw [if_neg (by omega), Nat.pow_succ]; omega
theorem low_bits (u k : Nat) : (if u.testBit k then 2 ^ k else 0) ^^^ (u % 2 ^ k) = u % 2 ^ (k + 1) := by
  apply Nat.eq_of_testBit_eq; intro i
  rw [Nat.testBit_xor, Nat.testBit_mod_two_pow, Nat.testBit_mod_two_pow]
  by_cases h : i = k
  · subst h
    cases hu : u.testBit i <;> simp
  · have e : (if u.testBit k = true then 2 ^ k else 0).testBit i = false := by
      split
      · rw [Nat.testBit_two_pow]; simp; omega
      · simp
    rw [e]
    by_cases h1 : i < k
    · simp [h1, show i < k + 1 by omega]
    · simp [h1, show ¬ i < k + 1 by omega]
/-- The one: 2^(w-1). -/
theorem tm_one (p u : Nat) : ∀ k, tm p u (k + 1) (2 ^ k) = u % 2 ^ (k + 1)
  | 0 => by
    have := low_bits u 0
    simp only [tm, Nat.pow_zero] at this ⊢
    rw [← this]; simp [Nat.mod_one]
  | k + 1 => by
    rw [tm, tx_pow, tm_one p u k, low_bits]
theorem one_tm (p v : Nat) (k : Nat) : tm p (2 ^ k) (k + 1) v = v := by
  have h : ∀ j, j ≤ k → ∀ a, tm p (2 ^ k) j a = 0 := by
    intro j
    induction j with
    | zero => intros; rfl
    | succ j ih =>
      intro hj a
      rw [tm, ih (by omega), Nat.testBit_two_pow]
      have : decide (k = j) = false := by simp; omega
      simp [this]
  rw [tm, h k (Nat.le_refl k), Nat.testBit_two_pow]; simp

/-! ### The ring -/
theorem mul_one (p u w : Nat) (h : 1 ≤ w) (hu : u < 2 ^ w) : tm p u w (2 ^ (w - 1)) = u := by
  obtain ⟨k, rfl⟩ : ∃ k, w = k + 1 := ⟨w - 1, by omega⟩
  rw [Nat.add_sub_cancel, tm_one, Nat.mod_eq_of_lt hu]
theorem one_mul (p v w : Nat) (h : 1 ≤ w) : tm p (2 ^ (w - 1)) w v = v := by
  obtain ⟨k, rfl⟩ : ∃ k, w = k + 1 := ⟨w - 1, by omega⟩
  rw [Nat.add_sub_cancel, one_tm]
theorem mul_comm (p u v w : Nat) (h : 1 ≤ w) (hu : u < 2 ^ w) (hv : v < 2 ^ w) : tm p u w v = tm p v w u := by
  have e := tm_tm p u v w w (2 ^ (w - 1))
  rw [mul_one p v w h hv, mul_one p u w h hu] at e
  exact e
theorem mul_assoc (p u v z w : Nat) (h : 1 ≤ w) (hp : p < 2 ^ w) (hv : v < 2 ^ w) (hz : z < 2 ^ w) :
    tm p (tm p u w v) w z = tm p u w (tm p v w z) := by
  rw [mul_comm p _ z w h (tm_lt hp u w v hv) hz, tm_tm, mul_comm p z v w h hz hv]
theorem it_one_mul (p w a : Nat) (h : 1 ≤ w) (hp : p < 2 ^ w) (v : Nat) (hv : v < 2 ^ w) : tm p (it p a (2 ^ (w - 1))) w v = it p a v := by
  have h1 : 2 ^ (w - 1) < 2 ^ w := Nat.pow_lt_pow_right (by omega) (by omega)
  rw [mul_comm p _ v w h (it_lt hp a _ h1) hv, ← tm_it, mul_one p v w h hv]
theorem mul_it_one (p w a : Nat) (h : 1 ≤ w) (v : Nat) (hv : v < 2 ^ w) : tm p v w (it p a (2 ^ (w - 1))) = it p a v := by
  rw [← tm_it, mul_one p v w h hv]
end Go.Proofs.Qxb6003627a.Crc
