/-
  THE WALKS OF zzRev, zzXorShifted, zzClmul, zzReduce, zzMulN, zzMulR.
-/
import Derived.Test.Qxb6003627aW1
import Derived.Test.Qxb6003627aPoly
namespace Go.Proofs.Qxb6003627a
open Go.RowKit Crc

/-! ### A number of 128 bits in two words -/
def hiW (N : Nat) : Nat := N / 2 ^ 64
def loW (N : Nat) : Nat := N % 2 ^ 64
theorem hi_xor (N M : Nat) : hiW (N ^^^ M) = hiW N ^^^ hiW M := by
  unfold hiW; apply Nat.eq_of_testBit_eq; intro i; simp only [Nat.testBit_div_two_pow, Nat.testBit_xor]
theorem lo_xor (N M : Nat) : loW (N ^^^ M) = loW N ^^^ loW M := by
  unfold loW; exact Nat.xor_mod_two_pow
theorem hi_word {N : Nat} (h : N < 2 ^ 128) : Word (hiW N) := by
  unfold Word hiW; rw [two64]; apply Nat.div_lt_of_lt_mul; exact h
theorem lo_word (N : Nat) : Word (loW N) := by
  unfold Word loW; rw [two64]; exact Nat.mod_lt _ (by decide)
theorem xor_hi {N M : Nat} (hN : N < 2 ^ 128) (hM : M < 2 ^ 128) : bits .xor .u64 ((hiW N : Nat) : Int) ((hiW M : Nat) : Int) = ((hiW (N ^^^ M) : Nat) : Int) := by
  rw [hi_xor]; exact xor_word (hi_word hN) (hi_word hM)
theorem xor_lo (N M : Nat) : bits .xor .u64 ((loW N : Nat) : Int) ((loW M : Nat) : Int) = ((loW (N ^^^ M) : Nat) : Int) := by
  rw [lo_xor]; exact xor_word (lo_word N) (lo_word M)
theorem wrap_mod (n : Nat) : IntKind.u64.wrap (n : Int) = ((loW n : Nat) : Int) := by
  rw [IntKind.wrap_u64]; unfold loW; omega
theorem shl_lo {val s M : Nat} (h : M = val * 2 ^ s) : IntKind.u64.wrap ((val : Int) * 2 ^ s) = ((loW M : Nat) : Int) := by
  rw [← wrap_mod, h]; congr 1
theorem shr_hi {val s M : Nat} (h : M = val * 2 ^ s) (hs : s ≤ 64) : (val : Int) / 2 ^ (64 - s) = ((hiW M : Nat) : Int) := by
  have e : hiW M = val / 2 ^ (64 - s) := by
    unfold hiW
    rw [h, show (2 : Nat) ^ 64 = 2 ^ (64 - s) * 2 ^ s by rw [← Nat.pow_add]; congr 1; omega]
    exact Nat.mul_div_mul_right _ _ (Nat.two_pow_pos s)
  rw [e, Int.natCast_ediv]; simp
theorem shl_hi {val s M : Nat} (h : M = val * 2 ^ s) (hs : 64 ≤ s) (hM : M < 2 ^ 128) : IntKind.u64.wrap ((val : Int) * 2 ^ (s - 64)) = ((hiW M : Nat) : Int) := by
  have e : hiW M = val * 2 ^ (s - 64) := by
    unfold hiW
    rw [h, show (2 : Nat) ^ s = 2 ^ (s - 64) * 2 ^ 64 by rw [← Nat.pow_add]; congr 1; omega, ← Nat.mul_assoc]
    exact Nat.mul_div_cancel _ (Nat.two_pow_pos 64)
  have hw := hi_word hM
  rw [e] at hw ⊢
  rw [← wrap_word hw]; congr 1
theorem lo_zero {val s M : Nat} (h : M = val * 2 ^ s) (hs : 64 ≤ s) : loW M = 0 := by
  unfold loW
  rw [h, show (2 : Nat) ^ s = 2 ^ (s - 64) * 2 ^ 64 by rw [← Nat.pow_add]; congr 1; omega, ← Nat.mul_assoc]
  exact Nat.mul_mod_left _ _
theorem hi_zero {M : Nat} (h : M < 2 ^ 64) : hiW M = 0 := Nat.div_eq_of_lt h
theorem lo_self {M : Nat} (h : M < 2 ^ 64) : loW M = M := Nat.mod_eq_of_lt h
theorem ret_two {k : IntKind} {a b c d : Int} (h : a = c) (h' : b = d) : Ending.returned (.tuple #[.int k a, .int k b]) = .returned (.tuple #[.int k c, .int k d]) := by rw [h, h']

set_option maxRecDepth 10000 in
/-- zzXorShifted. -/
theorem xorsh_any (N val s M : Nat) (hN : N < 2 ^ 128) (hv : Word val) (hs : s < 128) (hMe : M = val * 2 ^ s) (hM : M < 2 ^ 128) (w : World) :
    Calls Try.prog 25 #[.int .u64 (hiW N : Nat), .int .u64 (loW N : Nat), .int .u64 val, .int .u64 s] w fun e w' =>
      e = .returned (.tuple #[.int .u64 (hiW (N ^^^ M) : Nat), .int .u64 (loW (N ^^^ M) : Nat)]) ∧ w' = w := by
  have x1 := xor_lo N M
  have x2 := xor_hi hN hM
  by_cases h0 : s = 0
  · subst h0
    have HM : Hid (hiW M = 0) := hi_zero (by rw [hMe, Nat.pow_zero, Nat.mul_one, ← two64]; exact hv)
    have r1 : IntKind.u64.wrap (val : Int) = ((loW M : Nat) : Int) := by have := shl_lo hMe; simpa using this
    clear hMe hM hN hv x2
    go_enter Try.func25, Try.ntmps25
    go_wp2
    go_ret2
    exact ⟨ret_two (by rw [hi_xor, HM.out, Nat.xor_zero]) rfl, rfl⟩
  by_cases h64 : s < 64
  · have h0 : 0 < s := by omega
    have r1 := shl_lo hMe
    have r2 := shr_hi hMe (by omega)
    clear hMe hM hN hv
    go_enter Try.func25, Try.ntmps25
    go_wp2
    go_ret2
    exact ⟨ret_two rfl rfl, rfl⟩
  · replace h64 : 64 ≤ s := by omega
    clear h0
    have r1 := shl_hi hMe h64 hM
    have HZ : Hid (loW M = 0) := lo_zero hMe h64
    clear hMe hM hN hv
    clear x1
    go_enter Try.func25, Try.ntmps25
    go_wp2
    go_ret2
    exact ⟨ret_two rfl (by rw [lo_xor, HZ.out, Nat.xor_zero]), rfl⟩

theorem xorsh_at (N val s M : Nat) (v' s' : Int) (hN : N < 2 ^ 128) (hv : Word val) (hs : s < 128) (hMe : M = val * 2 ^ s) (hM : M < 2 ^ 128) (ev : v' = val) (es : s' = s) (w : World) :
    Calls Try.prog 25 #[.int .u64 (hiW N : Nat), .int .u64 (loW N : Nat), .int .u64 v', .int .u64 s'] w fun e w' =>
      e = .returned (.tuple #[.int .u64 (hiW (N ^^^ M) : Nat), .int .u64 (loW (N ^^^ M) : Nat)]) ∧ w' = w := by
  subst ev es; exact xorsh_any N val s M hN hv hs hMe hM w

theorem shl_lt {a s m : Nat} (ha : a < 2 ^ m) (hs : m + s ≤ 128) : a * 2 ^ s < 2 ^ 128 := by
  calc a * 2 ^ s < 2 ^ m * 2 ^ s := Nat.mul_lt_mul_of_pos_right ha (Nat.two_pow_pos s)
    _ = 2 ^ (m + s) := (Nat.pow_add 2 m s).symm
    _ ≤ 2 ^ 128 := Nat.pow_le_pow_right (by decide) hs

set_option maxRecDepth 10000 in
/-- zzClmul. -/
theorem clmul_any (a b : Nat) (ha : Word a) (hb : Word b) (w : World) :
    Calls Try.prog 24 #[.int .u64 a, .int .u64 b] w fun e w' =>
      e = .returned (.tuple #[.int .u64 (hiW (cl a b 64) : Nat), .int .u64 (loW (cl a b 64) : Nat)]) ∧ w' = w := by
  have ha' : a < 2 ^ 64 := by rw [← two64]; exact ha
  have HL : Hid (∀ k, k ≤ 64 → cl a b k < 2 ^ 128) := cl_lt ha'
  have HS : Hid (∀ s, s ≤ 64 → a * 2 ^ s < 2 ^ 128) := fun s hs => shl_lt ha' (by omega)
  clear ha'
  go_enter Try.func24, Try.ntmps24
  go_wp2
  go_loop [6, 7, 8] (fun h l i => ∃ k : Nat, k ≤ 64 ∧ i = .int .u64 k ∧ h = .int .u64 (hiW (cl a b k) : Nat) ∧ l = .int .u64 (loW (cl a b k) : Nat)) (fun _ _ i => 64 - (intOf i).toNat)
  case atStart => exact ⟨0, by omega, rfl, by simp [cl, hiW], by simp [cl, loW]⟩
  case round =>
    obtain ⟨k, hk, rfl, rfl, rfl⟩ := hrel
    by_cases hlt : k < 64
    · by_cases h : (bits .and .u64 ((b : Int) / 2 ^ k) 1 != 0) = true
      · have HB : Hid (b.testBit k = true) := by unfold Hid; rw [← bit_test hb k]; exact h
        obtain ⟨M, hM⟩ : ∃ M, M = a * 2 ^ k := ⟨_, rfl⟩
        have HM : Hid (M = a * 2 ^ k) := hM
        clear hM
        go_wp2_with (go_at_call 25; refine (xorsh_any (cl a b k) a k M (HL.out k hk) ha (by omega) HM.out (by rw [HM.out]; exact HS.out k hk) _).mono ?_; rintro e w' ⟨rfl, rfl⟩)
        go_round
        case rel => exact ⟨k + 1, by omega, by go_num, by rw [cl, HB.out, if_pos rfl, HM.out], by rw [cl, HB.out, if_pos rfl, HM.out]⟩
        case measure => simp [intOf]; omega
      · have h : (bits .and .u64 ((b : Int) / 2 ^ k) 1 != 0) = false := by simpa using h
        have HB : Hid (b.testBit k = false) := by unfold Hid; rw [← bit_test hb k]; exact h
        go_wp2
        go_round
        case rel => exact ⟨k + 1, by omega, by go_num, by rw [cl, HB.out, if_neg (by decide)], by rw [cl, HB.out, if_neg (by decide)]⟩
        case measure => simp [intOf]; omega
    · obtain rfl : k = 64 := by omega
      go_wp2
      go_ret2
      exact ⟨rfl, rfl⟩

theorem or_word {a b : Nat} (ha : Word a) (hb : Word b) : bits .or .u64 (a : Int) (b : Int) = ((a ||| b : Nat) : Int) := u64_or_nat a b ha hb
theorem rv_word {wd : Nat} (h64 : wd ≤ 64) (x : Nat) : ∀ k, k ≤ wd → Word (rv wd x k) := by
  intro k hk
  apply Word.of h64
  apply Nat.lt_pow_two_of_testBit
  intro i hi
  rw [rv_bit wd x i k hk]; simp; omega

set_option maxRecDepth 10000 in
/-- zzRev. -/
theorem rev_any (x wd : Nat) (hx : Word x) (h1 : 1 ≤ wd) (h64 : wd ≤ 64) (w : World) :
    Calls Try.prog 18 #[.int .u64 x, .int .u64 wd] w fun e w' => e = .returned (.int .u64 (Rev wd x : Nat)) ∧ w' = w := by
  have HW : Hid (∀ k, k ≤ wd → Word (rv wd x k)) := rv_word h64 x
  go_enter Try.func18, Try.ntmps18
  go_wp2
  go_loop [5, 6] (fun o i => ∃ k : Nat, k ≤ wd ∧ i = .int .u64 k ∧ o = .int .u64 (rv wd x k : Nat)) (fun _ i => wd - (intOf i).toNat)
  case atStart => exact ⟨0, by omega, rfl, rfl⟩
  case round =>
    obtain ⟨k, hk, rfl, rfl⟩ := hrel
    by_cases hlt : k < wd
    · by_cases h : (bits .and .u64 ((x : Int) / 2 ^ k) 1 != 0) = true
      · have HB : Hid (x.testBit k = true) := by unfold Hid; rw [← bit_test hx k]; exact h
        have wr := HW.out k hk
        have wp : Word (2 ^ (wd - 1 - k)) := pow_word (by omega)
        have HO : Hid _ := or_word wr wp
        have HP : Hid (IntKind.u64.wrap (2 ^ (wd - 1 - k)) = ((2 ^ (wd - 1 - k) : Nat) : Int)) := wrap_pow (by omega)
        go_wp2
        go_round
        case rel => exact ⟨k + 1, by omega, by go_num, by rw [HP.out, HO.out, rv, HB.out, if_pos rfl]⟩
        case measure => simp [intOf]; omega
      · have h : (bits .and .u64 ((x : Int) / 2 ^ k) 1 != 0) = false := by simpa using h
        have HB : Hid (x.testBit k = false) := by unfold Hid; rw [← bit_test hx k]; exact h
        go_wp2
        go_round
        case rel => exact ⟨k + 1, by omega, by go_num, by rw [rv, HB.out, if_neg (by decide)]⟩
        case measure => simp [intOf]; omega
    · obtain rfl : k = wd := by omega
      go_wp2
      go_ret
      exact ⟨rfl, rfl⟩

theorem lo_bit {N d : Nat} (h : d < 64) : (loW N).testBit d = N.testBit d := by
  unfold loW; rw [Nat.testBit_mod_two_pow]; simp [h]
theorem hi_bit {N d : Nat} (h : 64 ≤ d) : (hiW N).testBit (d - 64) = N.testBit d := by
  unfold hiW; rw [Nat.testBit_div_two_pow]; congr 1; omega

set_option maxRecDepth 10000 in
set_option maxHeartbeats 1000000 in
/-- zzReduce. -/
theorem reduce_any (N0 wd q : Nat) (h1 : 1 ≤ wd) (h64 : wd ≤ 64) (hq : q < 2 ^ wd) (hN : N0 < 2 ^ 128) (a b : Int) (ea : a = (hiW N0 : Nat)) (eb : b = (loW N0 : Nat)) (w : World) :
    Calls Try.prog 22 #[.int .u64 a, .int .u64 b, .int .u64 wd, .int .u64 q] w fun e w' =>
      e = .returned (.int .u64 (rd wd q (128 - wd) N0 : Nat)) ∧ w' = w := by
  subst ea eb
  have wq : Word q := Word.of h64 hq
  have HQ : Hid (q < 2 ^ wd) := hq
  have H2 : Hid (2 ^ wd ≤ 2 ^ 64) := Nat.pow_le_pow_right (by decide) h64
  have HN : Hid (N0 < 2 ^ 128) := hN
  clear hq hN
  go_enter Try.func22, Try.ntmps22
  go_wp2
  go_loop [0, 1, 9] (fun h l i => ∃ k N : Nat, wd + k ≤ 128 ∧ i = .int .i64 ((wd : Int) + k - 1) ∧ h = .int .u64 (hiW N : Nat) ∧ l = .int .u64 (loW N : Nat) ∧ Hid (N < 2 ^ (wd + k)) ∧ Hid (rd wd q k N = rd wd q (128 - wd) N0)) (fun _ _ i => (intOf i + 1).toNat)
  case atStart => exact ⟨128 - wd, N0, by omega, by go_num, rfl, rfl, by have := HN.out; unfold Hid; rw [show wd + (128 - wd) = 128 by omega]; exact this, rfl⟩
  case round =>
    obtain ⟨k, N, hk, rfl, rfl, rfl, HL, HE⟩ := hrel
    rcases k with _ | k
    · have HR : Hid (loW N = rd wd q (128 - wd) N0) := by
        have := HE.out; have hl := HL.out; have h2 := H2.out
        rw [Nat.add_zero] at hl
        rw [rd] at this; unfold Hid; rw [lo_self (Nat.lt_of_lt_of_le hl h2)]; exact this
      clear HL HE
      go_wp2
      go_ret
      exact ⟨ret_int (by rw [HR.out]), rfl⟩
    · have e : (wd : Int) + ((k + 1 : Nat) : Int) - 1 = ((wd + k : Nat) : Int) := by omega
      rw [e]
      clear e
      have HD : Hid (N < 2 ^ 128) := Nat.lt_of_lt_of_le HL.out (Nat.pow_le_pow_right (by decide) hk)
      obtain ⟨d, hd⟩ : ∃ d, d = wd + k := ⟨_, rfl⟩
      rw [← hd]
      have d1 : d < 128 := by omega
      have d2 : wd ≤ d := by omega
      have HDk : Hid (d = wd + k) := hd
      clear hd
      by_cases hb : N.testBit d = true
      · have HB : Hid (N.testBit (wd + k) = true) := by unfold Hid; rw [← HDk.out]; exact hb
        obtain ⟨M1, hM1⟩ : ∃ M, M = 1 * 2 ^ d := ⟨_, rfl⟩
        obtain ⟨M2, hM2⟩ : ∃ M, M = q * 2 ^ k := ⟨_, rfl⟩
        have H1 : Hid (M1 = 1 * 2 ^ d) := hM1
        have H2 : Hid (M2 = q * 2 ^ k) := hM2
        have H1L : Hid (M1 < 2 ^ 128) := by unfold Hid; rw [hM1, Nat.one_mul]; exact Nat.pow_lt_pow_right (by decide) d1
        have H2L : Hid (M2 < 2 ^ 128) := by unfold Hid; rw [hM2]; exact shl_lt HQ.out (by omega)
        have HX : Hid (N ^^^ M1 < 2 ^ 128) := Nat.xor_lt_two_pow HD.out H1L.out
        have HLT : Hid (N ^^^ M1 ^^^ M2 < 2 ^ (wd + k)) := by
          have := rd_step_lt HQ.out HL.out
          rw [HB.out, if_pos rfl] at this; unfold Hid; rw [hM1, hM2, HDk.out]; exact this
        have HE' : Hid (rd wd q k (N ^^^ M1 ^^^ M2) = rd wd q (128 - wd) N0) := by
          have := HE.out
          rw [rd, HB.out, if_pos rfl] at this; unfold Hid; rw [hM1, hM2, HDk.out]; exact this
        have w1 : Word 1 := by unfold Word; omega
        have k1 : k < 128 := by omega
        have HKD : Hid ((d : Int) - (wd : Int) = (k : Int)) := by have := HDk.out; unfold Hid; omega
        by_cases hd64 : d < 64
        · have h : (bits .and .u64 (((loW N : Nat) : Int) / 2 ^ d) 1 != 0) = true := by rw [bit_test (lo_word N), lo_bit hd64, hb]
          clear hb hM1 hM2 HL HE HB
          go_wp2_with fail
          refine (xorsh_at N 1 d M1 _ _ HD.out w1 d1 H1.out H1L.out rfl rfl _).mono ?_
          rintro e w' ⟨rfl, rfl⟩
          go_wp2_with fail
          refine (xorsh_at (N ^^^ M1) q k M2 _ _ HX.out wq k1 H2.out H2L.out rfl HKD.out _).mono ?_
          rintro e w' ⟨rfl, rfl⟩
          go_wp2
          go_round
          case rel => exact ⟨k, _, by omega, by have := HDk.out; go_num, rfl, rfl, HLT, HE'⟩
          case measure => simp [intOf]
        · have hd64 : 64 ≤ d := by omega
          have h : (bits .and .u64 (((hiW N : Nat) : Int) / 2 ^ (d - 64)) 1 != 0) = true := by rw [bit_test (hi_word HD.out), hi_bit hd64, hb]
          clear hb hM1 hM2 HL HE HB
          go_wp2_with fail
          refine (xorsh_at N 1 d M1 _ _ HD.out w1 d1 H1.out H1L.out rfl rfl _).mono ?_
          rintro e w' ⟨rfl, rfl⟩
          go_wp2_with fail
          refine (xorsh_at (N ^^^ M1) q k M2 _ _ HX.out wq k1 H2.out H2L.out rfl HKD.out _).mono ?_
          rintro e w' ⟨rfl, rfl⟩
          go_wp2
          go_round
          case rel => exact ⟨k, _, by omega, by have := HDk.out; go_num, rfl, rfl, HLT, HE'⟩
          case measure => simp [intOf]
      · have hb : N.testBit d = false := by simpa using hb
        have HB : Hid (N.testBit (wd + k) = false) := by unfold Hid; rw [← HDk.out]; exact hb
        have HLT : Hid (N < 2 ^ (wd + k)) := top_unset HL.out HB.out
        have HE' : Hid (rd wd q k N = rd wd q (128 - wd) N0) := by
          have := HE.out
          rw [rd, HB.out, if_neg (by decide)] at this; exact this
        by_cases hd64 : d < 64
        · have h : (bits .and .u64 (((loW N : Nat) : Int) / 2 ^ d) 1 != 0) = false := by rw [bit_test (lo_word N), lo_bit hd64, hb]
          clear hb HL HE HB
          go_wp2
          go_round
          case rel => exact ⟨k, N, by omega, by have := HDk.out; go_num, rfl, rfl, HLT, HE'⟩
          case measure => simp [intOf]
        · have hd64 : 64 ≤ d := by omega
          have h : (bits .and .u64 (((hiW N : Nat) : Int) / 2 ^ (d - 64)) 1 != 0) = false := by rw [bit_test (hi_word HD.out), hi_bit hd64, hb]
          clear hb HL HE HB
          go_wp2
          go_round
          case rel => exact ⟨k, N, by omega, by have := HDk.out; go_num, rfl, rfl, HLT, HE'⟩
          case measure => simp [intOf]

/-- zzMulN. -/
theorem mulN_any (a b wd q : Nat) (h1 : 1 ≤ wd) (h64 : wd ≤ 64) (hq : q < 2 ^ wd) (ha : Word a) (hb : Word b) (w : World) :
    Calls Try.prog 19 #[.int .u64 a, .int .u64 b, .int .u64 wd, .int .u64 q] w fun e w' => e = .returned (.int .u64 (mn wd q a b : Nat)) ∧ w' = w := by
  have HQ : Hid (q < 2 ^ wd) := hq
  have HL : Hid (cl a b 64 < 2 ^ 128) := cl_lt (by rw [← two64]; exact ha) 64 (Nat.le_refl _)
  clear hq
  go_enter Try.func19, Try.ntmps19
  go_wp2_with fail
  refine (clmul_any a b ha hb _).mono ?_
  rintro e w' ⟨rfl, rfl⟩
  go_wp2_with fail
  refine (reduce_any (cl a b 64) wd q h1 h64 HQ.out HL.out _ _ rfl rfl _).mono ?_
  rintro e w' ⟨rfl, rfl⟩
  go_wp2
  go_ret
  exact ⟨rfl, rfl⟩

theorem Rev_word {wd : Nat} (h64 : wd ≤ 64) (x : Nat) : Word (Rev wd x) := Word.of h64 (Rev_lt wd x)

/-- zzMulR. -/
theorem mulR_any (u v wd p : Nat) (h1 : 1 ≤ wd) (h64 : wd ≤ 64) (hp : p < 2 ^ wd) (hu : u < 2 ^ wd) (hv : v < 2 ^ wd) (w : World) :
    Calls Try.prog 9 #[.int .u64 u, .int .u64 v, .int .u64 wd, .int .u64 p] w fun e w' => e = .returned (.int .u64 (tm p u wd v : Nat)) ∧ w' = w := by
  have HR : Hid (Rev wd (mn wd (Rev wd p) (Rev wd u) (Rev wd v)) = tm p u wd v) := mulR h1 h64 hp hu hv
  have wu : Word u := Word.of h64 hu
  have wv : Word v := Word.of h64 hv
  have wp : Word p := Word.of h64 hp
  have ru := Rev_word h64 u
  have rv' := Rev_word h64 v
  have HQ : Hid (Rev wd p < 2 ^ wd) := Rev_lt wd p
  have wm : Word (mn wd (Rev wd p) (Rev wd u) (Rev wd v)) := Word.of h64 (mn_lt h64 (Rev_lt wd p) (by rw [← two64]; exact ru))
  clear hp hu hv
  go_enter Try.func9, Try.ntmps9
  go_wp2_with fail
  refine (rev_any p wd wp h1 h64 _).mono ?_
  rintro e w' ⟨rfl, rfl⟩
  go_wp2_with fail
  refine (rev_any u wd wu h1 h64 _).mono ?_
  rintro e w' ⟨rfl, rfl⟩
  go_wp2_with fail
  refine (rev_any v wd wv h1 h64 _).mono ?_
  rintro e w' ⟨rfl, rfl⟩
  go_wp2_with fail
  refine (mulN_any (Rev wd u) (Rev wd v) wd (Rev wd p) h1 h64 HQ.out ru rv' _).mono ?_
  rintro e w' ⟨rfl, rfl⟩
  go_wp2_with fail
  refine (rev_any _ wd wm h1 h64 _).mono ?_
  rintro e w' ⟨rfl, rfl⟩
  go_wp2
  go_ret
  exact ⟨ret_int (by rw [HR.out]), rfl⟩
end Go.Proofs.Qxb6003627a
