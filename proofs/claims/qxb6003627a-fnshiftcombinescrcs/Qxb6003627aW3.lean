/-
  THE WALKS OF zzBytes_FnShiftCombinesCRCs, zzCloneBytes, zzCRCRaw.
-/
import Derived.Test.Qxb6003627aW2
import Derived.Test.Qxb6003627aCrcMath
import Derived.Deep.OwnRows
namespace Go.Proofs.Qxb6003627a
open Go.RowKit Crc

theorem Word.raw {p : Nat} (hp : Word p) (bs : List Nat) {r : Nat} (hr : Word r) : Word (raw p r bs) := by
  unfold Word at *; rw [two64] at *; exact raw_lt (by decide) hp bs r hr
theorem Word.byteN {p : Nat} (hp : Word p) (b j : Nat) {r : Nat} (hr : Word r) : Word (byteN p b j r) := by
  unfold Word at *; rw [two64] at *; exact byteN_lt (by decide) hp b j r hr
theorem Word.dbit (b j : Nat) : Word (dbit b j) := by have := dbit_lt b j; unfold Word; omega
theorem Word.sh {b : Nat} (hb : b < 256) (j : Nat) : Word (sh b j) := by
  have := Nat.div_le_self b (2 ^ j); unfold Word Crc.sh; omega
theorem wrap_sh {b : Nat} (hb : b < 256) (j : Nat) : IntKind.u64.wrap ((b : Int) / 2 ^ j) = ((sh b j : Nat) : Int) := by
  have e : ((b : Int) / 2 ^ j) = ((sh b j : Nat) : Int) := by unfold sh; rw [Int.natCast_ediv]; simp
  rw [e]; exact wrap_word (Word.sh hb j)
theorem and_sh {b : Nat} (hb : b < 256) (j : Nat) : bits .and .u64 ((sh b j : Nat) : Int) 1 = ((dbit b j : Nat) : Int) := and_one (Word.sh hb j)
theorem half_dbit (r b j : Nat) : (r ^^^ dbit b j) / 2 = r / 2 := by
  rw [half_xor]; have := dbit_lt b j; rw [show dbit b j / 2 = 0 by omega, Nat.xor_zero]
theorem step_up {p r b j : Nat} (hp : Word p) (hr : Word r) (h : (bits .and .u64 ((r ^^^ dbit b j : Nat) : Int) 1 != 0) = true) :
    bits .xor .u64 ((r : Int) / 2) (p : Int) = ((tx p (r ^^^ dbit b j) : Nat) : Int) := by
  rw [odd_test (hr.xor (Word.dbit b j))] at h
  have e := xor_word (hr.half) hp
  rw [Int.natCast_ediv] at e
  unfold tx; rw [if_pos (by simpa using h), half_dbit]; exact e
theorem step_down {p r b j : Nat} (hr : Word r) (h : (bits .and .u64 ((r ^^^ dbit b j : Nat) : Int) 1 != 0) = false) :
    (r : Int) / 2 = ((tx p (r ^^^ dbit b j) : Nat) : Int) := by
  rw [odd_test (hr.xor (Word.dbit b j))] at h
  unfold tx; rw [if_neg (by simpa using h), half_dbit]; simp

theorem getD_at {bs : List Nat} {k : Nat} (h : k < bs.length) : bs.getD k 0 = bs[k] := by simp [h]

/-- The slice at a, of the bytes bs. -/
def Row (w : World) (a : Option Addr) (bs : List Nat) : Prop :=
  (∀ x ∈ bs, x < 256) ∧ (bs = [] ∨ ∃ b off, a = some ⟨b, off, none⟩ ∧ b < w.heap.size ∧ ∀ i, i < bs.length → w.cell? ⟨b, off + i, none⟩ = some (.int .u8 (bs.getD i 0 : Nat)))

set_option maxHeartbeats 400000 in
theorem raw_some (p r b off cap : Nat) (bs : List Nat) (hp : Word p) (hr : Word r) (h256 : ∀ x ∈ bs, x < 256) (hl : bs.length ≤ 1048576) (w : World)
    (hc : ∀ i, i < bs.length → w.cell? ⟨b, off + i, none⟩ = some (.int .u8 (bs.getD i 0 : Nat))) :
    Calls Try.prog 17 #[.int .u64 p, .int .u64 r, .slice (some ⟨b, off, none⟩) bs.length cap] w fun e w' => e = .returned (.int .u64 (raw p r bs : Nat)) ∧ w' = w := by
  go_enter Try.func17, Try.ntmps17
  go_wp2
  go_loop [1, 7] (fun x i => ∃ k c : Nat, k ≤ bs.length ∧ i = .int .i64 k ∧ x = .int .u64 c ∧ Word c ∧ Hid (raw p c (bs.drop k) = raw p r bs)) (fun _ i => bs.length - (intOf i).toNat)
  case atStart => exact ⟨0, r, Nat.zero_le _, rfl, rfl, hr, rfl⟩
  case round =>
    obtain ⟨k, c, hk, rfl, rfl, hw, HE⟩ := hrel
    by_cases hlt : k < bs.length
    · have hcell := hc k hlt
      have hB : bs.getD k 0 < 256 := by rw [getD_at hlt]; exact h256 _ (List.getElem_mem hlt)
      have HD : Hid (bs.drop k = bs.getD k 0 :: bs.drop (k + 1)) := by unfold Hid; rw [getD_at hlt]; exact List.drop_eq_getElem_cons hlt
      generalize bs.getD k 0 = B at hcell hB HD
      clear hc h256
      go_wp2
      go_loop [1, 9] (fun x i => ∃ j : Nat, j ≤ 8 ∧ i = .int .u64 j ∧ x = .int .u64 (byteN p B j c : Nat)) (fun _ i => 8 - (intOf i).toNat)
      case atStart => exact ⟨0, Nat.zero_le _, rfl, rfl⟩
      case round =>
        obtain ⟨j, hj, rfl, rfl⟩ := hrel
        by_cases h8 : j < 8
        · have r1 := wrap_sh hB j
          have r2 := and_sh hB j
          have wj := hp.byteN B j hw
          have r3 := xor_word wj (Word.dbit B j)
          by_cases h : (bits .and .u64 ((byteN p B j c ^^^ dbit B j : Nat) : Int) 1 != 0) = true
          · have HU : Hid _ := step_up hp wj h
            go_wp2
            go_round
            case rel => exact ⟨j + 1, by omega, by go_num, by rw [HU.out]; rfl⟩
            case measure => simp [intOf]; omega
          · have h : (bits .and .u64 ((byteN p B j c ^^^ dbit B j : Nat) : Int) 1 != 0) = false := by simpa using h
            have HU : Hid _ := step_down (p := p) wj h
            go_wp2
            go_round
            case rel => exact ⟨j + 1, by omega, by go_num, by rw [HU.out]; rfl⟩
            case measure => simp [intOf]; omega
        · have h8 : j = 8 := by omega
          subst h8
          go_wp2
          go_round
          case rel => exact ⟨k + 1, byteN p B 8 c, by omega, by go_num, rfl, hp.byteN B 8 hw, by have := HE.out; rw [HD.out] at this; exact this⟩
          case measure => simp [intOf]; omega
    · have hk' : k = bs.length := by omega
      have HE' : Hid (c = raw p r bs) := by have := HE.out; rw [hk', List.drop_length] at this; exact this
      clear HE hk' hc h256
      go_wp2
      go_ret
      exact ⟨ret_int (by rw [HE'.out]), rfl⟩

theorem raw_none (p r cap : Nat) (a : Option Addr) (w : World) :
    Calls Try.prog 17 #[.int .u64 p, .int .u64 r, .slice a 0 cap] w fun e w' => e = .returned (.int .u64 r) ∧ w' = w := by
  go_enter Try.func17, Try.ntmps17
  go_wp2
  go_loop [1, 7] (fun x i => i = .int .i64 0 ∧ x = .int .u64 r) (fun _ _ => 0)
  case atStart => exact ⟨rfl, rfl⟩
  case round =>
    obtain ⟨rfl, rfl⟩ := hrel
    go_wp2
    go_ret
    exact ⟨rfl, rfl⟩

/-- zzCRCRaw. -/
theorem raw_any (p r cap : Nat) (a : Option Addr) (bs : List Nat) (hp : Word p) (hr : Word r) (hl : bs.length ≤ 1048576) (w : World) (h : Row w a bs) :
    Calls Try.prog 17 #[.int .u64 p, .int .u64 r, .slice a bs.length cap] w fun e w' => e = .returned (.int .u64 (raw p r bs : Nat)) ∧ w' = w := by
  obtain ⟨h256, rfl | ⟨b, off, rfl, _, hc⟩⟩ := h
  · exact raw_none p r cap a w
  · exact raw_some p r b off cap bs hp hr h256 hl w hc

/-- zzBytes_FnShiftCombinesCRCs. -/
theorem bytes_yes (wd p : Int) (a c : Option Addr) (la ca lb cb : Nat) (h : la + lb ≤ 1048576) (w : World) :
    Calls Try.prog 15 #[.int .u64 wd, .int .u64 p, .slice a la ca, .slice c lb cb] w fun e w' => e = .returned (.bool true) ∧ w' = w := by
  go_enter Try.func15, Try.ntmps15
  go_wp2
  go_ret
  exact ⟨rfl, rfl⟩
theorem bytes_no (wd p : Int) (a c : Option Addr) (la ca lb cb : Nat) (h : 1048576 < la + lb) (ha : la ≤ 9223372036854775807) (hb : lb ≤ 9223372036854775807) (w : World) :
    Calls Try.prog 15 #[.int .u64 wd, .int .u64 p, .slice a la ca, .slice c lb cb] w fun e w' => e = .returned (.bool false) ∧ w' = w := by
  by_cases h1 : 1048576 < la
  · go_enter Try.func15, Try.ntmps15
    go_wp2
    go_ret
    exact ⟨rfl, rfl⟩
  by_cases h2 : 1048576 < lb
  · go_enter Try.func15, Try.ntmps15
    go_wp2
    go_ret
    exact ⟨rfl, rfl⟩
  · go_enter Try.func15, Try.ntmps15
    go_wp2
    go_ret
    exact ⟨rfl, rfl⟩

theorem info5 : (Try.prog.info? 5).map (fun i => (i.zero, i.size, i.bytes)) = some (some (.int .u8 0), 1, 1) := by kernel_rfl

theorem nil_test (w : World) (a : Option Addr) (n c : Nat) : (binOp .eql 35 (.slice a n c) (.slice none 0 0)).run Try.prog w = .ok (.bool a.isNone) w :=
  Lib.run_eql_slice_nil (P := Try.prog) w 35 5 a n c 0 0 Try.underlying35

/-- zzCloneBytes, nil. -/
theorem clone_nil (w : World) :
    Calls Try.prog 16 #[.slice none 0 0] w fun e w' => e = .returned (.slice none 0 0) ∧ w' = w := by
  have hn := fun (w : World) => nil_test w none 0 0
  go_enter Try.func16, Try.ntmps16
  go_wp2
  go_ret
  exact ⟨rfl, rfl⟩

/-- zzCloneBytes, not nil, empty. -/
theorem clone_empty (x : Addr) (cap : Nat) (w : World) :
    Calls Try.prog 16 #[.slice (some x) 0 cap] w fun e w' => e = .returned (.slice (some ⟨w.heap.size, 0, none⟩) 0 0) ∧ Below w.heap.size w w' ∧ w.heap.size < w'.heap.size := by
  have hn := fun (w : World) => nil_test w (some x) 0 cap
  have hmk : ∀ w, (Instr.makeSlice 35 (.int .i64 0) (.int .i64 0)).run Try.prog w = .ok (.slice (some ⟨w.heap.size, 0, none⟩) 0 0) (w.alloc (.cells #[] 5)) := fun _ => by kernel_rfl
  go_enter Try.func16, Try.ntmps16
  go_wp2
  go_loop [4] (fun i => i = .int .i64 0) (fun _ => 0)
  case atStart => rfl
  case round =>
    obtain rfl := hrel
    go_wp2
    go_ret
    exact ⟨rfl, (Below.refl _ _).alloc (Nat.le_refl _) _, by simp⟩

set_option maxHeartbeats 400000 in
/-- zzCloneBytes, not empty. -/
theorem clone_some (b off cap : Nat) (bs : List Nat) (hl : bs.length ≤ 1048576) (w : World) (hb : b < w.heap.size)
    (hc : ∀ i, i < bs.length → w.cell? ⟨b, off + i, none⟩ = some (.int .u8 (bs.getD i 0 : Nat))) :
    Calls Try.prog 16 #[.slice (some ⟨b, off, none⟩) bs.length cap] w fun e w' => e = .returned (.slice (some ⟨w.heap.size, 0, none⟩) bs.length bs.length) ∧ Below w.heap.size w w' ∧
      w'.rowIs w.heap.size 5 bs.length (fun i => .int .u8 (bs.getD i 0 : Nat)) := by
  have hn := fun (w : World) => nil_test w (some ⟨b, off, none⟩) bs.length cap
  have hmk := run_make_row' (P := Try.prog) 35 5 (.int .u8 0) 1 Try.underlying35 info5 rfl .i64 .i64 bs.length (by omega) (by omega)
  go_enter Try.func16, Try.ntmps16
  go_wp2
  go_loopw [4] (fun i wr => ∃ k : Nat, k ≤ bs.length ∧ i = .int .i64 k ∧ Below w.heap.size w wr ∧ wr.rowIs w.heap.size 5 bs.length (fun j => if j < k then .int .u8 (bs.getD j 0 : Nat) else .int .u8 0)) (fun i _ => bs.length - (intOf i).toNat)
  case atStart => exact ⟨0, Nat.zero_le _, rfl, (Below.refl _ _).alloc (Nat.le_refl _) _, (World.rowIs_made w _ _ 5).congr (fun j _ => by simp)⟩
  case round =>
    obtain ⟨k, hk, rfl, hbel, hrow⟩ := hrel
    by_cases hlt : k < bs.length
    · have c1 : wr.cell? ⟨b, off + k, none⟩ = some (.int .u8 (bs.getD k 0 : Nat)) := (hbel.cell (p := ⟨b, off + k, none⟩) hb).trans (hc k hlt)
      obtain ⟨B, hB⟩ : ∃ B, B = bs.getD k 0 := ⟨_, rfl⟩
      have HB : Hid (bs.getD k 0 = B) := hB.symm
      rw [← hB] at c1
      clear hB
      have c2 : wr.cell? ⟨w.heap.size, k, none⟩ = some (.int .u8 0) := by have := hrow.cell hlt; simpa using this
      have c3 : wr.frozen? ⟨w.heap.size, k, none⟩ = false := hrow.frozen k
      have HR : Hid (wr.rowIs w.heap.size 5 bs.length (fun j => if j < k then .int .u8 (bs.getD j 0 : Nat) else .int .u8 0)) := hrow
      clear hrow hc hmk hn
      go_wp2
      go_roundw
      case rel =>
        refine ⟨k + 1, by omega, by go_num, hbel.setCell (Nat.le_refl _) _, (HR.out.set k _).congr (fun j _ => ?_)⟩
        by_cases e : j = k
        · subst e; rw [if_pos rfl, if_pos (by omega), HB.out]
        · rw [if_neg e]
          by_cases hj : j < k
          · rw [if_pos hj, if_pos (by omega)]
          · rw [if_neg hj, if_neg (by omega)]
      case measure => simp [intOf]; omega
    · have hk' : k = bs.length := by omega
      subst hk'
      clear hc hmk hn
      have HR := hrow.congr (g := fun i => .int .u8 (bs.getD i 0 : Nat)) (fun j hj => by simp [hj])
      clear hrow
      go_wp2
      go_ret
      exact ⟨rfl, hbel, HR⟩

theorem Row.below {w w' : World} {a : Option Addr} {bs : List Nat} (h : Row w a bs) (hb : Below w.heap.size w w') : Row w' a bs := by
  obtain ⟨h256, rfl | ⟨b, off, rfl, hlt, hc⟩⟩ := h
  · exact ⟨h256, .inl rfl⟩
  · exact ⟨h256, .inr ⟨b, off, rfl, Nat.lt_of_lt_of_le hlt hb.size, fun i hi => (hb.cell (p := ⟨b, off + i, none⟩) hlt).trans (hc i hi)⟩⟩

/-- zzCloneBytes. -/
theorem clone_any (a : Option Addr) (cap : Nat) (bs : List Nat) (hl : bs.length ≤ 1048576) (hnil : a = none → bs = [] ∧ cap = 0) (w : World) (h : Row w a bs) :
    Calls Try.prog 16 #[.slice a bs.length cap] w fun e w' => ∃ a' cap', e = .returned (.slice a' bs.length cap') ∧ Below w.heap.size w w' ∧ Row w' a' bs := by
  rcases a with _ | x
  · obtain ⟨rfl, rfl⟩ := hnil rfl
    refine (clone_nil w).mono ?_
    rintro e w' ⟨rfl, rfl⟩
    exact ⟨none, 0, rfl, Below.refl _ _, h⟩
  · have h256 := h.1
    obtain rfl | ⟨b, off, hx, hlt, hc⟩ := h.2
    · refine (clone_empty x cap w).mono ?_
      rintro e w' ⟨rfl, hb, _⟩
      exact ⟨_, 0, rfl, hb, h256, .inl rfl⟩
    · obtain rfl : x = ⟨b, off, none⟩ := by simpa using hx
      refine (clone_some b off cap bs hl w hlt hc).mono ?_
      rintro e w' ⟨rfl, hb, hr⟩
      exact ⟨_, _, rfl, hb, h256, .inr ⟨_, 0, rfl, hr.lt, fun i hi => by rw [Nat.zero_add]; exact hr.cell hi⟩⟩
end Go.Proofs.Qxb6003627a
