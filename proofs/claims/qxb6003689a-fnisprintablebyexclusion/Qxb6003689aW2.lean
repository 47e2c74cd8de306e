/-
  THE WALK OF FnIsPrintableByExclusion: the runes parted into points and ranges in each of which every test is decided.
-/
import Derived.Test.Qxb6003689aRows
import Derived.WalkKit
import Derived.ProofKit
import Derived.WalkSpells
import Derived.WalkLawsBesides
import Derived.OpenShut
namespace Go.Proofs.Qxb6003689a
open Go.RowKit

theorem points (c : Int) : (c = 9 ∨ c = 10 ∨ c = 13 ∨ c = 127 ∨ c = 133 ∨ c = 65534 ∨ c = 65535) ∨
    ((c == 9) = false ∧ (c == 10) = false ∧ (c == 13) = false ∧ (c == 127) = false ∧ (c == 133) = false ∧ (c == 65534) = false ∧ (c == 65535) = false) := by
  simp only [beq_eq_false_iff_ne]; omega
theorem ranges (c : Int) (h4 : (c == 127) = false) (h5 : (c == 133) = false) (h6 : (c == 65534) = false) (h7 : (c == 65535) = false) :
    c < 0 ∨ (0 ≤ c ∧ c ≤ 31) ∨ (32 ≤ c ∧ c ≤ 126) ∨ (128 ≤ c ∧ c ≤ 159) ∨ (160 ≤ c ∧ c ≤ 55295) ∨ (55296 ≤ c ∧ c ≤ 57343) ∨ (57344 ≤ c ∧ c ≤ 65533) ∨ (65536 ≤ c ∧ c ≤ 1114111) ∨ 1114112 ≤ c := by
  simp only [beq_eq_false_iff_ne] at h4 h5 h6 h7; omega

set_option maxHeartbeats 4000000 in
theorem printable_points (c : Int) (h : c = 9 ∨ c = 10 ∨ c = 13 ∨ c = 127 ∨ c = 133 ∨ c = 65534 ∨ c = 65535) (w : World) :
    Calls Try.prog 5 #[.int .i32 c] w fun e w' => e = .returned (.bool true) ∧ Grown w w' := by
  rcases h with rfl | rfl | rfl | rfl | rfl | rfl | rfl
  all_goals
    go_enter Try.func5, Try.ntmps5
    go_wp2
    go_ret
    exact ⟨rfl, by repeat (first | exact Grown.refl _ | apply Grown.drew | apply Grown.alloc)⟩

set_option maxHeartbeats 4000000 in
theorem printable_ranges (c : Int) (h1 : (c == 9) = false) (h2 : (c == 10) = false) (h3 : (c == 13) = false) (h4 : (c == 127) = false) (h5 : (c == 133) = false) (h6 : (c == 65534) = false) (h7 : (c == 65535) = false) (w : World) :
    Calls Try.prog 5 #[.int .i32 c] w fun e w' => e = .returned (.bool true) ∧ Grown w w' := by
  rcases ranges c h4 h5 h6 h7 with h | ⟨h, h'⟩ | ⟨h, h'⟩ | ⟨h, h'⟩ | ⟨h, h'⟩ | ⟨h, h'⟩ | ⟨h, h'⟩ | ⟨h, h'⟩ | h
  all_goals
    go_enter Try.func5, Try.ntmps5
    go_wp2
    go_ret
    exact ⟨rfl, by repeat (first | exact Grown.refl _ | apply Grown.drew | apply Grown.alloc)⟩

theorem printable_law (c : Int) (w : World) :
    Calls Try.prog 5 #[.int .i32 c] w fun e w' => e = .returned (.bool true) ∧ Grown w w' := by
  rcases points c with h | ⟨h1, h2, h3, h4, h5, h6, h7⟩
  · exact printable_points c h w
  · exact printable_ranges c h1 h2 h3 h4 h5 h6 h7 w
end Go.Proofs.Qxb6003689a
