/-
  THE WALK OF FnKindNamesApart.
-/
import Derived.Test.Qxb6003689aRows
import Derived.WalkKit
import Derived.ProofKit
import Derived.WalkSpells
import Derived.WalkLawsBesides
import Derived.OpenShut
namespace Go.Proofs.Qxb6003689a
open Go.RowKit

/-! ### articleFits, at the five names -/
theorem art1 (w : World) : Calls Try.prog 12 #[.string ⟨#[97, 32, 115, 99, 97, 108, 97, 114]⟩] w fun e w' => e = .returned (.bool true) ∧ w' = w := by
  go_enter Try.func12, Try.ntmps12
  go_wp2
  go_ret
  exact ⟨rfl, rfl⟩
theorem art2 (w : World) : Calls Try.prog 12 #[.string ⟨#[97, 32, 115, 101, 113, 117, 101, 110, 99, 101]⟩] w fun e w' => e = .returned (.bool true) ∧ w' = w := by
  go_enter Try.func12, Try.ntmps12
  go_wp2
  go_ret
  exact ⟨rfl, rfl⟩
theorem art3 (w : World) : Calls Try.prog 12 #[.string ⟨#[97, 32, 109, 97, 112, 112, 105, 110, 103]⟩] w fun e w' => e = .returned (.bool true) ∧ w' = w := by
  go_enter Try.func12, Try.ntmps12
  go_wp2
  go_ret
  exact ⟨rfl, rfl⟩
theorem art4 (w : World) : Calls Try.prog 12 #[.string ⟨#[97, 110, 32, 97, 108, 105, 97, 115]⟩] w fun e w' => e = .returned (.bool true) ∧ w' = w := by
  go_enter Try.func12, Try.ntmps12
  go_wp2
  go_ret
  exact ⟨rfl, rfl⟩
theorem art0 (w : World) : Calls Try.prog 12 #[.string ⟨#[97, 32, 110, 111, 100, 101, 32, 111, 102, 32, 110, 111, 32, 107, 105, 110, 100]⟩] w fun e w' => e = .returned (.bool true) ∧ w' = w := by
  go_enter Try.func12, Try.ntmps12
  go_wp2
  go_ret
  exact ⟨rfl, rfl⟩

/-! ### Kind.String -/
theorem str1 (w : World) : Calls Try.prog 11 #[.int .u8 1] w fun e w' => e = .returned (.string ⟨#[97, 32, 115, 99, 97, 108, 97, 114]⟩) ∧ w' = w := by
  go_enter Try.func11, Try.ntmps11
  go_wp2
  go_ret
  exact ⟨rfl, rfl⟩
theorem str2 (w : World) : Calls Try.prog 11 #[.int .u8 2] w fun e w' => e = .returned (.string ⟨#[97, 32, 115, 101, 113, 117, 101, 110, 99, 101]⟩) ∧ w' = w := by
  go_enter Try.func11, Try.ntmps11
  go_wp2
  go_ret
  exact ⟨rfl, rfl⟩
theorem str3 (w : World) : Calls Try.prog 11 #[.int .u8 3] w fun e w' => e = .returned (.string ⟨#[97, 32, 109, 97, 112, 112, 105, 110, 103]⟩) ∧ w' = w := by
  go_enter Try.func11, Try.ntmps11
  go_wp2
  go_ret
  exact ⟨rfl, rfl⟩
theorem str4 (w : World) : Calls Try.prog 11 #[.int .u8 4] w fun e w' => e = .returned (.string ⟨#[97, 110, 32, 97, 108, 105, 97, 115]⟩) ∧ w' = w := by
  go_enter Try.func11, Try.ntmps11
  go_wp2
  go_ret
  exact ⟨rfl, rfl⟩
theorem str0 (k : Int) (h1 : (k == 1) = false) (h2 : (k == 2) = false) (h3 : (k == 3) = false) (h4 : (k == 4) = false) (w : World) :
    Calls Try.prog 11 #[.int .u8 k] w fun e w' => e = .returned (.string ⟨#[97, 32, 110, 111, 100, 101, 32, 111, 102, 32, 110, 111, 32, 107, 105, 110, 100]⟩) ∧ w' = w := by
  go_enter Try.func11, Try.ntmps11
  go_wp2
  go_ret
  exact ⟨rfl, rfl⟩

/-! ### The law, by the two kinds -/
set_option maxHeartbeats 1000000 in
theorem law1 (b : Int) (w : World) :
    Calls Try.prog 4 #[.int .u8 1, .int .u8 b] w fun e w' => e = .returned (.bool true) ∧ Grown w w' := by
  by_cases b1 : b = 1
  · subst b1
    go_enter Try.func4, Try.ntmps4
    go_wp2_with fail
    refine (str1 _).mono ?_
    rintro e w1 ⟨rfl, rfl⟩
    go_wp2_with fail
    refine (str1 _).mono ?_
    rintro e w2 ⟨rfl, rfl⟩
    go_wp2_with fail
    all_goals
      refine (art1 _).mono ?_
      rintro e w3 ⟨rfl, rfl⟩
      go_wp2
      go_ret
      exact ⟨rfl, Grown.refl _⟩
  by_cases b2 : b = 2
  · subst b2
    go_enter Try.func4, Try.ntmps4
    go_wp2_with fail
    refine (str1 _).mono ?_
    rintro e w1 ⟨rfl, rfl⟩
    go_wp2_with fail
    refine (str2 _).mono ?_
    rintro e w2 ⟨rfl, rfl⟩
    go_wp2_with fail
    all_goals
      refine (art1 _).mono ?_
      rintro e w3 ⟨rfl, rfl⟩
      go_wp2
      go_ret
      exact ⟨rfl, Grown.refl _⟩
  by_cases b3 : b = 3
  · subst b3
    go_enter Try.func4, Try.ntmps4
    go_wp2_with fail
    refine (str1 _).mono ?_
    rintro e w1 ⟨rfl, rfl⟩
    go_wp2_with fail
    refine (str3 _).mono ?_
    rintro e w2 ⟨rfl, rfl⟩
    go_wp2_with fail
    all_goals
      refine (art1 _).mono ?_
      rintro e w3 ⟨rfl, rfl⟩
      go_wp2
      go_ret
      exact ⟨rfl, Grown.refl _⟩
  by_cases b4 : b = 4
  · subst b4
    go_enter Try.func4, Try.ntmps4
    go_wp2_with fail
    refine (str1 _).mono ?_
    rintro e w1 ⟨rfl, rfl⟩
    go_wp2_with fail
    refine (str4 _).mono ?_
    rintro e w2 ⟨rfl, rfl⟩
    go_wp2_with fail
    all_goals
      refine (art1 _).mono ?_
      rintro e w3 ⟨rfl, rfl⟩
      go_wp2
      go_ret
      exact ⟨rfl, Grown.refl _⟩
  replace b1 : (b == 1) = false := by simpa using b1
  replace b2 : (b == 2) = false := by simpa using b2
  replace b3 : (b == 3) = false := by simpa using b3
  replace b4 : (b == 4) = false := by simpa using b4
  go_enter Try.func4, Try.ntmps4
  go_wp2_with fail
  refine (str1 _).mono ?_
  rintro e w1 ⟨rfl, rfl⟩
  go_wp2_with fail
  refine (str0 b b1 b2 b3 b4 _).mono ?_
  rintro e w2 ⟨rfl, rfl⟩
  go_wp2_with fail
  all_goals
    refine (art1 _).mono ?_
    rintro e w3 ⟨rfl, rfl⟩
    go_wp2
    go_ret
    exact ⟨rfl, Grown.refl _⟩

set_option maxHeartbeats 1000000 in
theorem law2 (b : Int) (w : World) :
    Calls Try.prog 4 #[.int .u8 2, .int .u8 b] w fun e w' => e = .returned (.bool true) ∧ Grown w w' := by
  by_cases b1 : b = 1
  · subst b1
    go_enter Try.func4, Try.ntmps4
    go_wp2_with fail
    refine (str2 _).mono ?_
    rintro e w1 ⟨rfl, rfl⟩
    go_wp2_with fail
    refine (str1 _).mono ?_
    rintro e w2 ⟨rfl, rfl⟩
    go_wp2_with fail
    all_goals
      refine (art2 _).mono ?_
      rintro e w3 ⟨rfl, rfl⟩
      go_wp2
      go_ret
      exact ⟨rfl, Grown.refl _⟩
  by_cases b2 : b = 2
  · subst b2
    go_enter Try.func4, Try.ntmps4
    go_wp2_with fail
    refine (str2 _).mono ?_
    rintro e w1 ⟨rfl, rfl⟩
    go_wp2_with fail
    refine (str2 _).mono ?_
    rintro e w2 ⟨rfl, rfl⟩
    go_wp2_with fail
    all_goals
      refine (art2 _).mono ?_
      rintro e w3 ⟨rfl, rfl⟩
      go_wp2
      go_ret
      exact ⟨rfl, Grown.refl _⟩
  by_cases b3 : b = 3
  · subst b3
    go_enter Try.func4, Try.ntmps4
    go_wp2_with fail
    refine (str2 _).mono ?_
    rintro e w1 ⟨rfl, rfl⟩
    go_wp2_with fail
    refine (str3 _).mono ?_
    rintro e w2 ⟨rfl, rfl⟩
    go_wp2_with fail
    all_goals
      refine (art2 _).mono ?_
      rintro e w3 ⟨rfl, rfl⟩
      go_wp2
      go_ret
      exact ⟨rfl, Grown.refl _⟩
  by_cases b4 : b = 4
  · subst b4
    go_enter Try.func4, Try.ntmps4
    go_wp2_with fail
    refine (str2 _).mono ?_
    rintro e w1 ⟨rfl, rfl⟩
    go_wp2_with fail
    refine (str4 _).mono ?_
    rintro e w2 ⟨rfl, rfl⟩
    go_wp2_with fail
    all_goals
      refine (art2 _).mono ?_
      rintro e w3 ⟨rfl, rfl⟩
      go_wp2
      go_ret
      exact ⟨rfl, Grown.refl _⟩
  replace b1 : (b == 1) = false := by simpa using b1
  replace b2 : (b == 2) = false := by simpa using b2
  replace b3 : (b == 3) = false := by simpa using b3
  replace b4 : (b == 4) = false := by simpa using b4
  go_enter Try.func4, Try.ntmps4
  go_wp2_with fail
  refine (str2 _).mono ?_
  rintro e w1 ⟨rfl, rfl⟩
  go_wp2_with fail
  refine (str0 b b1 b2 b3 b4 _).mono ?_
  rintro e w2 ⟨rfl, rfl⟩
  go_wp2_with fail
  all_goals
    refine (art2 _).mono ?_
    rintro e w3 ⟨rfl, rfl⟩
    go_wp2
    go_ret
    exact ⟨rfl, Grown.refl _⟩

set_option maxHeartbeats 1000000 in
theorem law3 (b : Int) (w : World) :
    Calls Try.prog 4 #[.int .u8 3, .int .u8 b] w fun e w' => e = .returned (.bool true) ∧ Grown w w' := by
  by_cases b1 : b = 1
  · subst b1
    go_enter Try.func4, Try.ntmps4
    go_wp2_with fail
    refine (str3 _).mono ?_
    rintro e w1 ⟨rfl, rfl⟩
    go_wp2_with fail
    refine (str1 _).mono ?_
    rintro e w2 ⟨rfl, rfl⟩
    go_wp2_with fail
    all_goals
      refine (art3 _).mono ?_
      rintro e w3 ⟨rfl, rfl⟩
      go_wp2
      go_ret
      exact ⟨rfl, Grown.refl _⟩
  by_cases b2 : b = 2
  · subst b2
    go_enter Try.func4, Try.ntmps4
    go_wp2_with fail
    refine (str3 _).mono ?_
    rintro e w1 ⟨rfl, rfl⟩
    go_wp2_with fail
    refine (str2 _).mono ?_
    rintro e w2 ⟨rfl, rfl⟩
    go_wp2_with fail
    all_goals
      refine (art3 _).mono ?_
      rintro e w3 ⟨rfl, rfl⟩
      go_wp2
      go_ret
      exact ⟨rfl, Grown.refl _⟩
  by_cases b3 : b = 3
  · subst b3
    go_enter Try.func4, Try.ntmps4
    go_wp2_with fail
    refine (str3 _).mono ?_
    rintro e w1 ⟨rfl, rfl⟩
    go_wp2_with fail
    refine (str3 _).mono ?_
    rintro e w2 ⟨rfl, rfl⟩
    go_wp2_with fail
    all_goals
      refine (art3 _).mono ?_
      rintro e w3 ⟨rfl, rfl⟩
      go_wp2
      go_ret
      exact ⟨rfl, Grown.refl _⟩
  by_cases b4 : b = 4
  · subst b4
    go_enter Try.func4, Try.ntmps4
    go_wp2_with fail
    refine (str3 _).mono ?_
    rintro e w1 ⟨rfl, rfl⟩
    go_wp2_with fail
    refine (str4 _).mono ?_
    rintro e w2 ⟨rfl, rfl⟩
    go_wp2_with fail
    all_goals
      refine (art3 _).mono ?_
      rintro e w3 ⟨rfl, rfl⟩
      go_wp2
      go_ret
      exact ⟨rfl, Grown.refl _⟩
  replace b1 : (b == 1) = false := by simpa using b1
  replace b2 : (b == 2) = false := by simpa using b2
  replace b3 : (b == 3) = false := by simpa using b3
  replace b4 : (b == 4) = false := by simpa using b4
  go_enter Try.func4, Try.ntmps4
  go_wp2_with fail
  refine (str3 _).mono ?_
  rintro e w1 ⟨rfl, rfl⟩
  go_wp2_with fail
  refine (str0 b b1 b2 b3 b4 _).mono ?_
  rintro e w2 ⟨rfl, rfl⟩
  go_wp2_with fail
  all_goals
    refine (art3 _).mono ?_
    rintro e w3 ⟨rfl, rfl⟩
    go_wp2
    go_ret
    exact ⟨rfl, Grown.refl _⟩

set_option maxHeartbeats 1000000 in
theorem law4 (b : Int) (w : World) :
    Calls Try.prog 4 #[.int .u8 4, .int .u8 b] w fun e w' => e = .returned (.bool true) ∧ Grown w w' := by
  by_cases b1 : b = 1
  · subst b1
    go_enter Try.func4, Try.ntmps4
    go_wp2_with fail
    refine (str4 _).mono ?_
    rintro e w1 ⟨rfl, rfl⟩
    go_wp2_with fail
    refine (str1 _).mono ?_
    rintro e w2 ⟨rfl, rfl⟩
    go_wp2_with fail
    all_goals
      refine (art4 _).mono ?_
      rintro e w3 ⟨rfl, rfl⟩
      go_wp2
      go_ret
      exact ⟨rfl, Grown.refl _⟩
  by_cases b2 : b = 2
  · subst b2
    go_enter Try.func4, Try.ntmps4
    go_wp2_with fail
    refine (str4 _).mono ?_
    rintro e w1 ⟨rfl, rfl⟩
    go_wp2_with fail
    refine (str2 _).mono ?_
    rintro e w2 ⟨rfl, rfl⟩
    go_wp2_with fail
    all_goals
      refine (art4 _).mono ?_
      rintro e w3 ⟨rfl, rfl⟩
      go_wp2
      go_ret
      exact ⟨rfl, Grown.refl _⟩
  by_cases b3 : b = 3
  · subst b3
    go_enter Try.func4, Try.ntmps4
    go_wp2_with fail
    refine (str4 _).mono ?_
    rintro e w1 ⟨rfl, rfl⟩
    go_wp2_with fail
    refine (str3 _).mono ?_
    rintro e w2 ⟨rfl, rfl⟩
    go_wp2_with fail
    all_goals
      refine (art4 _).mono ?_
      rintro e w3 ⟨rfl, rfl⟩
      go_wp2
      go_ret
      exact ⟨rfl, Grown.refl _⟩
  by_cases b4 : b = 4
  · subst b4
    go_enter Try.func4, Try.ntmps4
    go_wp2_with fail
    refine (str4 _).mono ?_
    rintro e w1 ⟨rfl, rfl⟩
    go_wp2_with fail
    refine (str4 _).mono ?_
    rintro e w2 ⟨rfl, rfl⟩
    go_wp2_with fail
    all_goals
      refine (art4 _).mono ?_
      rintro e w3 ⟨rfl, rfl⟩
      go_wp2
      go_ret
      exact ⟨rfl, Grown.refl _⟩
  replace b1 : (b == 1) = false := by simpa using b1
  replace b2 : (b == 2) = false := by simpa using b2
  replace b3 : (b == 3) = false := by simpa using b3
  replace b4 : (b == 4) = false := by simpa using b4
  go_enter Try.func4, Try.ntmps4
  go_wp2_with fail
  refine (str4 _).mono ?_
  rintro e w1 ⟨rfl, rfl⟩
  go_wp2_with fail
  refine (str0 b b1 b2 b3 b4 _).mono ?_
  rintro e w2 ⟨rfl, rfl⟩
  go_wp2_with fail
  all_goals
    refine (art4 _).mono ?_
    rintro e w3 ⟨rfl, rfl⟩
    go_wp2
    go_ret
    exact ⟨rfl, Grown.refl _⟩

set_option maxHeartbeats 1000000 in
theorem law0 (a : Int) (h1 : (a == 1) = false) (h2 : (a == 2) = false) (h3 : (a == 3) = false) (h4 : (a == 4) = false) (b : Int) (w : World) :
    Calls Try.prog 4 #[.int .u8 a, .int .u8 b] w fun e w' => e = .returned (.bool true) ∧ Grown w w' := by
  by_cases b1 : b = 1
  · subst b1
    go_enter Try.func4, Try.ntmps4
    go_wp2_with fail
    refine (str0 a h1 h2 h3 h4 _).mono ?_
    rintro e w1 ⟨rfl, rfl⟩
    go_wp2_with fail
    refine (str1 _).mono ?_
    rintro e w2 ⟨rfl, rfl⟩
    go_wp2_with fail
    all_goals
      refine (art0 _).mono ?_
      rintro e w3 ⟨rfl, rfl⟩
      go_wp2
      go_ret
      exact ⟨rfl, Grown.refl _⟩
  by_cases b2 : b = 2
  · subst b2
    go_enter Try.func4, Try.ntmps4
    go_wp2_with fail
    refine (str0 a h1 h2 h3 h4 _).mono ?_
    rintro e w1 ⟨rfl, rfl⟩
    go_wp2_with fail
    refine (str2 _).mono ?_
    rintro e w2 ⟨rfl, rfl⟩
    go_wp2_with fail
    all_goals
      refine (art0 _).mono ?_
      rintro e w3 ⟨rfl, rfl⟩
      go_wp2
      go_ret
      exact ⟨rfl, Grown.refl _⟩
  by_cases b3 : b = 3
  · subst b3
    go_enter Try.func4, Try.ntmps4
    go_wp2_with fail
    refine (str0 a h1 h2 h3 h4 _).mono ?_
    rintro e w1 ⟨rfl, rfl⟩
    go_wp2_with fail
    refine (str3 _).mono ?_
    rintro e w2 ⟨rfl, rfl⟩
    go_wp2_with fail
    all_goals
      refine (art0 _).mono ?_
      rintro e w3 ⟨rfl, rfl⟩
      go_wp2
      go_ret
      exact ⟨rfl, Grown.refl _⟩
  by_cases b4 : b = 4
  · subst b4
    go_enter Try.func4, Try.ntmps4
    go_wp2_with fail
    refine (str0 a h1 h2 h3 h4 _).mono ?_
    rintro e w1 ⟨rfl, rfl⟩
    go_wp2_with fail
    refine (str4 _).mono ?_
    rintro e w2 ⟨rfl, rfl⟩
    go_wp2_with fail
    all_goals
      refine (art0 _).mono ?_
      rintro e w3 ⟨rfl, rfl⟩
      go_wp2
      go_ret
      exact ⟨rfl, Grown.refl _⟩
  replace b1 : (b == 1) = false := by simpa using b1
  replace b2 : (b == 2) = false := by simpa using b2
  replace b3 : (b == 3) = false := by simpa using b3
  replace b4 : (b == 4) = false := by simpa using b4
  go_enter Try.func4, Try.ntmps4
  go_wp2_with fail
  refine (str0 a h1 h2 h3 h4 _).mono ?_
  rintro e w1 ⟨rfl, rfl⟩
  go_wp2_with fail
  refine (str0 b b1 b2 b3 b4 _).mono ?_
  rintro e w2 ⟨rfl, rfl⟩
  go_wp2_with fail
  all_goals
    refine (art0 _).mono ?_
    rintro e w3 ⟨rfl, rfl⟩
    go_wp2
    go_ret
    exact ⟨rfl, Grown.refl _⟩

theorem kind_law (a b : Int) (w : World) :
    Calls Try.prog 4 #[.int .u8 a, .int .u8 b] w fun e w' => e = .returned (.bool true) ∧ Grown w w' := by
  by_cases a1 : a = 1
  · subst a1; exact law1 b w
  by_cases a2 : a = 2
  · subst a2; exact law2 b w
  by_cases a3 : a = 3
  · subst a3; exact law3 b w
  by_cases a4 : a = 4
  · subst a4; exact law4 b w
  exact law0 a (by simpa using a1) (by simpa using a2) (by simpa using a3) (by simpa using a4) b w
end Go.Proofs.Qxb6003689a
