/-
  THE WALKS OF THE CALLEES: isAlpha (28), isDigit (29), isScheme (30) at the two texts that the law hands it, and the three wrappers (9, 10, 11).
-/
import Derived.Test.Qxb6615667aProg
import Derived.Test.Qxb6615667aPlain
import Derived.WalkKit
namespace Go.Proofs.Qxb6615667a.Walks
open Go.RowKit

/-! ### isAlpha -/
theorem alpha_low (c : Int) (w : World) (h0 : 97 ≤ c) (h1 : c ≤ 122) :
    Calls Try.prog 28 #[.int .u8 c] w fun e w' => e = .returned (.bool true) ∧ w' = w := by
  go_enter Try.func28, Try.ntmps28
  go_wp2
  go_ret
  exact ⟨rfl, rfl⟩

theorem alpha_up (c : Int) (w : World) (h0 : 65 ≤ c) (h1 : c ≤ 90) :
    Calls Try.prog 28 #[.int .u8 c] w fun e w' => e = .returned (.bool true) ∧ w' = w := by
  have h : ¬ 97 ≤ c := by omega
  go_enter Try.func28, Try.ntmps28
  go_wp2
  go_ret
  exact ⟨rfl, rfl⟩

theorem alpha_yes (c : Int) (w : World) (h : Plain.letter c = true) :
    Calls Try.prog 28 #[.int .u8 c] w fun e w' => e = .returned (.bool true) ∧ w' = w := by
  have h' : (97 ≤ c ∧ c ≤ 122) ∨ (65 ≤ c ∧ c ≤ 90) := by simpa [Plain.letter] using h
  rcases h' with ⟨a, b⟩ | ⟨a, b⟩
  · exact alpha_low c w a b
  · exact alpha_up c w a b

theorem alpha_no (c : Int) (w : World) (h : Plain.letter c = false) :
    Calls Try.prog 28 #[.int .u8 c] w fun e w' => e = .returned (.bool false) ∧ w' = w := by
  have h' : c < 65 ∨ (90 < c ∧ c < 97) ∨ 122 < c := by simp [Plain.letter] at h; omega
  clear h
  rcases h' with a | ⟨a, b⟩ | a
  · have h1 : ¬ 97 ≤ c := by omega
    have h2 : ¬ 65 ≤ c := by omega
    go_enter Try.func28, Try.ntmps28
    go_wp2
    go_ret
    exact ⟨rfl, rfl⟩
  · have h1 : ¬ 97 ≤ c := by omega
    have h2 : 65 ≤ c := by omega
    have h3 : ¬ c ≤ 90 := by omega
    go_enter Try.func28, Try.ntmps28
    go_wp2
    go_ret
    exact ⟨rfl, rfl⟩
  · have h1 : 97 ≤ c := by omega
    have h2 : ¬ c ≤ 122 := by omega
    have h3 : 65 ≤ c := by omega
    have h4 : ¬ c ≤ 90 := by omega
    go_enter Try.func28, Try.ntmps28
    go_wp2
    go_ret
    exact ⟨rfl, rfl⟩

theorem alpha_any (c : Int) (w : World) :
    Calls Try.prog 28 #[.int .u8 c] w fun e w' => e = .returned (.bool (Plain.letter c)) ∧ w' = w := by
  cases h : Plain.letter c
  · exact alpha_no c w h
  · exact alpha_yes c w h

/-! ### isDigit -/
theorem digit_yes (c : Int) (w : World) (h : Plain.digit c = true) :
    Calls Try.prog 29 #[.int .u8 c] w fun e w' => e = .returned (.bool true) ∧ w' = w := by
  obtain ⟨a, b⟩ : 48 ≤ c ∧ c ≤ 57 := by simpa [Plain.digit] using h
  clear h
  go_enter Try.func29, Try.ntmps29
  go_wp2
  go_ret
  exact ⟨rfl, rfl⟩

theorem digit_no (c : Int) (w : World) (h : Plain.digit c = false) :
    Calls Try.prog 29 #[.int .u8 c] w fun e w' => e = .returned (.bool false) ∧ w' = w := by
  have h' : c < 48 ∨ 57 < c := by simp [Plain.digit] at h; omega
  clear h
  rcases h' with a | a
  · have h1 : ¬ 48 ≤ c := by omega
    go_enter Try.func29, Try.ntmps29
    go_wp2
    go_ret
    exact ⟨rfl, rfl⟩
  · have h1 : 48 ≤ c := by omega
    have h2 : ¬ c ≤ 57 := by omega
    go_enter Try.func29, Try.ntmps29
    go_wp2
    go_ret
    exact ⟨rfl, rfl⟩

theorem digit_any (c : Int) (w : World) :
    Calls Try.prog 29 #[.int .u8 c] w fun e w' => e = .returned (.bool (Plain.digit c)) ∧ w' = w := by
  cases h : Plain.digit c
  · exact digit_no c w h
  · exact digit_yes c w h

/-! ### the wrappers of the two -/
theorem zzalpha_any (c : Int) (w : World) :
    Calls Try.prog 9 #[.int .u8 c] w fun e w' => e = .returned (.bool (Plain.letter c)) ∧ w' = w := by
  go_enter Try.func9, Try.ntmps9
  go_wp2_with (go_at_call 28; refine (alpha_any _ _).mono ?_; rintro e w' ⟨rfl, rfl⟩)
  go_ret
  exact ⟨rfl, rfl⟩

theorem zzdigit_any (c : Int) (w : World) :
    Calls Try.prog 10 #[.int .u8 c] w fun e w' => e = .returned (.bool (Plain.digit c)) ∧ w' = w := by
  go_enter Try.func10, Try.ntmps10
  go_wp2_with (go_at_call 29; refine (digit_any _ _).mono ?_; rintro e w' ⟨rfl, rfl⟩)
  go_ret
  exact ⟨rfl, rfl⟩

end Go.Proofs.Qxb6615667a.Walks
