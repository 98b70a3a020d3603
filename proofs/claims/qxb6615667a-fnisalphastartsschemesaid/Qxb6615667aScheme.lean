/-
  THE WALKS OF isScheme (30) at the two texts that the law hands it, and of its wrapper (11).
-/
import Derived.Test.Qxb6615667aWalks
namespace Go.Proofs.Qxb6615667a.Walks
open Go.RowKit

/-! ### the one-byte text -/
set_option maxHeartbeats 400000 in
theorem scheme_no1 (x : UInt8) (w : World) (h : Plain.letter (x.toNat : Int) = false) :
    Calls Try.prog 30 #[.string ⟨#[x]⟩] w fun e w' => e = .returned (.bool false) ∧ w' = w := by
  have g0 : ∀ h, (⟨#[x]⟩ : ByteArray)[0]'h = x := fun _ => rfl
  go_enter Try.func30, Try.ntmps30
  go_wp2_with fail
  refine (alpha_no _ _ h).mono ?_
  rintro e w' ⟨rfl, rfl⟩
  go_wp2
  go_ret
  exact ⟨rfl, rfl⟩

set_option maxHeartbeats 400000 in
theorem scheme_yes1 (x : UInt8) (w : World) (h : Plain.letter (x.toNat : Int) = true) :
    Calls Try.prog 30 #[.string ⟨#[x]⟩] w fun e w' => e = .returned (.bool true) ∧ w' = w := by
  have g0 : ∀ h, (⟨#[x]⟩ : ByteArray)[0]'h = x := fun _ => rfl
  go_enter Try.func30, Try.ntmps30
  go_wp2_with fail
  refine (alpha_yes _ _ h).mono ?_
  rintro e w' ⟨rfl, rfl⟩
  go_wp2_with fail
  refine wp_loop_rounds 1 ?_
  rw [rounds_succ]
  go_wp2
  go_ret
  exact ⟨rfl, rfl⟩

/-! ### c, 'x', '1' -/
set_option maxHeartbeats 400000 in
theorem scheme_no3 (x : UInt8) (w : World) (h : Plain.letter (x.toNat : Int) = false) :
    Calls Try.prog 30 #[.string ⟨#[x, 120, 49]⟩] w fun e w' => e = .returned (.bool false) ∧ w' = w := by
  have g0 : ∀ h, (⟨#[x, 120, 49]⟩ : ByteArray)[0]'h = x := fun _ => rfl
  go_enter Try.func30, Try.ntmps30
  go_wp2_with fail
  refine (alpha_no _ _ h).mono ?_
  rintro e w' ⟨rfl, rfl⟩
  go_wp2
  go_ret
  exact ⟨rfl, rfl⟩

set_option maxHeartbeats 400000 in
theorem scheme_yes3 (x : UInt8) (w : World) (h : Plain.letter (x.toNat : Int) = true) :
    Calls Try.prog 30 #[.string ⟨#[x, 120, 49]⟩] w fun e w' => e = .returned (.bool true) ∧ w' = w := by
  have g0 : ∀ h, (⟨#[x, 120, 49]⟩ : ByteArray)[0]'h = x := fun _ => rfl
  have g1 : ∀ h, (⟨#[x, 120, 49]⟩ : ByteArray)[1]'h = 120 := fun _ => rfl
  have g2 : ∀ h, (⟨#[x, 120, 49]⟩ : ByteArray)[2]'h = 49 := fun _ => rfl
  go_enter Try.func30, Try.ntmps30
  go_wp2_with fail
  refine (alpha_yes _ _ h).mono ?_
  rintro e w' ⟨rfl, rfl⟩
  go_wp2_with fail
  refine wp_loop_rounds 3 ?_
  rw [rounds_succ]
  go_wp2_with fail
  refine (alpha_yes 120 _ (by decide)).mono ?_
  rintro e w' ⟨rfl, rfl⟩
  go_wp2_with fail
  rw [rounds_succ]
  go_wp2_with fail
  refine (alpha_no 49 _ (by decide)).mono ?_
  rintro e w' ⟨rfl, rfl⟩
  go_wp2_with fail
  refine (digit_yes 49 _ (by decide)).mono ?_
  rintro e w' ⟨rfl, rfl⟩
  go_wp2_with fail
  rw [rounds_succ]
  go_wp2
  go_ret
  exact ⟨rfl, rfl⟩

/-! ### both, and the wrapper -/
theorem scheme_any1 (x : UInt8) (w : World) :
    Calls Try.prog 30 #[.string ⟨#[x]⟩] w fun e w' => e = .returned (.bool (Plain.letter (x.toNat : Int))) ∧ w' = w := by
  cases h : Plain.letter (x.toNat : Int)
  · exact scheme_no1 x w h
  · exact scheme_yes1 x w h

theorem scheme_any3 (x : UInt8) (w : World) :
    Calls Try.prog 30 #[.string ⟨#[x, 120, 49]⟩] w fun e w' => e = .returned (.bool (Plain.letter (x.toNat : Int))) ∧ w' = w := by
  cases h : Plain.letter (x.toNat : Int)
  · exact scheme_no3 x w h
  · exact scheme_yes3 x w h

theorem zzscheme_any1 (x : UInt8) (w : World) :
    Calls Try.prog 11 #[.string ⟨#[x]⟩] w fun e w' => e = .returned (.bool (Plain.letter (x.toNat : Int))) ∧ w' = w := by
  go_enter Try.func11, Try.ntmps11
  go_wp2_with fail
  refine (scheme_any1 x _).mono ?_
  rintro e w' ⟨rfl, rfl⟩
  go_wp2
  go_ret
  exact ⟨rfl, rfl⟩

theorem zzscheme_any3 (x : UInt8) (w : World) :
    Calls Try.prog 11 #[.string ⟨#[x, 120, 49]⟩] w fun e w' => e = .returned (.bool (Plain.letter (x.toNat : Int))) ∧ w' = w := by
  go_enter Try.func11, Try.ntmps11
  go_wp2_with fail
  refine (scheme_any3 x _).mono ?_
  rintro e w' ⟨rfl, rfl⟩
  go_wp2
  go_ret
  exact ⟨rfl, rfl⟩

end Go.Proofs.Qxb6615667a.Walks
