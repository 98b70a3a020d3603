/-
  THE WALK OF THE LAW (4): its callees by their contracts; three ways: a letter, a digit, neither.
-/
import Derived.Test.Qxb6615667aScheme
import Derived.RowKit3
import Derived.Laws.IdiomStrings
namespace Go.Proofs.Qxb6615667a.Walks
open Go.RowKit

/-- 'string([]byte{c})': the new block is the last one. -/
theorem conv1 (x : UInt8) (w : World) :
    (convert 24 9 (.slice (some ⟨w.heap.size, 0, none⟩) 1 1)).run Try.prog (w.alloc (.cells #[.int .u8 (x.toNat : Int)] 5)) = .ok (.string ⟨#[x]⟩) (w.alloc (.cells #[.int .u8 (x.toNat : Int)] 5)) := by
  have h := run_convert_bytes_back (P := Try.prog) (w.alloc (.cells #[.int .u8 (x.toNat : Int)] 5)) 24 9 5 ⟨w.heap.size, 0, none⟩ 1 [x] Try.underlying24 Try.underlying5 Try.underlying9 (by
    intro j hj
    have : j = 0 := by simp at hj; omega
    subst this
    simp [Addr.add])
  simpa using h

/-- 'string([]byte{c, 'x', '1'})', one block behind another. -/
theorem conv3 (x : UInt8) (w : World) (o : Obj) :
    (convert 24 9 (.slice (some ⟨w.heap.size + 1, 0, none⟩) 3 3)).run Try.prog ((w.alloc o).alloc (.cells #[.int .u8 (x.toNat : Int), .int .u8 120, .int .u8 49] 5)) = .ok (.string ⟨#[x, 120, 49]⟩) ((w.alloc o).alloc (.cells #[.int .u8 (x.toNat : Int), .int .u8 120, .int .u8 49] 5)) := by
  have h := run_convert_bytes_back (P := Try.prog) ((w.alloc o).alloc (.cells #[.int .u8 (x.toNat : Int), .int .u8 120, .int .u8 49] 5)) 24 9 5 ⟨(w.alloc o).heap.size, 0, none⟩ 3 [x, 120, 49] Try.underlying24 Try.underlying5 Try.underlying9 (by
    intro j hj
    have : j = 0 ∨ j = 1 ∨ j = 2 := by simp at hj; omega
    rcases this with rfl | rfl | rfl <;> simp [Addr.add])
  simpa using h

set_option maxHeartbeats 1000000 in
theorem law_core (x : UInt8) (l d : Bool) (hn : (l && d) = false) (w : World) (hl : Plain.letter (x.toNat : Int) = l) (hd : Plain.digit (x.toNat : Int) = d) :
    Calls Try.prog 4 #[.int .u8 (x.toNat : Int)] w fun e w' => e = .returned (.bool true) ∧ Grown w w' := by
  have hx0 : (0 : Int) ≤ (x.toNat : Int) := by omega
  have hx1 : (x.toNat : Int) ≤ 255 := by have := x.toNat_lt; omega
  have hwant := (Plain.want (x.toNat : Int) hx0 hx1).trans hl
  have hdig := (Plain.dig (x.toNat : Int) hx0 hx1).trans hd
  have Ca := zzalpha_any (x.toNat : Int)
  have Cd := zzdigit_any (x.toNat : Int)
  have C1 := zzscheme_any1 x
  have C3 := zzscheme_any3 x
  rw [hl] at Ca C1 C3
  rw [hd] at Cd
  have HA : Hid (∀ w, Calls Try.prog 9 #[.int .u8 (x.toNat : Int)] w fun e w' => e = .returned (.bool l) ∧ w' = w) := Ca
  have HD : Hid (∀ w, Calls Try.prog 10 #[.int .u8 (x.toNat : Int)] w fun e w' => e = .returned (.bool d) ∧ w' = w) := Cd
  have H1 : Hid (∀ w, Calls Try.prog 11 #[.string ⟨#[x]⟩] w fun e w' => e = .returned (.bool l) ∧ w' = w) := C1
  have H3 : Hid (∀ w, Calls Try.prog 11 #[.string ⟨#[x, 120, 49]⟩] w fun e w' => e = .returned (.bool l) ∧ w' = w) := C3
  clear Ca Cd C1 C3 hl hd
  have c1 := conv1 x
  have c3 := conv3 x
  cases l <;> cases d <;> first
    | (exfalso; revert hn; decide)
    | skip
  all_goals
    clear hn
    go_enter Try.func4, Try.ntmps4
    go_wp2_with fail
    refine (HA.out _).mono ?_
    rintro e w' ⟨rfl, rfl⟩
    go_wp2_with fail
    refine (HD.out _).mono ?_
    rintro e w' ⟨rfl, rfl⟩
    go_wp2_with fail
    refine (H1.out _).mono ?_
    rintro e w1 ⟨rfl, rfl⟩
    go_wp2_with fail
    refine (H3.out _).mono ?_
    rintro e w2 ⟨rfl, rfl⟩
    go_wp2
    go_ret
    exact ⟨rfl, ((Grown.refl _).alloc _ _).alloc _ _⟩

theorem law_all (x : UInt8) (w : World) :
    Calls Try.prog 4 #[.int .u8 (x.toNat : Int)] w fun e w' => e = .returned (.bool true) ∧ Grown w w' := by
  refine law_core x _ _ ?_ w rfl rfl
  cases h : Plain.letter (x.toNat : Int)
  · rfl
  · rw [Plain.apart _ h]; rfl

end Go.Proofs.Qxb6615667a.Walks
