/-
  THE PLAIN LAW, no Go in sight: what 'byte(c|0x20)-'a' < 26' and 'c-'0' < 10' come to, in the walk's spelling.
-/
import Derived.WalkKit
namespace Go.Proofs.Qxb6615667a.Plain

/-- An ASCII letter. -/
def letter (c : Int) : Bool := (decide (97 ≤ c) && decide (c ≤ 122)) || (decide (65 ≤ c) && decide (c ≤ 90))
/-- An ASCII digit. -/
def digit (c : Int) : Bool := decide (48 ≤ c) && decide (c ≤ 57)

theorem want_all : ∀ n : Fin 256, decide ((bits .or .u8 ((n.val : Nat) : Int) 32 - 97) % 256 < 26) = letter ((n.val : Nat) : Int) := by
  decide +kernel

theorem want (c : Int) (h0 : 0 ≤ c) (h1 : c ≤ 255) : decide ((bits .or .u8 c 32 - 97) % 256 < 26) = letter c := by
  obtain ⟨n, rfl⟩ := Int.eq_ofNat_of_zero_le h0
  exact want_all ⟨n, by omega⟩

theorem dig_all : ∀ n : Fin 256, decide ((((n.val : Nat) : Int) - 48) % 256 < 10) = digit ((n.val : Nat) : Int) := by
  decide +kernel

theorem dig (c : Int) (h0 : 0 ≤ c) (h1 : c ≤ 255) : decide ((c - 48) % 256 < 10) = digit c := by
  obtain ⟨n, rfl⟩ := Int.eq_ofNat_of_zero_le h0
  exact dig_all ⟨n, by omega⟩

/-- Never both. -/
theorem apart (c : Int) : letter c = true → digit c = false := by
  simp [letter, digit]; omega

end Go.Proofs.Qxb6615667a.Plain
