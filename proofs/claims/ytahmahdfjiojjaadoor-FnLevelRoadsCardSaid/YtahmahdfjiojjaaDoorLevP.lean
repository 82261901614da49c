/-
  Plain facts on the strings of levels.
-/
import Derived.Test.YtahmahdfjiojjaaDoorLev
namespace Go.Proofs.YtahmahdfjiojjaaDoor
open Go Go.RowKit

theorem offS_small (n : Nat) (h1 : 0 < n) (h2 : n < 10) : offS (n : Int) = [43, UInt8.ofNat (48 + n)] := by
  rw [offS_plus (n : Int) n rfl (by omega), Lib.decDigits_one h2]
/-- A level's name, and how far it is from it. -/
def levName (l : Int) : List UInt8 := if l < 0 then nameD else if l < 4 then nameI else if l < 8 then nameW else nameE
def levOff (l : Int) : Int := if l < 0 then l + 4 else if l < 4 then l else if l < 8 then l - 4 else l - 8
theorem levList_eq (l : Int) : levList l = levName l ++ offS (levOff l) := by
  unfold levList levName levOff
  split
  · rfl
  · split
    · rfl
    · split <;> rfl
theorem levName_len (l : Int) : 4 ≤ (levName l).length ∧ (levName l).length ≤ 5 := by
  unfold levName
  split
  · decide
  · split
    · decide
    · split <;> decide
theorem offS_len (v : Int) (h0 : -9223372036854775808 ≤ v) (h1 : v ≤ 9223372036854775807) : (offS v).length ≤ 22 := by
  have := Lib.itoa_length_le v h0 h1
  unfold offS
  split
  · simp
  · split
    · simp; omega
    · omega
theorem levOff_bounds (l : Int) (h0 : -9223372036854775808 ≤ l) (h1 : l ≤ 9223372036854775807) : -9223372036854775808 ≤ levOff l ∧ levOff l ≤ 9223372036854775807 := by
  unfold levOff
  split
  · omega
  · split
    · omega
    · split <;> omega
theorem levList_len (l : Int) (h0 : -9223372036854775808 ≤ l) (h1 : l ≤ 9223372036854775807) : 4 ≤ (levList l).length ∧ (levList l).length ≤ 27 := by
  have a := levName_len l
  have b := levOff_bounds l h0 h1
  have c := offS_len (levOff l) b.1 b.2
  rw [levList_eq, List.length_append]
  omega
theorem strOf_ne (l : List UInt8) (h : l.length ≠ 0) : (strOf l).toList.isEmpty = false := by
  rw [ByteArray.toList_eq]
  show l.isEmpty = false
  cases l with
  | nil => exact absurd rfl h
  | cons a l => rfl
end Go.Proofs.YtahmahdfjiojjaaDoor
