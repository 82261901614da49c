/-
  What laws.begins computes; plain facts on the strings of levels.
-/
import Derived.Test.YthnidaaenolndaaDoorLev
namespace Go.Proofs.YthnidaaenolndaaDoor
open Go Go.RowKit

/-- Does s begin with t? -/
def pre (t s : List UInt8) : Bool := t.isPrefixOf s
theorem pre_append (t s : List UInt8) : pre t (t ++ s) = true := by
  unfold pre; rw [List.isPrefixOf_iff_prefix]; exact List.prefix_append t s
theorem pre_take (t s : List UInt8) : pre t s = (s.take t.length == t) := by
  unfold pre
  rw [Bool.eq_iff_iff, List.isPrefixOf_iff_prefix, beq_iff_eq, List.prefix_iff_eq_take]
  exact eq_comm
theorem begins_b (S T : ByteArray) (w : World) (_h1 : S.size ≤ 1000) (_h2 : T.size ≤ 1000) (hle : T.size ≤ S.size) :
    Calls Tryd.prog 12 #[.string S, .string T] w fun e w' => e = .returned (.bool ((S.extract 0 T.size).toList == T.toList)) ∧ w = w' := by
  have hd : decide ((T.size : Int) ≤ (S.size : Int)) = true := decide_eq_true (by omega)
  go_enter Tryd.func12, Tryd.ntmps12
  go_wp2_with fail
  go_ret
  exact ⟨rfl, rfl⟩
theorem begins_short (S T : ByteArray) (w : World) (_h1 : S.size ≤ 1000) (_h2 : T.size ≤ 1000) (hle : S.size < T.size) :
    Calls Tryd.prog 12 #[.string S, .string T] w fun e w' => e = .returned (.bool false) ∧ w = w' := by
  have hd : decide ((T.size : Int) ≤ (S.size : Int)) = false := decide_eq_false (by omega)
  go_enter Tryd.func12, Tryd.ntmps12
  go_wp2_with fail
  go_ret
  exact ⟨rfl, rfl⟩
theorem begins_any (s t : List UInt8) (w : World) (h1 : s.length ≤ 1000) (h2 : t.length ≤ 1000) :
    Calls Tryd.prog 12 #[.string (strOf s), .string (strOf t)] w fun e w' => e = .returned (.bool (pre t s)) ∧ w = w' := by
  have e1 := strOf_size s
  have e2 := strOf_size t
  by_cases hle : t.length ≤ s.length
  · have e : ((strOf s).extract 0 (strOf t).size).toList = s.take t.length := by
      rw [ByteArray.toList_eq, e2]
      simp [strOf]
    have e3 : (strOf t).toList = t := by rw [ByteArray.toList_eq]; rfl
    rw [pre_take, ← e]
    have h := begins_b (strOf s) (strOf t) w (by omega) (by omega) (by omega)
    rw [e3] at h
    exact h
  · have e : pre t s = false := by
      rw [pre_take]
      apply beq_false_of_ne
      intro h
      have := congrArg List.length h
      rw [List.length_take] at this
      omega
    rw [e]
    exact begins_short (strOf s) (strOf t) w (by omega) (by omega) (by omega)

theorem offS_small (n : Nat) (h1 : 0 < n) (h2 : n < 10) : offS (n : Int) = [43, UInt8.ofNat (48 + n)] := by
  rw [offS_plus (n : Int) n rfl (by omega), Lib.decDigits_one h2]
/-- A level's name, and how far it is from it. -/
def levName (l : Int) : List UInt8 := if l < 0 then nameD else if l < 4 then nameI else if l < 8 then nameW else nameE
def levOff (l : Int) : Int := if l < 0 then l + 4 else if l < 4 then l else if l < 8 then l - 4 else l - 8
theorem levList_eq (l : Int) : levList l = levName l ++ offS (levOff l) := by
  unfold levList levName levOff
  split
  · rfl
  · split
    · rfl
    · split <;> rfl
theorem levName_len (l : Int) : 4 ≤ (levName l).length ∧ (levName l).length ≤ 5 := by
  unfold levName
  split
  · decide
  · split
    · decide
    · split <;> decide
theorem offS_len (v : Int) (h0 : -9223372036854775808 ≤ v) (h1 : v ≤ 9223372036854775807) : (offS v).length ≤ 22 := by
  have := Lib.itoa_length_le v h0 h1
  unfold offS
  split
  · simp
  · split
    · simp; omega
    · omega
theorem levOff_bounds (l : Int) (h0 : -9223372036854775808 ≤ l) (h1 : l ≤ 9223372036854775807) : -9223372036854775808 ≤ levOff l ∧ levOff l ≤ 9223372036854775807 := by
  unfold levOff
  split
  · omega
  · split
    · omega
    · split <;> omega
theorem levList_len (l : Int) (h0 : -9223372036854775808 ≤ l) (h1 : l ≤ 9223372036854775807) : 4 ≤ (levList l).length ∧ (levList l).length ≤ 27 := by
  have a := levName_len l
  have b := levOff_bounds l h0 h1
  have c := offS_len (levOff l) b.1 b.2
  rw [levList_eq, List.length_append]
  omega
theorem strOf_ne (l : List UInt8) (h : l.length ≠ 0) : (strOf l).toList.isEmpty = false := by
  rw [ByteArray.toList_eq]
  show l.isEmpty = false
  cases l with
  | nil => exact absurd rfl h
  | cons a l => rfl
end Go.Proofs.YthnidaaenolndaaDoor
