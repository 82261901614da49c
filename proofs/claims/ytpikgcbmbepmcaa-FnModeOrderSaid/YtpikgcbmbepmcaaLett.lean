/-
  The letters of a mode's string: which letters String writes, told as plain facts on lists; the contracts of spec.Letter, and of spec.Has at a mode's string.
-/
import Derived.Test.YtpikgcbmbepmcaaStr
import Derived.Deep.QuietTactic
import Derived.BigQuiet
import Derived.Deep.RegionWith
namespace Go.Proofs.Ytpikgcbmbepmcaa
open Go Go.RowKit

theorem quiet_same {P : Program} {f : FuncId} {args : Array Value} {w : World} {n : Nat} {v : Value}
    (h : Calls P f args (w.drewN n) fun e w' => e = .returned v ∧ w.drewN n = w') : Calls P f args (w.drewN n) fun e w'' => e = .returned v ∧ ∃ m, w'' = w.drewN m :=
  h.mono fun _ _ ⟨he, hm⟩ => ⟨he, n, hm.symm⟩
theorem below_drewN {B : Nat} {a w : World} (h : Below B a w) (n : Nat) : Below B a (w.drewN n) := h.trans ⟨rfl, rfl, rfl, Nat.le_refl _, fun _ _ => rfl⟩

theorem hasI_append (a b : List UInt8) (c : Int) : hasI (a ++ b) c = (hasI a c || hasI b c) := by simp [hasI]
theorem letter_apart (i k : Nat) (hi : i < 13) (hk : k < 13) (h : ((letterAt i).toNat : Int) = ((letterAt k).toNat : Int)) : i = k := by
  have : ∀ i k : Fin 13, ((letterAt i.val).toNat : Int) = ((letterAt k.val).toNat : Int) → i = k := by decide
  have := this ⟨i, hi⟩ ⟨k, hk⟩ h
  simpa using this
theorem right_apart (i k : Nat) (hi : i < 9) (hk : k < 13) : ((rightAt i).toNat : Int) ≠ ((letterAt k).toNat : Int) := by
  have : ∀ (i : Fin 9) (k : Fin 13), ((rightAt i.val).toNat : Int) ≠ ((letterAt k.val).toNat : Int) := by decide
  exact this ⟨i, hi⟩ ⟨k, hk⟩
theorem dash_apart (k : Nat) (hk : k < 13) : (((45 : UInt8).toNat : Nat) : Int) ≠ ((letterAt k).toNat : Int) := by
  have : ∀ (k : Fin 13), (((45 : UInt8).toNat : Nat) : Int) ≠ ((letterAt k.val).toNat : Int) := by decide
  exact this ⟨k, hk⟩
theorem hasI_one (b : UInt8) (c : Int) : hasI [b] c = ((b.toNat : Int) == c) := by simp [hasI]
theorem hasI_front (x : BitVec 32) (k : Nat) (hk : k < 13) : ∀ n, n ≤ 13 → hasI (front x n) ((letterAt k).toNat : Int) = (decide (k < n) && bitOf x (31 - k)) := by
  intro n
  induction n with
  | zero => intro _; simp [front, hasI]
  | succ n ih =>
    intro hn
    rw [front, hasI_append, ih (by omega)]
    by_cases e : n = k
    · subst e
      have h1 : decide (n < n) = false := by simp
      have h2 : decide (n < n + 1) = true := by simp
      rw [h1, h2]
      cases hb : bitOf x (31 - n)
      · simp [hasI]
      · simp [hasI_one]
    · have hne : ((letterAt n).toNat : Int) ≠ ((letterAt k).toNat : Int) := fun h => e (letter_apart n k (by omega) hk h)
      have h3 : decide (k < n + 1) = decide (k < n) := by
        have : (k < n + 1) ↔ (k < n) := by omega
        simp [this]
      rw [h3]
      have h4 : hasI (if bitOf x (31 - n) = true then [letterAt n] else []) ((letterAt k).toNat : Int) = false := by
        split
        · rw [hasI_one]; exact beq_false_of_ne hne
        · rfl
      rw [h4, Bool.or_false]
theorem hasI_rights (x : BitVec 32) (k : Nat) (hk : k < 13) : ∀ n, n ≤ 9 → hasI (rights x n) ((letterAt k).toNat : Int) = false := by
  intro n
  induction n with
  | zero => intro _; rfl
  | succ n ih =>
    intro hn
    rw [rights, hasI_append, ih (by omega), hasI_one, Bool.false_or]
    split
    · exact beq_false_of_ne (right_apart n k (by omega) hk)
    · exact beq_false_of_ne (dash_apart k hk)
theorem hasI_frontStr (x : BitVec 32) (k : Nat) (hk : k < 13) : hasI (frontStr x) ((letterAt k).toNat : Int) = bitOf x (31 - k) := by
  have hf := hasI_front x k hk 13 (by omega)
  have h13 : decide (k < 13) = true := by simp [hk]
  rw [h13, Bool.true_and] at hf
  rw [← hf, frontStr]
  split
  · rename_i h0
    rw [List.eq_nil_of_length_eq_zero h0, hasI_one]
    exact beq_false_of_ne (dash_apart k hk)
  · rfl
theorem hasI_mode (x : BitVec 32) (k : Nat) (hk : k < 13) : hasI (modeStr x).data.toList ((letterAt k).toNat : Int) = bitOf x (31 - k) := by
  show hasI (modeList x) _ = _
  rw [modeList, hasI_append, hasI_rights x k hk 9 (by omega), Bool.or_false, hasI_frontStr x k hk]

theorem letters_at (k : Nat) (hk : k < 13) (hs : k < lettersB.size) : lettersB[k]'hs = letterAt k := by
  have : ∀ j : Fin 13, lettersB[j.val]'(j.isLt) = letterAt j.val := by decide
  exact this ⟨k, hk⟩
/-- What spec.Letter returns for the thirteen highest bits. -/
theorem letter_any (j : Nat) (w : World) (h1 : 19 ≤ j) (h2 : j < 32) : Calls Try.prog 16 #[.int .i64 (j : Int)] w fun e w' => e = .returned (.int .u8 ((letterAt (31 - j)).toNat : Int)) ∧ w = w' := by
  have hl := Lib.hid (letters_at (31 - j) (by omega) (show 31 - j < 13 by omega))
  go_enter Try.func16, Try.ntmps16
  go_wp2
  go_ret
  rw [← hl.out]
  exact ⟨rfl, rfl⟩
/-- spec.Has at a mode's string and the letter of bit j: is the bit set? -/
theorem has_letter (x : BitVec 32) (j : Nat) (w : World) (h1 : 19 ≤ j) (h2 : j < 32) : Calls Try.prog 17 #[.string (modeStr x), .int .u8 ((letterAt (31 - j)).toNat : Int)] w fun e w' => e = .returned (.bool (bitOf x j)) ∧ w = w' := by
  have e : 31 - (31 - j) = j := by omega
  have h := hasI_mode x (31 - j) (by omega)
  rw [e] at h
  rw [← h]
  exact has_any _ _ _ (by have := modeStr_small x; unfold maxLen; omega)
theorem modeStr_ne (x : BitVec 32) : (modeStr x).toList.isEmpty = false := by
  rw [ByteArray.toList_eq]
  have h : (modeStr x).data.toList.length = (frontStr x).length + 9 := modeStr_size x
  cases hh : (modeStr x).data.toList with
  | nil => rw [hh] at h; simp at h
  | cons a l => rfl
end Go.Proofs.Ytpikgcbmbepmcaa
