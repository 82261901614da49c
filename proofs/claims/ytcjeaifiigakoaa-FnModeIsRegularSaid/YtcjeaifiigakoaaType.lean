/-
  What spec.Type and spec.IsRegular compute: their contracts over this translation.
-/
import Derived.Test.YtcjeaifiigakoaaHas
namespace Go.Proofs.Ytcjeaifiigakoaa
open Go Go.RowKit

def lettersS : ByteArray := ⟨#[100, 97, 108, 84, 76, 68, 112, 83, 117, 103, 99, 116, 63]⟩
def kindsS : ByteArray := ⟨#[100, 76, 112, 83, 68, 99, 63]⟩
/-- Does bit k tell the type? -/
def kindB (k : Nat) : Bool := (2401763328#32).getLsbD k
theorem kinds_at : ∀ j : Fin 13, hasI kindsS.data.toList ((lettersS[j.val]'(j.isLt)).toNat : Int) = kindB (31 - j.val) := by decide
theorem kinds_has (k : Nat) (h1 : 19 ≤ k) (h2 : k < 32) (hi : 31 - k < lettersS.size) : hasI kindsS.data.toList ((lettersS[31 - k]'hi).toNat : Int) = kindB k := by
  have := kinds_at ⟨31 - k, by omega⟩
  have e : 31 - (31 - k) = k := by omega
  rw [e] at this
  exact this
theorem kinds_low (k : Nat) (h1 : k < 19) : kindB k = false := by
  have : ∀ j : Fin 19, kindB j.val = false := by decide
  exact this ⟨k, h1⟩
theorem has_kinds (k : Nat) (w : World) (h1 : 19 ≤ k) (h2 : k < 32) (hi : 31 - k < lettersS.size) :
    Calls Try.prog 27 #[.string kindsS, .int .u8 ((lettersS[31 - k]'hi).toNat : Int)] w fun e w' => e = .returned (.bool (kindB k)) ∧ w = w' := by
  rw [← kinds_has k h1 h2 hi]
  exact has_any _ _ _ (by decide)
/-- The sum of the type's bits below k. -/
def typeUpto (x : BitVec 32) (k : Nat) : Nat := (x &&& 2401763328#32).toNat % 2 ^ k
theorem typeUpto_zero (x : BitVec 32) : typeUpto x 0 = 0 := by rw [typeUpto, Nat.pow_zero, Nat.mod_one]
theorem typeUpto_all (x : BitVec 32) : typeUpto x 32 = (x &&& 2401763328#32).toNat := Nat.mod_eq_of_lt (x &&& 2401763328#32).isLt
theorem typeUpto_succ (x : BitVec 32) (k : Nat) : typeUpto x (k + 1) = typeUpto x k + if (bitOf x k && kindB k) = true then 2 ^ k else 0 := by
  rw [typeUpto, Nat.mod_pow_succ, typeUpto]
  have h : (x &&& 2401763328#32).toNat.testBit k = (bitOf x k && kindB k) := by
    show (x &&& 2401763328#32).getLsbD k = _
    rw [BitVec.getLsbD_and]; rfl
  rw [Nat.testBit_eq_decide_div_mod_eq] at h
  rw [← h]
  by_cases hd : (x &&& 2401763328#32).toNat / 2 ^ k % 2 = 1
  · rw [hd]; simp
  · have : (x &&& 2401763328#32).toNat / 2 ^ k % 2 = 0 := by omega
    rw [this]; simp
theorem typeUpto_room (x : BitVec 32) (k : Nat) (h : k < 32) : (typeUpto x k : Int) + 2 ^ k ≤ 4294967295 := by
  have h1 : typeUpto x k < 2 ^ k := Nat.mod_lt _ (Nat.two_pow_pos k)
  have h2 : 2 ^ (k + 1) ≤ 2 ^ 32 := Nat.pow_le_pow_right (by decide) (by omega)
  have h3 : 2 ^ (k + 1) = 2 * 2 ^ k := by rw [Nat.pow_succ]; omega
  have h4 : ((2 ^ k : Nat) : Int) = (2 : Int) ^ k := by simp
  omega
theorem pow_small (k : Nat) (h : k < 32) : (2 : Int) ^ k ≤ 4294967295 ∧ 0 < (2 : Int) ^ k := by
  have h2 : 2 ^ k ≤ 2 ^ 31 := Nat.pow_le_pow_right (by decide) (by omega)
  have h3 : 0 < 2 ^ k := Nat.two_pow_pos k
  have h4 : ((2 ^ k : Nat) : Int) = (2 : Int) ^ k := by simp
  omega
set_option maxHeartbeats 400000 in
theorem type_any (x : BitVec 32) (w : World) : Calls Try.prog 18 #[.int .u32 (x.toNat : Int)] w fun e w' => e = .returned (.int .u32 ((x &&& 2401763328#32).toNat : Int)) ∧ w = w' := by
  rw [← typeUpto_all]
  go_enter Try.func18, Try.ntmps18
  go_wp2
  go_loop [3, 5] (fun o i => ∃ k : Nat, k ≤ 32 ∧ i = .int .i64 k ∧ o = .int .u32 (typeUpto x k : Int)) (fun _ i => 32 - (intOf i).toNat)
  case atStart => exact ⟨0, by omega, rfl, by rw [typeUpto_zero]; rfl⟩
  case round =>
    obtain ⟨k, hk, rfl, rfl⟩ := hrel
    by_cases hlt : k < 32
    · have hroom := typeUpto_room x k hlt
      have hp := pow_small k hlt
      have hs := typeUpto_succ x k
      by_cases hb : bitOf x k = true
      · by_cases h19 : 19 ≤ k
        · by_cases hkb : kindB k = true
          · have hs' : typeUpto x (k + 1) = typeUpto x k + 2 ^ k := by rw [hs, hb, hkb]; rfl
            have HS := Lib.hid hs'
            clear hs hs'
            go_wp2_with (first | (go_at_call 26; refine (bit_any _ _ (by omega) _).mono ?_; rintro e w' ⟨rfl, rfl⟩) | (go_at_call 27; refine (has_kinds k _ (by omega) (by omega) _).mono ?_; rintro e w' ⟨rfl, rfl⟩))
            go_round
            case rel => exact ⟨k + 1, by omega, by go_num, by rw [HS.out]; simp⟩
            case measure => simp [intOf]; omega
          · have hkb' : kindB k = false := by simpa using hkb
            have hs' : typeUpto x (k + 1) = typeUpto x k := by rw [hs, hb, hkb']; rfl
            have HS := Lib.hid hs'
            clear hs hs' hkb
            go_wp2_with (first | (go_at_call 26; refine (bit_any _ _ (by omega) _).mono ?_; rintro e w' ⟨rfl, rfl⟩) | (go_at_call 27; refine (has_kinds k _ (by omega) (by omega) _).mono ?_; rintro e w' ⟨rfl, rfl⟩))
            go_round
            case rel => exact ⟨k + 1, by omega, by go_num, by rw [HS.out]⟩
            case measure => simp [intOf]; omega
        · have hs' : typeUpto x (k + 1) = typeUpto x k := by rw [hs, kinds_low k (by omega), Bool.and_false]; rfl
          have HS := Lib.hid hs'
          clear hs hs'
          go_wp2_with (go_at_call 26; refine (bit_any _ _ (by omega) _).mono ?_; rintro e w' ⟨rfl, rfl⟩)
          go_round
          case rel => exact ⟨k + 1, by omega, by go_num, by rw [HS.out]⟩
          case measure => simp [intOf]; omega
      · have hb' : bitOf x k = false := by simpa using hb
        have hs' : typeUpto x (k + 1) = typeUpto x k := by rw [hs, hb', Bool.false_and]; rfl
        have HS := Lib.hid hs'
        clear hs hs' hb
        go_wp2_with (go_at_call 26; refine (bit_any _ _ (by omega) _).mono ?_; rintro e w' ⟨rfl, rfl⟩)
        go_round
        case rel => exact ⟨k + 1, by omega, by go_num, by rw [HS.out]⟩
        case measure => simp [intOf]; omega
    · obtain rfl : k = 32 := by omega
      go_wp2
      go_ret
      exact ⟨rfl, rfl⟩
theorem isRegular_any (x : BitVec 32) (w : World) : Calls Try.prog 17 #[.int .u32 (x.toNat : Int)] w fun e w' => e = .returned (.bool (bits .and .u32 (x.toNat : Int) 2401763328 == 0)) ∧ w = w' := by
  have e : bits .and .u32 (x.toNat : Int) 2401763328 = ((x &&& 2401763328#32).toNat : Int) := band x 2401763328#32
  rw [e]
  obtain ⟨y, hy⟩ : ∃ y, y = x &&& 2401763328#32 := ⟨_, rfl⟩
  rw [← hy]
  have HY := Lib.hid hy
  clear hy e
  go_enter Try.func17, Try.ntmps17
  go_wp2_with (go_at_call 18; refine (type_any _ _).mono ?_; rw [← HY.out]; rintro e w' ⟨rfl, rfl⟩)
  go_ret
  exact ⟨rfl, rfl⟩
end Go.Proofs.Ytcjeaifiigakoaa
