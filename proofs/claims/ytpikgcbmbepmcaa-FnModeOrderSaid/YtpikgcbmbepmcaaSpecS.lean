/-
  What spec.Letters, spec.Rights and spec.ModeString, and the statements' own helpers count, front and rights compute: their contracts over this translation.
-/
import Derived.Test.YtpikgcbmbepmcaaLett
namespace Go.Proofs.Ytpikgcbmbepmcaa
open Go Go.RowKit

/-- A list of bytes as a string. -/
def strOf (l : List UInt8) : ByteArray := ⟨l.toArray⟩
theorem strOf_size (l : List UInt8) : (strOf l).size = l.length := by simp [strOf, ByteArray.size]

theorem bit_at (x : BitVec 32) (n : Int) (j : Nat) (hj : j < 32) (hn : n = (j : Int)) (w : World) : Calls Try.prog 29 #[.int .u32 (x.toNat : Int), .int .i64 n] w fun e w' => e = .returned (.bool (bitOf x j)) ∧ w = w' := by
  rw [hn]; exact bit_any x j hj w

theorem add_str (P : Program) (w : World) (l m : List UInt8) (h : l.length + m.length ≤ 1000) : (Op.stringOp .add (strOf l) (strOf m)).run P w = .ok (.string (strOf (l ++ m))) w :=
  run_string_add_lists w l m (by omega) (by omega)
theorem slice_letter (w : World) (k : Nat) (hk : k < 13) :
    (Instr.slice 9 (.string ⟨#[100, 97, 108, 84, 76, 68, 112, 83, 117, 103, 99, 116, 63]⟩) (some (.int .i64 (k : Int))) (some (.int .i64 ((k : Int) + 1))) none).run Try.prog w = .ok (.string (strOf [letterAt k])) w := by
  show (Instr.slice 9 (.string lettersB) (some (.int .i64 (k : Int))) (some (.int .i64 ((k : Int) + 1))) none).run Try.prog w = _
  rw [run_slice_string w 9 lettersB .i64 .i64 (k : Int) ((k : Int) + 1) Try.underlying9 (by omega) (by omega) (by show (k : Int) + 1 ≤ 13; omega)]
  have e1 : (k : Int).toNat = k := by omega
  have e2 : ((k : Int) + 1).toNat = k + 1 := by omega
  rw [e1, e2]
  have : ∀ j : Fin 13, lettersB.extract j.val (j.val + 1) = strOf [letterAt j.val] := by decide
  rw [this ⟨k, hk⟩]
theorem slice_right (w : World) (k : Nat) (hk : k < 9) :
    (Instr.slice 9 (.string ⟨#[114, 119, 120]⟩) (some (.int .i64 ((k : Int) % 3))) (some (.int .i64 ((k : Int) % 3 + 1))) none).run Try.prog w = .ok (.string (strOf [rightAt k])) w := by
  rw [run_slice_string w 9 ⟨#[114, 119, 120]⟩ .i64 .i64 ((k : Int) % 3) ((k : Int) % 3 + 1) Try.underlying9 (by omega) (by omega) (by show (k : Int) % 3 + 1 ≤ 3; omega)]
  have e1 : ((k : Int) % 3).toNat = k % 3 := by omega
  have e2 : ((k : Int) % 3 + 1).toNat = k % 3 + 1 := by omega
  rw [e1, e2]
  have : ∀ j : Fin 9, ByteArray.extract ⟨#[114, 119, 120]⟩ (j.val % 3) (j.val % 3 + 1) = strOf [rightAt j.val] := by decide
  rw [this ⟨k, hk⟩]

set_option maxHeartbeats 400000 in
theorem letters_any (x : BitVec 32) (w : World) : Calls Try.prog 28 #[.int .u32 (x.toNat : Int)] w fun e w' => e = .returned (.string (strOf (front x 13))) ∧ w = w' := by
  go_enter Try.func28, Try.ntmps28
  go_wp2
  go_loop [3, 5] (fun s i => ∃ (k : Nat) (l : List UInt8), k ≤ 13 ∧ i = .int .i64 (k : Int) ∧ Hid (l = front x k) ∧ l.length ≤ 13 ∧ s = .string (strOf l)) (fun _ i => 13 - (intOf i).toNat)
  case atStart => exact ⟨0, [], by omega, rfl, rfl, by simp, rfl⟩
  case round =>
    obtain ⟨k, l, hk, rfl, HL, hl, rfl⟩ := hrel
    by_cases hlt : k < 13
    · have hfl := front_length x (k + 1)
      by_cases hb : bitOf x (31 - k) = true
      · have hsl := slice_letter w k hlt
        have hadd := add_str Try.prog w l [letterAt k] (by simp; omega)
        have HF := Lib.hid (front_set x k hb)
        go_wp2_with (go_at_call 29; refine (bit_at _ _ (31 - k) (by omega) (by omega) _).mono ?_; rintro e w' ⟨rfl, rfl⟩)
        go_round
        case rel => exact ⟨k + 1, l ++ [letterAt k], by omega, by go_num, by rw [HF.out, HL.out]; trivial, by rw [HL.out, ← HF.out]; omega, rfl⟩
        case measure => simp [intOf]; omega
      · have hb' : bitOf x (31 - k) = false := by simpa using hb
        have HF := Lib.hid (front_unset x k hb')
        clear hb
        go_wp2_with (go_at_call 29; refine (bit_at _ _ (31 - k) (by omega) (by omega) _).mono ?_; rintro e w' ⟨rfl, rfl⟩)
        go_round
        case rel => exact ⟨k + 1, l, by omega, by go_num, by rw [HF.out, HL.out]; trivial, hl, rfl⟩
        case measure => simp [intOf]; omega
    · obtain rfl : k = 13 := by omega
      obtain rfl := HL.out
      go_wp2
      go_ret
      exact ⟨rfl, rfl⟩

set_option maxHeartbeats 400000 in
theorem rightsS_any (x : BitVec 32) (w : World) : Calls Try.prog 22 #[.int .u32 (x.toNat : Int)] w fun e w' => e = .returned (.string (strOf (rights x 9))) ∧ w = w' := by
  go_enter Try.func22, Try.ntmps22
  go_wp2
  go_loop [3, 5] (fun s i => ∃ (k : Nat) (l : List UInt8), k ≤ 9 ∧ i = .int .i64 (k : Int) ∧ Hid (l = rights x k) ∧ l.length ≤ 9 ∧ s = .string (strOf l)) (fun _ i => 9 - (intOf i).toNat)
  case atStart => exact ⟨0, [], by omega, rfl, rfl, by simp, rfl⟩
  case round =>
    obtain ⟨k, l, hk, rfl, HL, hl, rfl⟩ := hrel
    by_cases hlt : k < 9
    · have hfl := rights_length x (k + 1)
      have HFL := Lib.hid hfl
      clear hfl
      by_cases hb : bitOf x (8 - k) = true
      · have hsl := slice_right w k hlt
        have hadd := add_str Try.prog w l [rightAt k] (by simp; omega)
        have HF := Lib.hid (rights_set x k hb)
        go_wp2_with (go_at_call 29; refine (bit_at _ _ (8 - k) (by omega) (by omega) _).mono ?_; rintro e w' ⟨rfl, rfl⟩)
        go_round
        case rel => exact ⟨k + 1, l ++ [rightAt k], by omega, by go_num, by rw [HF.out, HL.out]; trivial, by rw [HL.out, ← HF.out, HFL.out]; omega, rfl⟩
        case measure => simp [intOf]; omega
      · have hb' : bitOf x (8 - k) = false := by simpa using hb
        have hadd : (Op.stringOp .add (strOf l) ⟨#[45]⟩).run Try.prog w = .ok (.string (strOf (l ++ [45]))) w := add_str Try.prog w l [45] (by simp; omega)
        have HF := Lib.hid (rights_unset x k hb')
        clear hb
        go_wp2_with (go_at_call 29; refine (bit_at _ _ (8 - k) (by omega) (by omega) _).mono ?_; rintro e w' ⟨rfl, rfl⟩)
        go_round
        case rel => exact ⟨k + 1, l ++ [45], by omega, by go_num, by rw [HF.out, HL.out]; trivial, by rw [HL.out, ← HF.out, HFL.out]; omega, rfl⟩
        case measure => simp [intOf]; omega
    · obtain rfl : k = 9 := by omega
      obtain rfl := HL.out
      go_wp2
      go_ret
      exact ⟨rfl, rfl⟩

theorem strOf_empty (l : List UInt8) : (strOf l).toList.isEmpty = decide (l.length = 0) := by
  rw [ByteArray.toList_eq]
  show l.isEmpty = _
  cases l <;> simp
theorem modeSpec_any (x : BitVec 32) (w : World) : Calls Try.prog 21 #[.int .u32 (x.toNat : Int)] w fun e w' => e = .returned (.string (modeStr x)) ∧ w = w' := by
  have hem := strOf_empty (front x 13)
  have hfl := front_length x 13
  have hrl := Lib.hid (rights_length x 9)
  by_cases h0 : (front x 13).length = 0
  · have hd : decide ((front x 13).length = 0) = true := by simp [h0]
    rw [hd] at hem
    have hms : modeStr x = strOf ([45] ++ rights x 9) := by rw [modeStr, modeList, frontStr, if_pos h0]; rfl
    have hadd : (Op.stringOp .add ⟨#[45]⟩ (strOf (rights x 9))).run Try.prog w = .ok (.string (strOf ([45] ++ rights x 9))) w := add_str Try.prog w [45] (rights x 9) (by rw [hrl.out]; decide)
    rw [hms]
    clear hms hd h0 hfl
    go_enter Try.func21, Try.ntmps21
    go_wp2_with (first | (go_at_call 28; refine (letters_any _ _).mono ?_; rintro e w' ⟨rfl, rfl⟩) | (go_at_call 22; refine (rightsS_any _ _).mono ?_; rintro e w' ⟨rfl, rfl⟩))
    go_ret
    exact ⟨rfl, rfl⟩
  · have hd : decide ((front x 13).length = 0) = false := by simp; exact fun h => h0 (by rw [h]; rfl)
    rw [hd] at hem
    have hms : modeStr x = strOf (front x 13 ++ rights x 9) := by rw [modeStr, modeList, frontStr, if_neg h0]; rfl
    have hadd : (Op.stringOp .add (strOf (front x 13)) (strOf (rights x 9))).run Try.prog w = .ok (.string (strOf (front x 13 ++ rights x 9))) w := add_str Try.prog w _ (rights x 9) (by rw [hrl.out]; omega)
    rw [hms]
    clear hms hd h0 hfl
    go_enter Try.func21, Try.ntmps21
    go_wp2_with (first | (go_at_call 28; refine (letters_any _ _).mono ?_; rintro e w' ⟨rfl, rfl⟩) | (go_at_call 22; refine (rightsS_any _ _).mono ?_; rintro e w' ⟨rfl, rfl⟩))
    go_ret
    exact ⟨rfl, rfl⟩

/-- How many of the bits from 19 to 18 + j are set. -/
def cntUp (x : BitVec 32) : Nat → Nat
  | 0 => 0
  | j + 1 => cntUp x j + (if bitOf x (19 + j) = true then 1 else 0)
theorem len_if (b : Bool) (c : UInt8) : (if b = true then [c] else []).length = if b = true then 1 else 0 := by cases b <;> rfl
theorem cnt_front (x : BitVec 32) : cntUp x 13 = (front x 13).length := by
  simp only [cntUp, front, List.length_append, len_if, List.length_nil, Nat.reduceSub, Nat.reduceAdd]
  omega
theorem cntUp_le (x : BitVec 32) (j : Nat) : cntUp x j ≤ j := by
  induction j with
  | zero => exact Nat.le_refl _
  | succ j ih => rw [cntUp]; split <;> omega
theorem bit_val (x : BitVec 32) (k : Nat) : bits .and .u32 ((x.toNat : Int) / 2 ^ k) 1 = if bitOf x k = true then 1 else 0 := by
  have h := bit_eq x k
  have e : ((x.toNat : Int) / 2 ^ k) = ((x.toNat / 2 ^ k : Nat) : Int) := by simp
  have hlt : x.toNat / 2 ^ k < 4294967296 := Nat.lt_of_le_of_lt (Nat.div_le_self _ _) x.isLt
  have hm : bits .and .u32 ((x.toNat : Int) / 2 ^ k) 1 = ((x.toNat / 2 ^ k % 2 : Nat) : Int) := by
    rw [e, show (1 : Int) = ((1 : Nat) : Int) from rfl, u32_and_nat _ _ hlt (by decide), nat_mask1]
  rw [hm] at h ⊢
  cases hb : bitOf x k
  · rw [hb] at h
    simp at h
    simp
    omega
  · rw [hb] at h
    simp at h
    simp
    omega
set_option maxHeartbeats 400000 in
theorem count_any (x : BitVec 32) (w : World) : Calls Try.prog 18 #[.int .u32 (x.toNat : Int)] w fun e w' => e = .returned (.int .i64 ((front x 13).length : Int)) ∧ w = w' := by
  rw [← cnt_front]
  go_enter Try.func18, Try.ntmps18
  go_wp2
  go_loop [3, 4] (fun n i => ∃ j k m : Nat, j ≤ 13 ∧ Hid (k = 19 + j) ∧ k ≤ 32 ∧ i = .int .i64 (k : Int) ∧ Hid (m = cntUp x j) ∧ m ≤ 13 ∧ n = .int .i64 (m : Int)) (fun _ i => 32 - (intOf i).toNat)
  case atStart => exact ⟨0, 19, 0, by omega, rfl, by omega, rfl, rfl, by omega, rfl⟩
  case round =>
    obtain ⟨j, k, m, hj, HK, hk, rfl, HM, hm, rfl⟩ := hrel
    by_cases hlt : k < 32
    · have hj13 : j < 13 := by have := HK.out; omega
      have hbv := bit_val x k
      have hc : cntUp x (j + 1) = m + (if bitOf x k = true then 1 else 0) := by rw [cntUp, HK.out, HM.out]
      have hcl := cntUp_le x (j + 1)
      by_cases hb : bitOf x k = true
      · rw [if_pos hb] at hbv hc
        have HC := Lib.hid hc
        have hm1 : m + 1 ≤ 13 := by omega
        clear hc hb hcl
        go_wp2
        go_round
        case rel => exact ⟨j + 1, k + 1, m + 1, by omega, by have := HK.out; show k + 1 = 19 + (j + 1); omega, by omega, by go_num, HC.out.symm, hm1, by go_num⟩
        case measure => simp [intOf]; omega
      · rw [if_neg hb] at hbv hc
        have HC := Lib.hid hc
        clear hc hb hcl
        go_wp2
        go_round
        case rel => exact ⟨j + 1, k + 1, m, by omega, by have := HK.out; show k + 1 = 19 + (j + 1); omega, by omega, by go_num, HC.out.symm, hm, by go_num⟩
        case measure => simp [intOf]; omega
    · have hj13 : j = 13 := by have := HK.out; omega
      subst hj13
      obtain rfl := HM.out
      go_wp2
      go_ret
      exact ⟨rfl, rfl⟩

theorem mode_front (x : BitVec 32) : (modeStr x).extract 0 ((modeStr x).size - 9) = strOf (frontStr x) := by
  rw [modeStr_size]
  apply ByteArray.ext
  apply Array.ext'
  have e : (frontStr x).length + 9 - 9 = (frontStr x).length := by omega
  rw [e]
  simp [modeStr, modeList, strOf]
theorem mode_rights (x : BitVec 32) : (modeStr x).extract ((modeStr x).size - 9) (modeStr x).size = strOf (rights x 9) := by
  rw [modeStr_size]
  apply ByteArray.ext
  apply Array.ext'
  have e : (frontStr x).length + 9 - 9 = (frontStr x).length := by omega
  rw [e]
  have h := rights_length x 9
  simp [modeStr, modeList, strOf]
  exact List.take_of_length_le (by omega)
theorem frontG (s : ByteArray) (w : World) (h1 : 9 ≤ s.size) (h2 : s.size ≤ 1000) : Calls Try.prog 19 #[.string s] w fun e w' => e = .returned (.string (s.extract 0 (s.size - 9))) ∧ w = w' := by
  go_enter Try.func19, Try.ntmps19
  go_wp2
  go_ret
  exact ⟨rfl, rfl⟩
theorem rightsG (s : ByteArray) (w : World) (h1 : 9 ≤ s.size) (h2 : s.size ≤ 1000) : Calls Try.prog 20 #[.string s] w fun e w' => e = .returned (.string (s.extract (s.size - 9) s.size)) ∧ w = w' := by
  go_enter Try.func20, Try.ntmps20
  go_wp2
  go_ret
  exact ⟨rfl, rfl⟩
theorem frontL_any (x : BitVec 32) (w : World) : Calls Try.prog 19 #[.string (modeStr x)] w fun e w' => e = .returned (.string (strOf (frontStr x))) ∧ w = w' := by
  have h := modeStr_small x
  rw [← mode_front]
  exact frontG _ _ (by omega) (by omega)
theorem rightsL_any (x : BitVec 32) (w : World) : Calls Try.prog 20 #[.string (modeStr x)] w fun e w' => e = .returned (.string (strOf (rights x 9))) ∧ w = w' := by
  have h := modeStr_small x
  rw [← mode_rights]
  exact rightsG _ _ (by omega) (by omega)
end Go.Proofs.Ytpikgcbmbepmcaa
