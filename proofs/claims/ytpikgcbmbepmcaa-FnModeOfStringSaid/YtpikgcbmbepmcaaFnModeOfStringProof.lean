/-
  Proved here: FnModeOfString returns true for every uint32. No condition.
  The frame of the text was written by the kit's proof-skeleton.mjs; the walk is ours.
-/
import Derived.Test.YtpikgcbmbepmcaaRows
import Derived.WalkKit
import Derived.ProofKit
import Derived.OpenShut
import Derived.Test.YtpikgcbmbepmcaaSpecS
import Derived.Laws.IdiomStrings
namespace Go.Proofs.Ytpikgcbmbepmcaa.fnModeOfString
open Go.ChangeShapes Go.WideShapes Go.ChangeAt Go.RowKit
set_option linter.unusedVariables false      -- a walk need not use every 'w<i>' (that an integer argument fits its kind)

theorem own : ownKnob Try.prog.godebug = none := by kernel_rfl

theorem strOf_data (l : List UInt8) : (strOf l).data.toList = l := rfl
/-- spec.Has at what stands before the permissions. -/
theorem has_front (x : BitVec 32) (j : Nat) (w : World) (h1 : 19 ≤ j) (h2 : j < 32) : Calls Try.prog 17 #[.string (strOf (frontStr x)), .int .u8 ((letterAt (31 - j)).toNat : Int)] w fun e w' => e = .returned (.bool (bitOf x j)) ∧ w = w' := by
  have e : 31 - (31 - j) = j := by omega
  have h := hasI_frontStr x (31 - j) (by omega)
  rw [e, ← strOf_data (frontStr x)] at h
  rw [← h]
  exact has_any (strOf (frontStr x)) _ _ (by have := frontStr_length x; rw [strOf_size]; unfold maxLen; omega)
theorem mod_succ (m k : Nat) : m % 2 ^ (k + 1) = m % 2 ^ k + if m.testBit k = true then 2 ^ k else 0 := by
  rw [Nat.mod_pow_succ, Nat.testBit_eq_decide_div_mod_eq]
  by_cases hd : m / 2 ^ k % 2 = 1
  · rw [hd]; simp
  · have : m / 2 ^ k % 2 = 0 := by omega
    rw [this]; simp
/-- What bit k is worth. -/
def worth (x : BitVec 32) (k : Nat) : Nat := if bitOf x k = true then 2 ^ k else 0
theorem worth_set (x : BitVec 32) (k : Nat) (h : bitOf x k = true) : worth x k = 2 ^ k := by rw [worth, if_pos h]
theorem worth_unset (x : BitVec 32) (k : Nat) (h : bitOf x k = false) : worth x k = 0 := by rw [worth, if_neg (by rw [h]; decide)]
theorem worth_le (x : BitVec 32) (k : Nat) : worth x k ≤ 2 ^ k := by
  unfold worth; split
  · exact Nat.le_refl _
  · exact Nat.zero_le _
theorem upto_succ (x : BitVec 32) (k : Nat) : x.toNat % 2 ^ (k + 1) = x.toNat % 2 ^ k + worth x k := mod_succ x.toNat k
/-- The sum of the first j bits from 19 on. -/
def hiS (x : BitVec 32) : Nat → Nat
  | 0 => 0
  | j + 1 => hiS x j + worth x (19 + j)
/-- The sum of the permissions of the first i letters. -/
def loS (x : BitVec 32) : Nat → Nat
  | 0 => 0
  | i + 1 => loS x i + worth x (8 - i)
theorem hi_le (x : BitVec 32) (j : Nat) : hiS x j + 2 ^ 19 ≤ 2 ^ (19 + j) := by
  induction j with
  | zero => simp [hiS]
  | succ j ih =>
    have := worth_le x (19 + j)
    have e : 2 ^ (19 + (j + 1)) = 2 * 2 ^ (19 + j) := by rw [show 19 + (j + 1) = (19 + j) + 1 from rfl, Nat.pow_succ, Nat.mul_comm]
    rw [hiS, e]; omega
theorem lo_le (x : BitVec 32) (i : Nat) : loS x i ≤ 256 * i := by
  induction i with
  | zero => exact Nat.le_refl _
  | succ i ih =>
    have h1 := worth_le x (8 - i)
    have h2 : 2 ^ (8 - i) ≤ 2 ^ 8 := Nat.pow_le_pow_right (by decide) (by omega)
    rw [loS]; omega
theorem pow_int (k : Nat) : ((2 ^ k : Nat) : Int) = (2 : Int) ^ k := by simp
theorem pow_bound (k n : Nat) (h : k ≤ n) : 2 ^ k ≤ 2 ^ n := Nat.pow_le_pow_right (by decide) h
theorem mid_bit (j : Nat) (h : j < 32) : (523776#32).getLsbD j = (decide (9 ≤ j) && decide (j < 19)) := by
  have : ∀ i : Fin 32, (523776#32).getLsbD i.val = (decide (9 ≤ i.val) && decide (i.val < 19)) := by decide
  exact this ⟨j, h⟩
theorem worth_out (x : BitVec 32) (k : Nat) (h : k < 32) : worth (x &&& ~~~523776#32) k = if 9 ≤ k ∧ k < 19 then 0 else worth x k := by
  have hb : bitOf (x &&& ~~~523776#32) k = (bitOf x k && !(decide (9 ≤ k) && decide (k < 19))) := by
    unfold bitOf
    rw [BitVec.getLsbD_and, BitVec.getLsbD_not, mid_bit k h, decide_eq_true h, Bool.true_and]
  unfold worth
  rw [hb]
  by_cases h1 : 9 ≤ k <;> by_cases h2 : k < 19 <;> simp [h1, h2]
theorem sum_all (x : BitVec 32) : ((x &&& ~~~523776#32).toNat : Nat) = hiS x 13 + loS x 9 := by
  have hx := (x &&& ~~~523776#32).isLt
  have h : (x &&& ~~~523776#32).toNat % 2 ^ 32 = _ := upto_succ (x &&& ~~~523776#32) 31
  rw [Nat.mod_eq_of_lt hx] at h
  rw [h]
  iterate 31 rw [upto_succ]
  rw [Nat.pow_zero, Nat.mod_one]
  iterate 32 rw [worth_out _ _ (by decide)]
  simp only [hiS, loS, Nat.reduceAdd, Nat.reduceSub, Nat.reduceLeDiff, Nat.reduceLT, and_true, and_false, if_true, if_false]
  omega
theorem rights_get (x : BitVec 32) (n j : Nat) (h : j < n) : (rights x n)[j]? = some (if bitOf x (8 - j) = true then rightAt j else 45) := by
  induction n with
  | zero => omega
  | succ n ih =>
    rw [rights]
    by_cases e : j < n
    · rw [List.getElem?_append_left (by rw [rights_length]; exact e)]; exact ih e
    · obtain rfl : j = n := by omega
      rw [List.getElem?_append_right (by rw [rights_length]; exact Nat.le_refl _), rights_length, Nat.sub_self]; rfl
theorem right_ne (j : Nat) (h : j < 9) : (((rightAt j).toNat : Int) != 45) = true := by
  have : ∀ j : Fin 9, (((rightAt j.val).toNat : Int) != 45) = true := by decide
  exact this ⟨j, h⟩
/-- A string's bytes in a new slice. -/
theorem bytes_of (w : World) (l : List UInt8) (n : Nat) (hn : l.length = n) : ∃ (C : Nat) (W2 : World), (convert 9 30 (.string (strOf l))).run Try.prog w = .ok (.slice (some ⟨w.heap.size, 0, none⟩) n C) W2 ∧ Below w.heap.size w W2 ∧
    (∀ (i : Nat) (b : UInt8), l[i]? = some b → W2.cell? ⟨w.heap.size, i, none⟩ = some (.int .u8 (b.toNat : Int))) := by
  have h := run_bytes_of_string (P := Try.prog) w 9 30 5 (strOf l) Try.underlying9 Try.underlying30 Try.underlying5
  rw [strOf_size, hn] at h
  refine ⟨_, _, h, (Below.drew (Below.refl _ _)).alloc (Nat.le_refl _) _, ?_⟩
  intro i b hb
  have hi : i < l.length := (List.getElem?_eq_some_iff.1 hb).1
  refine (World.cell?_alloc_mark w.drew _ _ _ i).trans ?_
  have hs : (strOf l).data.toList = l := rfl
  rw [bytesRow, Array.getElem?_append_left (by simp [strOf]; exact hi)]
  rw [Array.getElem?_map, ← Array.getElem?_toList, hs, hb]
  rfl

/-! ### STEP 1: THE WALK: the Go text returns true. 'Below': nothing that lay there has changed. Part the cases AHEAD of 'go_enter' where a test parts the walk; take each callee by a contract of your own. -/
theorem walk (a0 : Int) (w0 : (Lit.int .u32 a0).wf = true) (w : World) :
    Calls Try.prog 6 #[.int .u32 a0] w fun e w' => e = .returned (.bool true) ∧ Below w.heap.size w w' := by
  obtain ⟨x, rfl⟩ := bvOf a0 w0
  obtain ⟨s, hs⟩ : ∃ s, s = modeStr x := ⟨_, rfl⟩
  have hsz : 9 < s.size := by rw [hs]; have := modeStr_small x; omega
  have hsd : decide (9 < (s.size : Int)) = true := decide_eq_true (by omega)
  have HX := Lib.hid (show ∀ w, Calls Try.prog 15 #[.int .u32 (x.toNat : Int)] w fun e w' => e = .returned (.string s) ∧ Below w.heap.size w w' from by intro w; rw [hs]; exact modeString_any x w)
  have HF := Lib.hid (show ∀ w, Calls Try.prog 19 #[.string s] w fun e w' => e = .returned (.string (strOf (frontStr x))) ∧ w = w' from by intro w; rw [hs]; exact frontL_any x w)
  have HR := Lib.hid (show ∀ w, Calls Try.prog 20 #[.string s] w fun e w' => e = .returned (.string (strOf (rights x 9))) ∧ w = w' from by intro w; rw [hs]; exact rightsL_any x w)
  have fz : bits .andNot .u32 (x.toNat : Int) 523776 = ((hiS x 13 + loS x 9 : Nat) : Int) := by rw [← sum_all]; exact bandNot x 523776#32
  have HZ := Lib.hid fz
  clear w0 hs fz
  go_enter Try.func6, Try.ntmps6
  go_wp2_with fail
  refine (HX.out _).mono ?_
  rintro e W1 ⟨rfl, hb1⟩
  go_wp2_with fail
  go_loop [4, 5] (fun v i => ∃ j k m : Nat, j ≤ 13 ∧ Hid (k = 19 + j) ∧ 19 ≤ k ∧ k ≤ 32 ∧ i = .int .i64 (k : Int) ∧ Hid (m = hiS x j) ∧ v = .int .u32 (m : Int)) (fun _ i => 32 - (intOf i).toNat)
  case atStart => exact ⟨0, 19, 0, by omega, rfl, by omega, by omega, rfl, rfl, rfl⟩
  case round =>
    obtain ⟨j, k, m, hj, HK, hk1, hk, rfl, HM, rfl⟩ := hrel
    by_cases hlt : k < 32
    · have hj13 : j < 13 := by have := HK.out; omega
      have hle := hi_le x (j + 1)
      have hsu : hiS x (j + 1) = m + worth x k := by rw [hiS, ← HK.out, ← HM.out]
      have hp2 := pow_bound (19 + (j + 1)) 32 (by omega)
      have hroom : (m : Int) + (2 : Int) ^ k ≤ 4294967295 := by
        have h1 := hi_le x j
        rw [← HM.out, ← HK.out] at h1
        have h2 : 2 ^ (19 + (j + 1)) = 2 * 2 ^ k := by rw [show 19 + (j + 1) = (19 + j) + 1 from rfl, ← HK.out, Nat.pow_succ, Nat.mul_comm]
        have h3 := pow_int k
        omega
      have hp : (2 : Int) ^ k ≤ 4294967295 ∧ 0 < (2 : Int) ^ k := by
        have h3 := pow_int k
        have h4 := Nat.two_pow_pos k
        omega
      clear hle hp2
      by_cases hb : bitOf x k = true
      · rw [worth_set x k hb] at hsu
        have HS := Lib.hid hsu
        clear hsu
        go_wp2_with (first | (go_at_call 19; refine (HF.out _).mono ?_; rintro e w' ⟨rfl, rfl⟩) | (go_at_call 16; refine (letter_any _ _ hk1 hlt).mono ?_; rintro e w' ⟨rfl, rfl⟩) | (go_at_call 17; refine (has_front x k _ hk1 hlt).mono ?_; rintro e w' ⟨rfl, rfl⟩))
        go_round
        case rel => exact ⟨j + 1, k + 1, m + 2 ^ k, by omega, by have := HK.out; show k + 1 = 19 + (j + 1); omega, by omega, by omega, by go_num, HS.out.symm, by simp⟩
        case measure => simp [intOf]; omega
      · have hb' : bitOf x k = false := by simpa using hb
        rw [worth_unset x k hb'] at hsu
        have HS := Lib.hid hsu
        clear hsu hb
        go_wp2_with (first | (go_at_call 19; refine (HF.out _).mono ?_; rintro e w' ⟨rfl, rfl⟩) | (go_at_call 16; refine (letter_any _ _ hk1 hlt).mono ?_; rintro e w' ⟨rfl, rfl⟩) | (go_at_call 17; refine (has_front x k _ hk1 hlt).mono ?_; rintro e w' ⟨rfl, rfl⟩))
        go_round
        case rel => exact ⟨j + 1, k + 1, m, by omega, by have := HK.out; show k + 1 = 19 + (j + 1); omega, by omega, by omega, by go_num, by show m = hiS x (j + 1); rw [HS.out]; rfl, rfl⟩
        case measure => simp [intOf]; omega
    · have hj13 : j = 13 := by have := HK.out; omega
      subst hj13
      have hm := hi_le x 13
      rw [← HM.out] at hm
      have hm2 : m + 524288 ≤ 4294967296 := hm
      clear hm
      obtain ⟨C, W2, hcv, hb2, hcells⟩ := bytes_of W1 (rights x 9) 9 (rights_length x 9)
      have HCE := Lib.hid hcells
      clear hcells
      go_wp2_with (go_at_call 20; refine (HR.out _).mono ?_; rintro e w' ⟨rfl, rfl⟩)
      go_loop [4, 27] (fun v i => ∃ k n : Nat, k ≤ 9 ∧ i = .int .i64 (k : Int) ∧ Hid (n = m + loS x k) ∧ v = .int .u32 (n : Int)) (fun _ i => 9 - (intOf i).toNat)
      case atStart => exact ⟨0, m, by omega, rfl, rfl, rfl⟩
      case round =>
        obtain ⟨k, n, hk9, rfl, HN, rfl⟩ := hrel
        by_cases hlt9 : k < 9
        · have hlo := lo_le x k
          have hp2 := pow_bound (8 - k) 8 (by omega)
          have hp3 := Nat.two_pow_pos (8 - k)
          have hp4 := pow_int (8 - k)
          have hroom : (n : Int) + (2 : Int) ^ (8 - k) ≤ 4294967295 := by have := HN.out; omega
          have hp : (2 : Int) ^ (8 - k) ≤ 256 ∧ 0 < (2 : Int) ^ (8 - k) := by omega
          clear hlo hp2 hp3 hp4
          have hce := HCE.out k _ (rights_get x 9 k hlt9)
          have hsu : m + loS x (k + 1) = n + worth x (8 - k) := by rw [loS, HN.out, Nat.add_assoc]
          by_cases hb : bitOf x (8 - k) = true
          · rw [if_pos hb] at hce
            rw [worth_set x _ hb] at hsu
            have hne := right_ne k hlt9
            have HS := Lib.hid hsu
            clear hsu
            go_wp2
            go_round
            case rel => exact ⟨k + 1, n + 2 ^ (8 - k), by omega, by go_num, HS.out.symm, by simp⟩
            case measure => simp [intOf]; omega
          · have hb' : bitOf x (8 - k) = false := by simpa using hb
            rw [if_neg hb] at hce
            rw [worth_unset x _ hb'] at hsu
            have hce2 : W2.cell? ⟨W1.heap.size, k, none⟩ = some (.int .u8 45) := hce
            have HS := Lib.hid hsu
            clear hsu hce hb
            go_wp2
            go_round
            case rel => exact ⟨k + 1, n, by omega, by go_num, by show n = m + loS x (k + 1); rw [HS.out]; rfl, rfl⟩
            case measure => simp [intOf]; omega
        · obtain rfl : k = 9 := by omega
          have hfz : bits .andNot .u32 (x.toNat : Int) 523776 = (n : Int) := by rw [HZ.out, HN.out, HM.out]
          go_wp2
          go_ret
          exact ⟨rfl, Below.then_ hb1 hb2⟩

/-! ### THE ROW's STEP: WRITTEN OUT: LEAVE IT -/
set_option maxRecDepth 100000 in
theorem lifted (os : Os) (started : os.Started) (H : Type) (enc : TypeId × Value → H) :
    ReturnsInHanded {} Try.checked os 6 .any (Rows.fnModeOfStringSpec.pre6 enc Try.prog Try.f6 Rows.fnModeOfStringRow.domain false) (Rows.fnModeOfStringSpec.post enc Try.prog Try.f6 false true false false) := by
  refine returnsInHanded_of_change (C := Try.checked) own started (by kernel_rfl) Try.func6
    (ChangeSpec.witness6 (enc := enc) (C := Try.checked) false ⟨#[], #[.int .u32 0], []⟩ 8 (by kernel_rfl) (by kernel_rfl) (by kernel_rfl) (by kernel_rfl)) ?_
  intro W base args ds gs before hval0 hW hcnd _
  have hval : ∀ (j : Nat) t v, Try.f6.params[j]? = some t → args[j]? = some v → Value.okWide Try.prog W .any base t v := hval0
  have hW' := hW
  obtain ⟨p, q, hA0, hV, rfl, hfz, hnd⟩ := hW
  have hA : DataW.TrodAll enc Try.prog W 0 (fun _ => true) true Try.f6.params.toList args.toList ds p := hA0
  rw [Try.params6] at hA hval
  obtain ⟨v0, vs0, d0, ds0, p0, q0, hargs, rfl, rfl, h0, r0⟩ := trodAll_cons hA
  obtain ⟨rfl, rfl, rfl⟩ := trodAll_nil r0
  obtain rfl : args = #[v0] := by cases args; simp_all
  obtain ⟨rfl, rfl⟩ := trodVars_none hV
  obtain ⟨a0, rfl, rfl, rfl, w0⟩ := open_int Try.underlying22 (hval 0 22 v0 rfl rfl) h0
  clear hA0 hval0
  simp only [List.append_nil] at hW'
  refine (walk a0 w0 W).mono fun e W' ⟨he, hg⟩ => ?_
  subst he
  exact ⟨_, rfl, _, _, _, [], [], [], hW', trodAll_mk1 (shut_bool Try.underlying4 _), (trodAll_cons_mk (shut_int Try.underlying22 w0) trodAll_mk0), rfl, hg.frame _, fun h => by cases h⟩

theorem over : Rows.fnModeOfStringRow.holds Try.pinned (OpenSpec.ofChange Rows.fnModeOfStringSpec) :=
  OpenClaim.holds_of_wide 6 Try.f6 rfl rfl rfl rfl rfl rfl rfl ⟨rfl, rfl, rfl, rfl, rfl⟩ rfl rfl rfl rfl rfl (by kernel_rfl) Try.func6 (by kernel_rfl)
    (of_decide_eq_true (by kernel_rfl)) (by unfold Func.isWrapper; first | (rw [if_pos (by decide +kernel)]; kernel_rfl) | (rw [if_neg (by decide +kernel)]; exact ⟨rfl, rfl⟩))
    (fun os started H enc _ => lifted os started H enc)

/-- ████ THE STATEMENT ████ -/
theorem proved : Rows.FnModeOfStringSaid :=
  over
#print axioms proved
end Go.Proofs.Ytpikgcbmbepmcaa.fnModeOfString
