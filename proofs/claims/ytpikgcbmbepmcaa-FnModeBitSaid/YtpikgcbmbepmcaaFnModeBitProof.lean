/-
  Proved here: FnModeBit returns true for every uint32 and every int. No condition.
  The frame of the text was written by the kit's proof-skeleton.mjs; the walk is ours.
-/
import Derived.Test.YtpikgcbmbepmcaaRows
import Derived.WalkKit
import Derived.ProofKit
import Derived.OpenShut
import Derived.Test.YtpikgcbmbepmcaaSpecS
import Derived.Deep.DeepCutAuto
namespace Go.Proofs.Ytpikgcbmbepmcaa.fnModeBit
open Go.ChangeShapes Go.WideShapes Go.ChangeAt Go.RowKit
set_option linter.unusedVariables false      -- a walk need not use every 'w<i>' (that an integer argument fits its kind)

theorem own : ownKnob Try.prog.godebug = none := by kernel_rfl

theorem pow_wrap (k : Nat) (hk : k < 32) : IntKind.u32.wrap ((2 : Int) ^ k) = ((BitVec.ofNat 32 (2 ^ k)).toNat : Int) := by
  have h2 : 2 ^ k < 2 ^ 32 := Nat.pow_lt_pow_right (by decide) hk
  have h4 : ((2 ^ k : Nat) : Int) = (2 : Int) ^ k := by simp
  rw [IntKind.wrap_u32', ← h4, BitVec.toNat_ofNat, Nat.mod_eq_of_lt h2]
  exact Int.emod_eq_of_lt (Int.natCast_nonneg _) (Int.ofNat_lt.2 h2)
theorem bitOf_pow (k j : Nat) (hk : k < 32) : bitOf (BitVec.ofNat 32 (2 ^ k)) j = decide (k = j) := by
  have h2 : 2 ^ k < 2 ^ 32 := Nat.pow_lt_pow_right (by decide) hk
  unfold bitOf
  rw [BitVec.getLsbD, BitVec.toNat_ofNat, Nat.mod_eq_of_lt h2, Nat.testBit_two_pow]
theorem bitOf_or (x y : BitVec 32) (k : Nat) : bitOf (x ||| y) k = (bitOf x k || bitOf y k) := BitVec.getLsbD_or

set_option maxHeartbeats 1000000 in
theorem inside (x : BitVec 32) (k : Nat) (h1 : 19 ≤ k) (h2 : k < 32) (w : World) : Calls Try.prog 3 #[.int .u32 (x.toNat : Int), .int .i64 (k : Int)] w fun e w' => e = .returned (.bool true) ∧ Below w.heap.size w w' := by
  obtain ⟨y, hy⟩ : ∃ y, y = x ||| BitVec.ofNat 32 (2 ^ k) := ⟨_, rfl⟩
  have f0 : bits .or .u32 (x.toNat : Int) (IntKind.u32.wrap ((2 : Int) ^ k)) = (y.toNat : Int) := by rw [pow_wrap k h2, bor, hy]
  have HB := Lib.hid (show ∀ i, bitOf y i = (bitOf x i || decide (k = i)) from by intro i; rw [hy, bitOf_or, bitOf_pow k i h2])
  clear hy
  go_enter Try.func3, Try.ntmps3
  go_upto_region 3 with fail
  go_cut [5, 6] (fun s t wx => s = .string (modeStr x) ∧ t = .string (modeStr y) ∧ Below w.heap.size w wx)
  case first =>
    go_region_with (first | (go_at_call_of 15 (Value.int IntKind.u32 (x.toNat : Int)); refine (modeString_any x _).mono ?_; rintro e W1 ⟨rfl, hb1⟩) | (go_at_call_of 15 (Value.int IntKind.u32 (y.toNat : Int)); refine (modeString_any y _).mono ?_; rintro e W2 ⟨rfl, hb2⟩))
    all_goals (go_wp2_with fail; go_meet; exact ⟨rfl, rfl, Below.then_ (Below.drew (Below.refl _ _)) (Below.then_ hb1 hb2)⟩)
  case rest =>
    obtain ⟨rfl, rfl, hbw⟩ := hcut
    go_wp2_with fail
    go_loop [7] (fun v => ∃ i : Nat, 19 ≤ i ∧ i ≤ 32 ∧ v = .int .i64 (i : Int)) (fun v => 32 - (intOf v).toNat)
    case atStart => exact ⟨19, by omega, by omega, rfl⟩
    case round =>
      obtain ⟨i, hi1, hi2, rfl⟩ := hrel
      by_cases hlt : i < 32
      · have hby := HB.out i
        by_cases hbx : bitOf x i = true
        · rw [hbx, Bool.true_or] at hby
          go_wp2_with (first | (go_at_call 16; refine (letter_any _ _ hi1 hlt).mono ?_; rintro e w' ⟨rfl, rfl⟩) | (go_at_call 17; ((with_reducible refine (has_letter _ i _ hi1 hlt).mono ?_); rintro e w' ⟨rfl, rfl⟩)))
          go_round
          case rel => exact ⟨i + 1, by omega, by omega, by go_num⟩
          case measure => simp [intOf]; omega
        · have hbx' : bitOf x i = false := by simpa using hbx
          clear hbx
          rw [hbx', Bool.false_or] at hby
          by_cases hik : k = i
          · rw [decide_eq_true hik] at hby
            have hie : ((i : Int) == (k : Int)) = true := by rw [hik]; simp
            clear hik
            go_wp2_with (first | (go_at_call 16; refine (letter_any _ _ hi1 hlt).mono ?_; rintro e w' ⟨rfl, rfl⟩) | (go_at_call 17; ((with_reducible refine (has_letter _ i _ hi1 hlt).mono ?_); rintro e w' ⟨rfl, rfl⟩)))
            go_round
            case rel => exact ⟨i + 1, by omega, by omega, by go_num⟩
            case measure => simp [intOf]; omega
          · rw [decide_eq_false hik] at hby
            have hie : ((i : Int) == (k : Int)) = false := beq_false_of_ne (by omega)
            clear hik
            go_wp2_with (first | (go_at_call 16; refine (letter_any _ _ hi1 hlt).mono ?_; rintro e w' ⟨rfl, rfl⟩) | (go_at_call 17; ((with_reducible refine (has_letter _ i _ hi1 hlt).mono ?_); rintro e w' ⟨rfl, rfl⟩)))
            go_round
            case rel => exact ⟨i + 1, by omega, by omega, by go_num⟩
            case measure => simp [intOf]; omega
      · go_wp2
        go_ret
        exact ⟨rfl, hbw⟩

/-! ### STEP 1: THE WALK: the Go text returns true. 'Below': nothing that lay there has changed. Part the cases AHEAD of 'go_enter' where a test parts the walk; take each callee by a contract of your own. -/
theorem walk (a0 : Int) (a1 : Int) (w0 : (Lit.int .u32 a0).wf = true) (w1 : (Lit.int .i64 a1).wf = true) (w : World) :
    Calls Try.prog 3 #[.int .u32 a0, .int .i64 a1] w fun e w' => e = .returned (.bool true) ∧ Below w.heap.size w w' := by
  obtain ⟨x, rfl⟩ := bvOf a0 w0
  clear w0
  by_cases h1 : a1 < 19
  · go_enter Try.func3, Try.ntmps3
    go_wp2_with fail
    go_ret
    exact ⟨rfl, Below.refl _ _⟩
  · by_cases h2 : 31 < a1
    · go_enter Try.func3, Try.ntmps3
      go_wp2_with fail
      go_ret
      exact ⟨rfl, Below.refl _ _⟩
    · obtain ⟨k, rfl⟩ : ∃ k : Nat, a1 = (k : Int) := ⟨a1.toNat, by omega⟩
      exact inside x k (by omega) (by omega) w

/-! ### THE ROW's STEP: WRITTEN OUT: LEAVE IT -/
set_option maxRecDepth 100000 in
theorem lifted (os : Os) (started : os.Started) (H : Type) (enc : TypeId × Value → H) :
    ReturnsInHanded {} Try.checked os 3 .any (Rows.fnModeBitSpec.pre6 enc Try.prog Try.f3 Rows.fnModeBitRow.domain false) (Rows.fnModeBitSpec.post enc Try.prog Try.f3 false true false false) := by
  refine returnsInHanded_of_change (C := Try.checked) own started (by kernel_rfl) Try.func3
    (ChangeSpec.witness6 (enc := enc) (C := Try.checked) false ⟨#[], #[.int .u32 0, .int .i64 0], []⟩ 8 (by kernel_rfl) (by kernel_rfl) (by kernel_rfl) (by kernel_rfl)) ?_
  intro W base args ds gs before hval0 hW hcnd _
  have hval : ∀ (j : Nat) t v, Try.f3.params[j]? = some t → args[j]? = some v → Value.okWide Try.prog W .any base t v := hval0
  have hW' := hW
  obtain ⟨p, q, hA0, hV, rfl, hfz, hnd⟩ := hW
  have hA : DataW.TrodAll enc Try.prog W 0 (fun _ => true) true Try.f3.params.toList args.toList ds p := hA0
  rw [Try.params3] at hA hval
  obtain ⟨v0, vs0, d0, ds0, p0, q0, hargs, rfl, rfl, h0, r0⟩ := trodAll_cons hA
  obtain ⟨v1, vs1, d1, ds1, p1, q1, rfl, rfl, rfl, h1, r1⟩ := trodAll_cons r0
  obtain ⟨rfl, rfl, rfl⟩ := trodAll_nil r1
  obtain rfl : args = #[v0, v1] := by cases args; simp_all
  obtain ⟨rfl, rfl⟩ := trodVars_none hV
  obtain ⟨a0, rfl, rfl, rfl, w0⟩ := open_int Try.underlying22 (hval 0 22 v0 rfl rfl) h0
  obtain ⟨a1, rfl, rfl, rfl, w1⟩ := open_int Try.underlying3 (hval 1 3 v1 rfl rfl) h1
  clear hA0 hval0
  simp only [List.append_nil] at hW'
  refine (walk a0 a1 w0 w1 W).mono fun e W' ⟨he, hg⟩ => ?_
  subst he
  exact ⟨_, rfl, _, _, _, [], [], [], hW', trodAll_mk1 (shut_bool Try.underlying4 _), (trodAll_cons_mk (shut_int Try.underlying22 w0) (trodAll_cons_mk (shut_int Try.underlying3 w1) trodAll_mk0)), rfl, hg.frame _, fun h => by cases h⟩

theorem over : Rows.fnModeBitRow.holds Try.pinned (OpenSpec.ofChange Rows.fnModeBitSpec) :=
  OpenClaim.holds_of_wide 3 Try.f3 rfl rfl rfl rfl rfl rfl rfl ⟨rfl, rfl, rfl, rfl, rfl⟩ rfl rfl rfl rfl rfl (by kernel_rfl) Try.func3 (by kernel_rfl)
    (of_decide_eq_true (by kernel_rfl)) (by unfold Func.isWrapper; first | (rw [if_pos (by decide +kernel)]; kernel_rfl) | (rw [if_neg (by decide +kernel)]; exact ⟨rfl, rfl⟩))
    (fun os started H enc _ => lifted os started H enc)

/-- ████ THE STATEMENT ████ -/
theorem proved : Rows.FnModeBitSaid :=
  over
#print axioms proved
end Go.Proofs.Ytpikgcbmbepmcaa.fnModeBit
