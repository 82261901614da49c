/-
  Proved here: FnModeTypeLetters returns true for every uint32. No condition.
  The frame of the text was written by the kit's proof-skeleton.mjs; the walk is ours.
-/
import Derived.Test.YtpikgcbmbepmcaaRows
import Derived.WalkKit
import Derived.ProofKit
import Derived.OpenShut
import Derived.Test.YtpikgcbmbepmcaaLett
namespace Go.Proofs.Ytpikgcbmbepmcaa.fnModeTypeLetters
open Go.ChangeShapes Go.WideShapes Go.ChangeAt Go.RowKit
set_option linter.unusedVariables false      -- a walk need not use every 'w<i>' (that an integer argument fits its kind)

theorem own : ownKnob Try.prog.godebug = none := by kernel_rfl

def kindT (k : Nat) : Bool := (2401763328#32).getLsbD k
def alT : ByteArray := ⟨#[97, 108, 84, 117, 103, 116]⟩
theorem bitOf_type (x : BitVec 32) (k : Nat) : bitOf (x &&& 2401763328#32) k = (bitOf x k && kindT k) := BitVec.getLsbD_and
theorem hasI_alT (k : Nat) (hk : k < 13) : hasI alT.data.toList ((letterAt k).toNat : Int) = !kindT (31 - k) := by
  have : ∀ k : Fin 13, hasI alT.data.toList ((letterAt k.val).toNat : Int) = !kindT (31 - k.val) := by decide
  exact this ⟨k, hk⟩
theorem has_alT (j : Nat) (w : World) (h1 : 19 ≤ j) (h2 : j < 32) : Calls Try.prog 17 #[.string ⟨#[97, 108, 84, 117, 103, 116]⟩, .int .u8 ((letterAt (31 - j)).toNat : Int)] w fun e w' => e = .returned (.bool (!kindT j)) ∧ w = w' := by
  have e : 31 - (31 - j) = j := by omega
  have h := hasI_alT (31 - j) (by omega)
  rw [e] at h
  rw [← h]
  exact has_any _ _ _ (by decide)

/-! ### STEP 1: THE WALK: the Go text returns true. 'Below': nothing that lay there has changed. Part the cases AHEAD of 'go_enter' where a test parts the walk; take each callee by a contract of your own. -/
theorem walk (a0 : Int) (w0 : (Lit.int .u32 a0).wf = true) (w : World) :
    Calls Try.prog 13 #[.int .u32 a0] w fun e w' => e = .returned (.bool true) ∧ Below w.heap.size w w' := by
  obtain ⟨x, rfl⟩ := bvOf a0 w0
  obtain ⟨z, hz⟩ : ∃ z, z = x &&& 2401763328#32 := ⟨_, rfl⟩
  have f0 : bits .and .u32 (x.toNat : Int) 2401763328 = (z.toNat : Int) := by rw [hz]; exact band x 2401763328#32
  have hne := modeStr_ne z
  have HZ := Lib.hid hz
  clear w0 hz
  go_enter Try.func13, Try.ntmps13
  go_wp2_with fail
  refine (modeString_any _ _).mono ?_
  rintro e W1 ⟨rfl, hb1⟩
  go_wp2_with (first | (go_at_call 15; refine (modeString_any _ _).mono ?_; rintro e W2 ⟨rfl, hb2⟩) | (go_at_call 24; go_in) | (go_at_call 31; go_in))
  have B2 := Below.then_ hb1 hb2
  clear hb1 hb2
  go_loop [5] (fun v => ∃ k : Nat, 19 ≤ k ∧ k ≤ 32 ∧ v = .int .i64 (k : Int)) (fun v => 32 - (intOf v).toNat)
  case atStart => exact ⟨19, by omega, by omega, rfl⟩
  case round =>
    obtain ⟨k, hk1, hk2, rfl⟩ := hrel
    by_cases hlt : k < 32
    · have hbz : bitOf z k = (bitOf x k && kindT k) := by rw [HZ.out]; exact bitOf_type x k
      by_cases hbx : bitOf x k = true
      · rw [hbx, Bool.true_and] at hbz
        go_wp2_with (first | (go_at_call 16; refine (letter_any _ _ hk1 hlt).mono ?_; rintro e w' ⟨rfl, rfl⟩) | (go_at_call 17; ((with_reducible refine (has_letter _ k _ hk1 hlt).mono ?_); rintro e w' ⟨rfl, rfl⟩)) | (go_at_call 17; ((with_reducible refine (has_alT k _ hk1 hlt).mono ?_); rintro e w' ⟨rfl, rfl⟩)))
        go_round
        case rel => exact ⟨k + 1, by omega, by omega, by go_num⟩
        case measure => simp [intOf]; omega
      · have hbx' : bitOf x k = false := by simpa using hbx
        clear hbx
        rw [hbx', Bool.false_and] at hbz
        go_wp2_with (first | (go_at_call 16; refine (letter_any _ _ hk1 hlt).mono ?_; rintro e w' ⟨rfl, rfl⟩) | (go_at_call 17; ((with_reducible refine (has_letter _ k _ hk1 hlt).mono ?_); rintro e w' ⟨rfl, rfl⟩)))
        go_round
        case rel => exact ⟨k + 1, by omega, by omega, by go_num⟩
        case measure => simp [intOf]; omega
    · go_wp2
      go_ret
      exact ⟨rfl, B2⟩

/-! ### THE ROW's STEP: WRITTEN OUT: LEAVE IT -/
set_option maxRecDepth 100000 in
theorem lifted (os : Os) (started : os.Started) (H : Type) (enc : TypeId × Value → H) :
    ReturnsInHanded {} Try.checked os 13 .any (Rows.fnModeTypeLettersSpec.pre6 enc Try.prog Try.f13 Rows.fnModeTypeLettersRow.domain false) (Rows.fnModeTypeLettersSpec.post enc Try.prog Try.f13 false true false false) := by
  refine returnsInHanded_of_change (C := Try.checked) own started (by kernel_rfl) Try.func13
    (ChangeSpec.witness6 (enc := enc) (C := Try.checked) false ⟨#[], #[.int .u32 0], []⟩ 8 (by kernel_rfl) (by kernel_rfl) (by kernel_rfl) (by kernel_rfl)) ?_
  intro W base args ds gs before hval0 hW hcnd _
  have hval : ∀ (j : Nat) t v, Try.f13.params[j]? = some t → args[j]? = some v → Value.okWide Try.prog W .any base t v := hval0
  have hW' := hW
  obtain ⟨p, q, hA0, hV, rfl, hfz, hnd⟩ := hW
  have hA : DataW.TrodAll enc Try.prog W 0 (fun _ => true) true Try.f13.params.toList args.toList ds p := hA0
  rw [Try.params13] at hA hval
  obtain ⟨v0, vs0, d0, ds0, p0, q0, hargs, rfl, rfl, h0, r0⟩ := trodAll_cons hA
  obtain ⟨rfl, rfl, rfl⟩ := trodAll_nil r0
  obtain rfl : args = #[v0] := by cases args; simp_all
  obtain ⟨rfl, rfl⟩ := trodVars_none hV
  obtain ⟨a0, rfl, rfl, rfl, w0⟩ := open_int Try.underlying22 (hval 0 22 v0 rfl rfl) h0
  clear hA0 hval0
  simp only [List.append_nil] at hW'
  refine (walk a0 w0 W).mono fun e W' ⟨he, hg⟩ => ?_
  subst he
  exact ⟨_, rfl, _, _, _, [], [], [], hW', trodAll_mk1 (shut_bool Try.underlying4 _), (trodAll_cons_mk (shut_int Try.underlying22 w0) trodAll_mk0), rfl, hg.frame _, fun h => by cases h⟩

theorem over : Rows.fnModeTypeLettersRow.holds Try.pinned (OpenSpec.ofChange Rows.fnModeTypeLettersSpec) :=
  OpenClaim.holds_of_wide 13 Try.f13 rfl rfl rfl rfl rfl rfl rfl ⟨rfl, rfl, rfl, rfl, rfl⟩ rfl rfl rfl rfl rfl (by kernel_rfl) Try.func13 (by kernel_rfl)
    (of_decide_eq_true (by kernel_rfl)) (by unfold Func.isWrapper; first | (rw [if_pos (by decide +kernel)]; kernel_rfl) | (rw [if_neg (by decide +kernel)]; exact ⟨rfl, rfl⟩))
    (fun os started H enc _ => lifted os started H enc)

/-- ████ THE STATEMENT ████ -/
theorem proved : Rows.FnModeTypeLettersSaid :=
  over
#print axioms proved
end Go.Proofs.Ytpikgcbmbepmcaa.fnModeTypeLetters
