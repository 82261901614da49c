/-
  Proved here: FnModeRights returns true for every uint32. No condition.
  The frame of the text was written by the kit's proof-skeleton.mjs; the walk is ours.
-/
import Derived.Test.YtpikgcbmbepmcaaRows
import Derived.WalkKit
import Derived.ProofKit
import Derived.OpenShut
import Derived.Test.YtpikgcbmbepmcaaSpecS
namespace Go.Proofs.Ytpikgcbmbepmcaa.fnModeRights
open Go.ChangeShapes Go.WideShapes Go.ChangeAt Go.RowKit
set_option linter.unusedVariables false      -- a walk need not use every 'w<i>' (that an integer argument fits its kind)

theorem own : ownKnob Try.prog.godebug = none := by kernel_rfl

theorem perm_bit (x : BitVec 32) (j : Nat) (h : j < 9) : bitOf (x &&& 511#32) j = bitOf x j := by
  unfold bitOf
  rw [BitVec.getLsbD_and]
  have : ∀ i : Fin 9, (511#32).getLsbD i.val = true := by decide
  rw [this ⟨j, h⟩, Bool.and_true]

/-! ### STEP 1: THE WALK: the Go text returns true. 'Below': nothing that lay there has changed. Part the cases AHEAD of 'go_enter' where a test parts the walk; take each callee by a contract of your own. -/
theorem walk (a0 : Int) (w0 : (Lit.int .u32 a0).wf = true) (w : World) :
    Calls Try.prog 12 #[.int .u32 a0] w fun e w' => e = .returned (.bool true) ∧ Below w.heap.size w w' := by
  obtain ⟨x, rfl⟩ := bvOf a0 w0
  obtain ⟨z, hz⟩ : ∃ z, z = x &&& 511#32 := ⟨_, rfl⟩
  have f0 : bits .and .u32 (x.toNat : Int) 511 = (z.toNat : Int) := by rw [hz]; exact band x 511#32
  have hr : rights z 9 = rights x 9 := rights_congr _ _ (fun j hj => by rw [hz]; exact perm_bit x j hj) 9 (by omega)
  have HZ := Lib.hid (show ∀ w, Calls Try.prog 20 #[.string (modeStr z)] w fun e w' => e = .returned (.string (strOf (rights x 9))) ∧ w = w' from by intro w; rw [← hr]; exact rightsL_any z w)
  clear w0 hz hr
  go_enter Try.func12, Try.ntmps12
  go_wp2_with fail
  refine (modeString_any _ _).mono ?_
  rintro e W1 ⟨rfl, hb1⟩
  go_wp2_with fail
  refine (rightsL_any _ _).mono ?_
  rintro e w' ⟨rfl, rfl⟩
  go_wp2_with (first | (go_at_call 15; refine (modeString_any _ _).mono ?_; rintro e W2 ⟨rfl, hb2⟩) | (go_at_call 22; refine (rightsS_any _ _).mono ?_; rintro e w' ⟨rfl, rfl⟩) | (go_at_call 20; refine (HZ.out _).mono ?_; rintro e w' ⟨rfl, rfl⟩) | go_in)
  go_ret
  exact ⟨rfl, Below.then_ hb1 hb2⟩

/-! ### THE ROW's STEP: WRITTEN OUT: LEAVE IT -/
set_option maxRecDepth 100000 in
theorem lifted (os : Os) (started : os.Started) (H : Type) (enc : TypeId × Value → H) :
    ReturnsInHanded {} Try.checked os 12 .any (Rows.fnModeRightsSpec.pre6 enc Try.prog Try.f12 Rows.fnModeRightsRow.domain false) (Rows.fnModeRightsSpec.post enc Try.prog Try.f12 false true false false) := by
  refine returnsInHanded_of_change (C := Try.checked) own started (by kernel_rfl) Try.func12
    (ChangeSpec.witness6 (enc := enc) (C := Try.checked) false ⟨#[], #[.int .u32 0], []⟩ 8 (by kernel_rfl) (by kernel_rfl) (by kernel_rfl) (by kernel_rfl)) ?_
  intro W base args ds gs before hval0 hW hcnd _
  have hval : ∀ (j : Nat) t v, Try.f12.params[j]? = some t → args[j]? = some v → Value.okWide Try.prog W .any base t v := hval0
  have hW' := hW
  obtain ⟨p, q, hA0, hV, rfl, hfz, hnd⟩ := hW
  have hA : DataW.TrodAll enc Try.prog W 0 (fun _ => true) true Try.f12.params.toList args.toList ds p := hA0
  rw [Try.params12] at hA hval
  obtain ⟨v0, vs0, d0, ds0, p0, q0, hargs, rfl, rfl, h0, r0⟩ := trodAll_cons hA
  obtain ⟨rfl, rfl, rfl⟩ := trodAll_nil r0
  obtain rfl : args = #[v0] := by cases args; simp_all
  obtain ⟨rfl, rfl⟩ := trodVars_none hV
  obtain ⟨a0, rfl, rfl, rfl, w0⟩ := open_int Try.underlying22 (hval 0 22 v0 rfl rfl) h0
  clear hA0 hval0
  simp only [List.append_nil] at hW'
  refine (walk a0 w0 W).mono fun e W' ⟨he, hg⟩ => ?_
  subst he
  exact ⟨_, rfl, _, _, _, [], [], [], hW', trodAll_mk1 (shut_bool Try.underlying4 _), (trodAll_cons_mk (shut_int Try.underlying22 w0) trodAll_mk0), rfl, hg.frame _, fun h => by cases h⟩

theorem over : Rows.fnModeRightsRow.holds Try.pinned (OpenSpec.ofChange Rows.fnModeRightsSpec) :=
  OpenClaim.holds_of_wide 12 Try.f12 rfl rfl rfl rfl rfl rfl rfl ⟨rfl, rfl, rfl, rfl, rfl⟩ rfl rfl rfl rfl rfl (by kernel_rfl) Try.func12 (by kernel_rfl)
    (of_decide_eq_true (by kernel_rfl)) (by unfold Func.isWrapper; first | (rw [if_pos (by decide +kernel)]; kernel_rfl) | (rw [if_neg (by decide +kernel)]; exact ⟨rfl, rfl⟩))
    (fun os started H enc _ => lifted os started H enc)

/-- ████ THE STATEMENT ████ -/
theorem proved : Rows.FnModeRightsSaid :=
  over
#print axioms proved
end Go.Proofs.Ytpikgcbmbepmcaa.fnModeRights
