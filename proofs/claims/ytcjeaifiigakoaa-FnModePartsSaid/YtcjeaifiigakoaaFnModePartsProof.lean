/-
  Proved here: FnModeParts returns true for every uint32. No condition.
  The frame of the text was written by the kit's proof-skeleton.mjs; the walk is ours.
-/
import Derived.Test.YtcjeaifiigakoaaRows
import Derived.WalkKit
import Derived.ProofKit
import Derived.OpenShut
import Derived.Test.YtcjeaifiigakoaaBits
namespace Go.Proofs.Ytcjeaifiigakoaa.fnModeParts
open Go.ChangeShapes Go.WideShapes Go.ChangeAt Go.RowKit
set_option linter.unusedVariables false      -- a walk need not use every 'w<i>' (that an integer argument fits its kind)

theorem own : ownKnob Try.prog.godebug = none := by kernel_rfl

/-! ### STEP 1: THE WALK: the Go text returns true. 'Grown w w'': the world has at most new blocks (Derived/RowKit3.lean). Part the cases AHEAD of 'go_enter' where a test parts the walk; take each callee by a contract of your own. -/
theorem walk (a0 : Int) (w0 : (Lit.int .u32 a0).wf = true) (w : World) :
    Calls Try.prog 10 #[.int .u32 a0] w fun e w' => e = .returned (.bool true) ∧ Grown w w' := by
  obtain ⟨x, rfl⟩ := bvOf a0 w0
  have f1 : bits .and .u32 (bits .andNot .u32 (bits .and .u32 (bits .or .u32 (x.toNat : Int) 2147483648) 2401763328) (x.toNat : Int)) 2147483648 = bits .andNot .u32 (bits .and .u32 (bits .or .u32 (x.toNat : Int) 2147483648) 2401763328) (x.toNat : Int) := mask_new x 2147483648#32 2401763328#32
  have f2 : bits .and .u32 (bits .andNot .u32 (bits .and .u32 (bits .or .u32 (x.toNat : Int) 1) 511) (x.toNat : Int)) 1 = bits .andNot .u32 (bits .and .u32 (bits .or .u32 (x.toNat : Int) 1) 511) (x.toNat : Int) := mask_new x 1#32 511#32
  have g1 := bor x 2147483648#32
  have g2 := bor x 1#32
  have e1 : bits .or .u32 (x.toNat : Int) 2147483648 = ((x ||| 2147483648#32).toNat : Int) := g1
  have e2 : bits .or .u32 (x.toNat : Int) 1 = ((x ||| 1#32).toNat : Int) := g2
  have f3 : bits .and .u32 (bits .and .u32 (bits .or .u32 (x.toNat : Int) 2147483648) 2401763328) (bits .and .u32 (bits .or .u32 (x.toNat : Int) 1) 511) = 0 := by
    rw [e1, e2]; exact masks_apart _ _ 2401763328#32 511#32 (by decide)
  have f4 : bits .and .u32 (bits .and .u32 (bits .or .u32 (x.toNat : Int) 2147483648) 2401763328) 2401763328 = bits .and .u32 (bits .or .u32 (x.toNat : Int) 2147483648) 2401763328 := by
    rw [e1]; exact mask_twice _ 2401763328#32
  have f5 : bits .and .u32 (bits .and .u32 (bits .or .u32 (x.toNat : Int) 1) 511) 511 = bits .and .u32 (bits .or .u32 (x.toNat : Int) 1) 511 := by
    rw [e2]; exact mask_twice _ 511#32
  have f6 : bits .and .u32 (bits .and .u32 (bits .or .u32 (x.toNat : Int) 1) 511) 2401763328 = 0 := by
    rw [e2]; exact mask_apart _ 511#32 2401763328#32 (by decide)
  have f7 : bits .and .u32 (bits .and .u32 (bits .or .u32 (x.toNat : Int) 2147483648) 2401763328) 511 = 0 := by
    rw [e1]; exact mask_apart _ 2401763328#32 511#32 (by decide)
  have f8 : (bits .and .u32 (bits .or .u32 (x.toNat : Int) 2147483648) 2401763328 != 0) = true := bne_iff_ne.2 (mask_keeps x 2147483648#32 2401763328#32 (by decide) (by decide))
  have f9 : (bits .and .u32 (bits .or .u32 (x.toNat : Int) 1) 511 != 0) = true := bne_iff_ne.2 (mask_keeps x 1#32 511#32 (by decide) (by decide))
  clear w0 g1 g2 e1 e2
  go_enter Try.func10, Try.ntmps10
  go_wp2
  go_ret
  exact ⟨rfl, Grown.refl _⟩

/-! ### THE ROW's STEP: WRITTEN OUT: LEAVE IT -/
set_option maxRecDepth 100000 in
theorem lifted (os : Os) (started : os.Started) (H : Type) (enc : TypeId × Value → H) :
    ReturnsInHanded {} Try.checked os 10 .any (Rows.fnModePartsSpec.pre6 enc Try.prog Try.f10 Rows.fnModePartsRow.domain false) (Rows.fnModePartsSpec.post enc Try.prog Try.f10 false true false false) := by
  refine returnsInHanded_of_change (C := Try.checked) own started (by kernel_rfl) Try.func10
    (ChangeSpec.witness6 (enc := enc) (C := Try.checked) false ⟨#[], #[.int .u32 0], []⟩ 8 (by kernel_rfl) (by kernel_rfl) (by kernel_rfl) (by kernel_rfl)) ?_
  intro W base args ds gs before hval0 hW hcnd _
  have hval : ∀ (j : Nat) t v, Try.f10.params[j]? = some t → args[j]? = some v → Value.okWide Try.prog W .any base t v := hval0
  have hW' := hW
  obtain ⟨p, q, hA0, hV, rfl, hfz, hnd⟩ := hW
  have hA : DataW.TrodAll enc Try.prog W 0 (fun _ => true) true Try.f10.params.toList args.toList ds p := hA0
  rw [Try.params10] at hA hval
  obtain ⟨v0, vs0, d0, ds0, p0, q0, hargs, rfl, rfl, h0, r0⟩ := trodAll_cons hA
  obtain ⟨rfl, rfl, rfl⟩ := trodAll_nil r0
  obtain rfl : args = #[v0] := by cases args; simp_all
  obtain ⟨rfl, rfl⟩ := trodVars_none hV
  obtain ⟨a0, rfl, rfl, rfl, w0⟩ := open_int Try.underlying24 (hval 0 24 v0 rfl rfl) h0
  clear hA0 hval0
  simp only [List.append_nil] at hW'
  refine (walk a0 w0 W).mono fun e W' ⟨he, hg⟩ => ?_
  subst he
  exact ⟨_, rfl, post_of_same (pa := []) (pv := []) hW' (fun _ _ _ => (trodAll_cons_mk (shut_bool Try.underlying4 _) trodAll_mk0)) (fun sp _ => (trodAll_cons_mk (shut_int Try.underlying24 w0) trodAll_mk0)) (fun _ _ => rfl) rfl
    (hg.frame _) hg.2.1 (ok_one (by kernel_rfl) rfl (okWide_bool_mk Try.underlying4 _))⟩

theorem over : Rows.fnModePartsRow.holds Try.pinned (OpenSpec.ofChange Rows.fnModePartsSpec) :=
  OpenClaim.holds_of_wide 10 Try.f10 rfl rfl rfl rfl rfl rfl rfl ⟨rfl, rfl, rfl, rfl, rfl⟩ rfl rfl rfl rfl rfl (by kernel_rfl) Try.func10 (by kernel_rfl)
    (of_decide_eq_true (by kernel_rfl)) (by unfold Func.isWrapper; first | (rw [if_pos (by decide +kernel)]; kernel_rfl) | (rw [if_neg (by decide +kernel)]; exact ⟨rfl, rfl⟩))
    (fun os started H enc _ => lifted os started H enc)

/-- ████ THE STATEMENT ████ -/
theorem proved : Rows.FnModePartsSaid :=
  over
#print axioms proved
end Go.Proofs.Ytcjeaifiigakoaa.fnModeParts
