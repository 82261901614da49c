/-
  Proved here: FnModeOthers returns true for every two uint32. No condition.
  The frame of the text was written by the kit's proof-skeleton.mjs; the walk is ours.
-/
import Derived.Test.YtcjeaifiigakoaaRows
import Derived.WalkKit
import Derived.ProofKit
import Derived.OpenShut
import Derived.Test.YtcjeaifiigakoaaStr
namespace Go.Proofs.Ytcjeaifiigakoaa.fnModeOthers
open Go.ChangeShapes Go.WideShapes Go.ChangeAt Go.RowKit
set_option linter.unusedVariables false      -- a walk need not use every 'w<i>' (that an integer argument fits its kind)

theorem own : ownKnob Try.prog.godebug = none := by kernel_rfl

theorem others (x y : BitVec 32) (c : BitVec 32) (j : Nat) (h : c.getLsbD j = false) : bitOf (x ^^^ (y &&& c)) j = bitOf x j := by
  unfold bitOf
  rw [BitVec.getLsbD_xor, BitVec.getLsbD_and, h]; simp
theorem mid_out (j : Nat) (h : j < 9 ∨ 19 ≤ j) : (523776#32).getLsbD j = false := by
  by_cases hj : j < 32
  · have : ∀ i : Fin 32, (i.val < 9 ∨ 19 ≤ i.val) → (523776#32).getLsbD i.val = false := by decide
    exact this ⟨j, hj⟩ h
  · exact BitVec.getLsbD_of_ge _ _ (by omega)
theorem same_mask (x y c d : BitVec 32) (h : c &&& d = 0#32) : (x ^^^ (y &&& c)) &&& d = x &&& d := by
  have e : (x ^^^ (y &&& c)) &&& d = (x &&& d) ^^^ (y &&& (c &&& d)) := by
    ext i hi; simp; cases x[i] <;> cases y[i] <;> cases c[i] <;> cases d[i] <;> rfl
  rw [e, h]; simp

/-! ### STEP 1: THE WALK: the Go text returns true. 'Below': nothing that lay there has changed. Part the cases AHEAD of 'go_enter' where a test parts the walk; take each callee by a contract of your own. -/
theorem walk (a0 : Int) (a1 : Int) (w0 : (Lit.int .u32 a0).wf = true) (w1 : (Lit.int .u32 a1).wf = true) (w : World) :
    Calls Try.prog 12 #[.int .u32 a0, .int .u32 a1] w fun e w' => e = .returned (.bool true) ∧ Below w.heap.size w w' := by
  obtain ⟨x, rfl⟩ := bvOf a0 w0
  obtain ⟨y, rfl⟩ := bvOf a1 w1
  obtain ⟨z, hz⟩ : ∃ z, z = x ^^^ (y &&& 523776#32) := ⟨_, rfl⟩
  have f0 : bits .xor .u32 (x.toNat : Int) (bits .and .u32 (y.toNat : Int) 523776) = (z.toNat : Int) := by
    rw [show bits .and .u32 (y.toNat : Int) 523776 = ((y &&& 523776#32).toNat : Int) from band y 523776#32, bxor, hz]
  have f1 : bits .and .u32 (z.toNat : Int) 511 = bits .and .u32 (x.toNat : Int) 511 := by
    rw [show bits .and .u32 (z.toNat : Int) 511 = ((z &&& 511#32).toNat : Int) from band z 511#32, show bits .and .u32 (x.toNat : Int) 511 = ((x &&& 511#32).toNat : Int) from band x 511#32, hz, same_mask x y _ _ (by decide)]
  have f2 : bits .and .u32 (z.toNat : Int) 2401763328 = bits .and .u32 (x.toNat : Int) 2401763328 := by
    rw [show bits .and .u32 (z.toNat : Int) 2401763328 = ((z &&& 2401763328#32).toNat : Int) from band z 2401763328#32, show bits .and .u32 (x.toNat : Int) 2401763328 = ((x &&& 2401763328#32).toNat : Int) from band x 2401763328#32, hz, same_mask x y _ _ (by decide)]
  have f3 : bits .and .u32 (z.toNat : Int) 2147483648 = bits .and .u32 (x.toNat : Int) 2147483648 := by
    rw [show bits .and .u32 (z.toNat : Int) 2147483648 = ((z &&& 2147483648#32).toNat : Int) from band z 2147483648#32, show bits .and .u32 (x.toNat : Int) 2147483648 = ((x &&& 2147483648#32).toNat : Int) from band x 2147483648#32, hz, same_mask x y _ _ (by decide)]
  have es : modeStr z = modeStr x := by
    rw [hz]
    exact modeStr_congr _ _ (fun j hj => others x y _ j (mid_out j (.inr hj))) (fun j hj => others x y _ j (mid_out j (.inl hj)))
  obtain ⟨s, hs⟩ : ∃ s, s = modeStr x := ⟨_, rfl⟩
  have hsz : 9 < s.size := by rw [hs]; have := modeStr_small x; omega
  have hsd : decide (9 < (s.size : Int)) = true := decide_eq_true (by omega)
  have HZ := Lib.hid (show ∀ w, Calls Try.prog 22 #[.int .u32 (z.toNat : Int)] w fun e w' => e = .returned (.string s) ∧ Below w.heap.size w w' from by intro w; rw [hs, ← es]; exact modeString_any z w)
  have HX := Lib.hid (show ∀ w, Calls Try.prog 22 #[.int .u32 (x.toNat : Int)] w fun e w' => e = .returned (.string s) ∧ Below w.heap.size w w' from by intro w; rw [hs]; exact modeString_any x w)
  clear w0 w1 hz es hs
  go_enter Try.func12, Try.ntmps12
  go_wp2_with fail
  refine (HZ.out _).mono ?_
  rintro e W1 ⟨rfl, hb1⟩
  go_wp2_with fail
  refine (HX.out _).mono ?_
  rintro e W2 ⟨rfl, hb2⟩
  have B2 := Below.then_ hb1 hb2
  clear hb1 hb2
  go_wp2_with (first | (go_at_call 22; refine (HZ.out _).mono ?_; rintro e W3 ⟨rfl, hb3⟩) | go_in)
  go_ret
  exact ⟨rfl, Below.then_ B2 hb3⟩

/-! ### THE ROW's STEP: WRITTEN OUT: LEAVE IT -/
set_option maxRecDepth 100000 in
theorem lifted (os : Os) (started : os.Started) (H : Type) (enc : TypeId × Value → H) :
    ReturnsInHanded {} Try.checked os 12 .any (Rows.fnModeOthersSpec.pre6 enc Try.prog Try.f12 Rows.fnModeOthersRow.domain false) (Rows.fnModeOthersSpec.post enc Try.prog Try.f12 false true false false) := by
  refine returnsInHanded_of_change (C := Try.checked) own started (by kernel_rfl) Try.func12
    (ChangeSpec.witness6 (enc := enc) (C := Try.checked) false ⟨#[], #[.int .u32 0, .int .u32 0], []⟩ 8 (by kernel_rfl) (by kernel_rfl) (by kernel_rfl) (by kernel_rfl)) ?_
  intro W base args ds gs before hval0 hW hcnd _
  have hval : ∀ (j : Nat) t v, Try.f12.params[j]? = some t → args[j]? = some v → Value.okWide Try.prog W .any base t v := hval0
  have hW' := hW
  obtain ⟨p, q, hA0, hV, rfl, hfz, hnd⟩ := hW
  have hA : DataW.TrodAll enc Try.prog W 0 (fun _ => true) true Try.f12.params.toList args.toList ds p := hA0
  rw [Try.params12] at hA hval
  obtain ⟨v0, vs0, d0, ds0, p0, q0, hargs, rfl, rfl, h0, r0⟩ := trodAll_cons hA
  obtain ⟨v1, vs1, d1, ds1, p1, q1, rfl, rfl, rfl, h1, r1⟩ := trodAll_cons r0
  obtain ⟨rfl, rfl, rfl⟩ := trodAll_nil r1
  obtain rfl : args = #[v0, v1] := by cases args; simp_all
  obtain ⟨rfl, rfl⟩ := trodVars_none hV
  obtain ⟨a0, rfl, rfl, rfl, w0⟩ := open_int Try.underlying24 (hval 0 24 v0 rfl rfl) h0
  obtain ⟨a1, rfl, rfl, rfl, w1⟩ := open_int Try.underlying24 (hval 1 24 v1 rfl rfl) h1
  clear hA0 hval0
  simp only [List.append_nil] at hW'
  refine (walk a0 a1 w0 w1 W).mono fun e W' ⟨he, hg⟩ => ?_
  subst he
  exact ⟨_, rfl, _, _, _, [], [], [], hW', trodAll_mk1 (shut_bool Try.underlying4 _), (trodAll_cons_mk (shut_int Try.underlying24 w0) (trodAll_cons_mk (shut_int Try.underlying24 w1) trodAll_mk0)), rfl, hg.frame _, fun h => by cases h⟩

theorem over : Rows.fnModeOthersRow.holds Try.pinned (OpenSpec.ofChange Rows.fnModeOthersSpec) :=
  OpenClaim.holds_of_wide 12 Try.f12 rfl rfl rfl rfl rfl rfl rfl ⟨rfl, rfl, rfl, rfl, rfl⟩ rfl rfl rfl rfl rfl (by kernel_rfl) Try.func12 (by kernel_rfl)
    (of_decide_eq_true (by kernel_rfl)) (by unfold Func.isWrapper; first | (rw [if_pos (by decide +kernel)]; kernel_rfl) | (rw [if_neg (by decide +kernel)]; exact ⟨rfl, rfl⟩))
    (fun os started H enc _ => lifted os started H enc)

/-- ████ THE STATEMENT ████ -/
theorem proved : Rows.FnModeOthersSaid :=
  over
#print axioms proved
end Go.Proofs.Ytcjeaifiigakoaa.fnModeOthers
