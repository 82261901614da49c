/-
  Proved here: FnModeLong returns true for every uint32. No condition.
  The frame of the text was written by the kit's proof-skeleton.mjs; the walk is ours.
-/
import Derived.Test.YtpikgcbmbepmcaaRows
import Derived.WalkKit
import Derived.ProofKit
import Derived.OpenShut
import Derived.Test.YtpikgcbmbepmcaaSpecS
namespace Go.Proofs.Ytpikgcbmbepmcaa.fnModeLong
open Go.ChangeShapes Go.WideShapes Go.ChangeAt Go.RowKit
set_option linter.unusedVariables false      -- a walk need not use every 'w<i>' (that an integer argument fits its kind)

theorem own : ownKnob Try.prog.godebug = none := by kernel_rfl

theorem ret_true {b : Bool} (h : b = true) : Ending.returned (.bool b) = .returned (.bool true) := by rw [h]

/-! ### STEP 1: THE WALK: the Go text returns true. 'Below': nothing that lay there has changed. Part the cases AHEAD of 'go_enter' where a test parts the walk; take each callee by a contract of your own. -/
theorem walk (a0 : Int) (w0 : (Lit.int .u32 a0).wf = true) (w : World) :
    Calls Try.prog 5 #[.int .u32 a0] w fun e w' => e = .returned (.bool true) ∧ Below w.heap.size w w' := by
  obtain ⟨x, rfl⟩ := bvOf a0 w0
  obtain ⟨s, hs⟩ : ∃ s, s = modeStr x := ⟨_, rfl⟩
  obtain ⟨n, hn⟩ : ∃ n, n = (front x 13).length := ⟨_, rfl⟩
  have hfl : n ≤ 13 := by rw [hn]; exact front_length x 13
  have hsz : s.size = 9 + (if n = 0 then 1 else n) := by
    rw [hs, modeStr_size, frontStr, hn]
    by_cases h0 : (front x 13).length = 0
    · rw [if_pos h0, if_pos h0]; rfl
    · rw [if_neg h0, if_neg h0]; omega
  have HS := Lib.hid (show ∀ w, Calls Try.prog 15 #[.int .u32 (x.toNat : Int)] w fun e w' => e = .returned (.string s) ∧ Below w.heap.size w w' from by intro w; rw [hs]; exact modeString_any x w)
  have HC := Lib.hid (show ∀ w, Calls Try.prog 18 #[.int .u32 (x.toNat : Int)] w fun e w' => e = .returned (.int .i64 (n : Int)) ∧ w = w' from by intro w; rw [hn]; exact count_any x w)
  have hS22 : (s.size : Int) ≤ 22 := by split at hsz <;> omega
  have HZ := Lib.hid hsz
  clear w0 hs hn hsz
  go_enter Try.func5, Try.ntmps5
  go_wp2_with (first | (go_at_call 15; refine (HS.out _).mono ?_; rintro e W1 ⟨rfl, hb1⟩) | (go_at_call 18; refine (HC.out _).mono ?_; rintro e w' ⟨rfl, rfl⟩))
  · have hn1 : 1 < (n : Int) := by assumption
    have hz := HZ.out
    rw [if_neg (by omega)] at hz
    go_ret
    exact ⟨ret_true (beq_iff_eq.2 (by omega)), hb1⟩
  · have hn1 : ¬ 1 < (n : Int) := by omega
    have hz := HZ.out
    have hz2 : s.size = 10 := by split at hz <;> omega
    go_ret
    exact ⟨ret_true (beq_iff_eq.2 (by omega)), hb1⟩

/-! ### THE ROW's STEP: WRITTEN OUT: LEAVE IT -/
set_option maxRecDepth 100000 in
theorem lifted (os : Os) (started : os.Started) (H : Type) (enc : TypeId × Value → H) :
    ReturnsInHanded {} Try.checked os 5 .any (Rows.fnModeLongSpec.pre6 enc Try.prog Try.f5 Rows.fnModeLongRow.domain false) (Rows.fnModeLongSpec.post enc Try.prog Try.f5 false true false false) := by
  refine returnsInHanded_of_change (C := Try.checked) own started (by kernel_rfl) Try.func5
    (ChangeSpec.witness6 (enc := enc) (C := Try.checked) false ⟨#[], #[.int .u32 0], []⟩ 8 (by kernel_rfl) (by kernel_rfl) (by kernel_rfl) (by kernel_rfl)) ?_
  intro W base args ds gs before hval0 hW hcnd _
  have hval : ∀ (j : Nat) t v, Try.f5.params[j]? = some t → args[j]? = some v → Value.okWide Try.prog W .any base t v := hval0
  have hW' := hW
  obtain ⟨p, q, hA0, hV, rfl, hfz, hnd⟩ := hW
  have hA : DataW.TrodAll enc Try.prog W 0 (fun _ => true) true Try.f5.params.toList args.toList ds p := hA0
  rw [Try.params5] at hA hval
  obtain ⟨v0, vs0, d0, ds0, p0, q0, hargs, rfl, rfl, h0, r0⟩ := trodAll_cons hA
  obtain ⟨rfl, rfl, rfl⟩ := trodAll_nil r0
  obtain rfl : args = #[v0] := by cases args; simp_all
  obtain ⟨rfl, rfl⟩ := trodVars_none hV
  obtain ⟨a0, rfl, rfl, rfl, w0⟩ := open_int Try.underlying22 (hval 0 22 v0 rfl rfl) h0
  clear hA0 hval0
  simp only [List.append_nil] at hW'
  refine (walk a0 w0 W).mono fun e W' ⟨he, hg⟩ => ?_
  subst he
  exact ⟨_, rfl, _, _, _, [], [], [], hW', trodAll_mk1 (shut_bool Try.underlying4 _), (trodAll_cons_mk (shut_int Try.underlying22 w0) trodAll_mk0), rfl, hg.frame _, fun h => by cases h⟩

theorem over : Rows.fnModeLongRow.holds Try.pinned (OpenSpec.ofChange Rows.fnModeLongSpec) :=
  OpenClaim.holds_of_wide 5 Try.f5 rfl rfl rfl rfl rfl rfl rfl ⟨rfl, rfl, rfl, rfl, rfl⟩ rfl rfl rfl rfl rfl (by kernel_rfl) Try.func5 (by kernel_rfl)
    (of_decide_eq_true (by kernel_rfl)) (by unfold Func.isWrapper; first | (rw [if_pos (by decide +kernel)]; kernel_rfl) | (rw [if_neg (by decide +kernel)]; exact ⟨rfl, rfl⟩))
    (fun os started H enc _ => lifted os started H enc)

/-- ████ THE STATEMENT ████ -/
theorem proved : Rows.FnModeLongSaid :=
  over
#print axioms proved
end Go.Proofs.Ytpikgcbmbepmcaa.fnModeLong
