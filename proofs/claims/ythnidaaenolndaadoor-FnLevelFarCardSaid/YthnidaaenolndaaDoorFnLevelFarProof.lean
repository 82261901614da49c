/-
  Proved here: FnLevelFar returns true for every int, the library's tables laid as their initialisers lay them.
  The listed variables are tied to the program's text by the given tie; the frame follows the kit's worked proofs of tied cards; the walk is ours.
-/
import Derived.Test.YthnidaaenolndaaDoorCards
import Derived.Test.YthnidaaenolndaaDoorTie
import Derived.Test.YthnidaaenolndaaDoorTab3
import Derived.WalkKit
import Derived.ProofKit
import Derived.OpenShut
import Derived.LaidMore
import Derived.SevenTiedAt
import Derived.SizedLaws
import Derived.Stop.Joined
import Derived.Test.YthnidaaenolndaaDoorLevSpec
import Derived.Test.YthnidaaenolndaaDoorBeg
namespace Go.Proofs.YthnidaaenolndaaDoor.fnLevelFar
open Go.ChangeShapes Go.WideShapes Go.ChangeAt Go.WideMaps Go.WideElems Go.RowKit
open Go.ChangeMaps (open_string shut_string)
set_option linter.unusedVariables false

theorem far_up (l : Int) (h : 8 < l) : pre [69, 82, 82, 79, 82, 43] (levList l) = true := by
  rw [levList_eq, levName, levOff, if_neg (by omega), if_neg (by omega), if_neg (by omega), if_neg (by omega), if_neg (by omega), if_neg (by omega), offS_plus (l - 8) (l - 8).toNat (by omega) (by omega)]
  exact pre_append [69, 82, 82, 79, 82, 43] _
theorem far_down (l : Int) (h : l < -4) : pre [68, 69, 66, 85, 71, 45] (levList l) = true := by
  rw [levList_eq, levName, levOff, if_pos (by omega), if_pos (by omega), offS_minus (l + 4) (-4 - l).toNat (by omega) (by omega)]
  exact pre_append [68, 69, 66, 85, 71, 45] _
theorem near (l : Int) (h0 : -4 ≤ l) (h1 : l ≤ 8) : pre [69, 82, 82, 79, 82, 43] (levList l) = false ∧ pre [68, 69, 66, 85, 71, 45] (levList l) = false := by
  rw [levList_eq, levName, levOff]
  by_cases a1 : l < 0
  · rw [if_pos a1, if_pos a1]
    by_cases b : l = -4
    · subst b; decide
    · rw [offS_plus (l + 4) (l + 4).toNat (by omega) (by omega)]
      exact ⟨rfl, rfl⟩
  · rw [if_neg a1, if_neg a1]
    by_cases a2 : l < 4
    · rw [if_pos a2, if_pos a2]
      exact ⟨rfl, rfl⟩
    · rw [if_neg a2, if_neg a2]
      by_cases a3 : l < 8
      · rw [if_pos a3, if_pos a3]
        exact ⟨rfl, rfl⟩
      · rw [if_neg a3, if_neg a3]
        obtain rfl : l = 8 := by omega
        decide

/-- THE WALK: the Go text returns true; nothing that lay there has changed. -/
theorem walk (a0 : Int) (w0 : (Lit.int .i64 a0).wf = true) (w : World) (hT : Tab w) :
    Calls Tryd.prog 4 #[.int .i64 a0] w fun e w' => e = .returned (.bool true) ∧ Below w.heap.size w w' := by
  have hb := bounds_i64 w0
  have hl := levList_len a0 (by omega) (by omega)
  have HL := Lib.hid (show ∀ w, Tab w → Calls Tryd.prog 11 #[.int .i64 a0] w fun e w' => e = .returned (.string (strOf (levList a0))) ∧ Below w.heap.size w w' from fun w hT => levelString_any a0 (by omega) (by omega) w hT)
  have HS := Lib.hid (show ∀ w, Calls Tryd.prog 13 #[.int .i64 a0] w fun e w' => e = .returned (.string (strOf (levList a0))) ∧ Below w.heap.size w w' from fun w => levelSpec_any a0 (by omega) (by omega) w)
  have hne := strOf_ne (levList a0) (by omega)
  clear w0
  by_cases c1 : 8 < a0
  · have hp := far_up a0 c1
    generalize levList a0 = L at *
    go_enter Tryd.func4, Tryd.ntmps4
    go_wp2_with fail
    refine (HL.out _ hT).mono ?_
    rintro e W1 ⟨rfl, hb1⟩
    go_wp2_with (first | (go_at_call 12; refine (begins_any L [69, 82, 82, 79, 82, 43] _ (by omega) (by decide)).mono ?_; rintro e w' ⟨rfl, rfl⟩) | (go_at_call 13; refine (HS.out _).mono ?_; rintro e W2 ⟨rfl, hb2⟩))
    go_ret
    exact ⟨rfl, Below.then_ hb1 hb2⟩
  · by_cases c2 : a0 < -4
    · have hp := far_down a0 c2
      generalize levList a0 = L at *
      go_enter Tryd.func4, Tryd.ntmps4
      go_wp2_with fail
      refine (HL.out _ hT).mono ?_
      rintro e W1 ⟨rfl, hb1⟩
      go_wp2_with (first | (go_at_call 12; refine (begins_any L [68, 69, 66, 85, 71, 45] _ (by omega) (by decide)).mono ?_; rintro e w' ⟨rfl, rfl⟩) | (go_at_call 13; refine (HS.out _).mono ?_; rintro e W2 ⟨rfl, hb2⟩))
      go_ret
      exact ⟨rfl, Below.then_ hb1 hb2⟩
    · obtain ⟨hp1, hp2⟩ := near a0 (by omega) (by omega)
      generalize levList a0 = L at *
      go_enter Tryd.func4, Tryd.ntmps4
      go_wp2_with fail
      refine (HL.out _ hT).mono ?_
      rintro e W1 ⟨rfl, hb1⟩
      go_wp2_with fail
      refine (begins_any L [69, 82, 82, 79, 82, 43] _ (by omega) (by decide)).mono ?_
      rintro e w' ⟨rfl, rfl⟩
      go_wp2_with fail
      refine (begins_any L [68, 69, 66, 85, 71, 45] _ (by omega) (by decide)).mono ?_
      rintro e w' ⟨rfl, rfl⟩
      go_wp2_with fail
      go_ret
      exact ⟨rfl, hb1⟩

set_option maxRecDepth 100000 in
theorem lifted (os : Os) (started : os.Started) (H : Type) (enc : TypeId × Value → H) :
    ReturnsInHanded {} Tryd.checked os 4 .any (fun w args => (Rows.fnLevelFarSpec.pre enc Tryd.prog Tryd.f4 [] false w args ∧ laidMetH Tryd.prog laid3 w) ∧ sizedMet enc Tryd.prog Tryd.f4 (OpenSpec.ofChange Rows.fnLevelFarSpec) false w args)
      (Rows.fnLevelFarSpec.post enc Tryd.prog Tryd.f4 false true false false) := by
  refine returnsInHanded_of_change_and (C := Tryd.checked) (X := fun w _ => laidMetH Tryd.prog laid3 w) (fun _ _ _ hh h => h.of_heap hh) own started (by kernel_rfl) Tryd.func4
    (ChangeSpec.witness_shaped (enc := enc) (C := Tryd.checked) (os := os) (X := fun w _ => laidMetH Tryd.prog laid3 w) false (World.doorLaid Tryd.prog 24 os) #[.int .i64 0] 8 rfl (World.shaped_of_RefB (by kernel_rfl) (by kernel_rfl)) (by kernel_rfl) (by kernel_rfl) (by kernel_rfl) (door_met os _)) ?_
  intro W base args ds gs before hval0 hW _ _ hL _
  have hval : ∀ (j : Nat) t v, Tryd.f4.params[j]? = some t → args[j]? = some v → Value.okWide Tryd.prog W .any base t v := hval0
  have hW' := hW
  obtain ⟨p, q, hA0, hV, rfl, hfz, hnd⟩ := hW
  have hA : DataW.TrodAll enc Tryd.prog W 0 (fun _ => true) true Tryd.f4.params.toList args.toList ds p := hA0
  rw [Tryd.params4] at hA hval
  obtain ⟨v0, vs0, d0, ds0, p0, q0, hargs, rfl, rfl, h0, r0⟩ := trodAll_cons hA
  obtain ⟨rfl, rfl, rfl⟩ := trodAll_nil r0
  obtain rfl : args = #[v0] := by cases args; simp_all
  obtain ⟨rfl, rfl⟩ := trodVars_none hV
  obtain ⟨a0, rfl, rfl, rfl, w0⟩ := open_int Tryd.underlying3 (hval 0 3 v0 rfl rfl) h0
  clear hA0 hval0
  simp only [List.append_nil] at hW'
  refine (walk a0 w0 W (tab_of_laid hL)).mono fun e W' ⟨he, hg⟩ => ?_
  subst he
  exact ⟨_, rfl, _, _, _, [], [], [], hW', trodAll_mk1 (shut_bool Tryd.underlying4 _), (trodAll_cons_mk (shut_int Tryd.underlying3 w0) trodAll_mk0), rfl, hg.frame _, fun h => by cases h⟩

theorem over : Rows.fnLevelFarRow.holds Tryd.pinned (OpenSpec.ofChange Rows.fnLevelFarSpec) :=
  OpenClaim.holds_of_wide 4 Tryd.f4 rfl rfl rfl rfl rfl rfl rfl ⟨rfl, rfl, rfl, rfl, rfl⟩ rfl rfl rfl rfl rfl (by kernel_rfl) Tryd.func4 (by kernel_rfl)
    (of_decide_eq_true (by kernel_rfl)) (by unfold Func.isWrapper; first | (rw [if_pos (by decide +kernel)]; kernel_rfl) | (rw [if_neg (by decide +kernel)]; exact ⟨rfl, rfl⟩))
    (fun os started H enc _ => lifted os started H enc)

theorem plain (f : FuncId) (fn : Func) (hf : Tryd.pinned.checked.prog.funcNamed "lib-fingerpost/laws.FnLevelFar" = some f) (hfn : Tryd.pinned.checked.prog.funcs[f]? = some fn) :
    false = Tryd.pinned.checked.prog.looks [] ∧ ∀ (j : Nat) t, fn.params[j]? = some t → Tryd.pinned.checked.prog.wantsStandIn t = false := by
  obtain rfl : f = 4 := Option.some.inj ((show Tryd.prog.funcNamed "lib-fingerpost/laws.FnLevelFar" = some 4 by kernel_rfl).symm.trans hf) |>.symm
  obtain rfl : fn = Tryd.f4 := (Option.some.inj (Tryd.func4.symm.trans hfn)).symm
  refine ⟨by kernel_rfl, fun j t ht => ?_⟩
  rw [Tryd.params4] at ht
  have hm : t ∈ [3] := by simpa using Array.mem_of_getElem? ht
  have hall : ([3].all fun u => !Tryd.prog.wantsStandIn u) = true := by kernel_rfl
  exact (show Tryd.prog.wantsStandIn t = false by simpa using List.all_eq_true.1 hall t hm)

/-- ████ THE CARD ████ -/
theorem proved : Rows.FnLevelFarCardSaid :=
  Claim7.holds_tied_plain_at .later [] _ _ _ _ over (fun _ h => by cases h) (by kernel_rfl) (fun _ h => by cases h) fnLevelFar_row_tie rfl ⟨rfl, rfl⟩ (by kernel_rfl) rfl plain (by kernel_rfl)
#print axioms proved
end Go.Proofs.YthnidaaenolndaaDoor.fnLevelFar
