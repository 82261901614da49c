/-
  Proved here: FnLevelJSONsApart returns true for every two ints, the library's tables laid as their initialisers lay them.
  The listed variables are tied to the program's text by the given tie; the frame follows the kit's worked proofs of tied cards; the walk is ours.
-/
import Derived.Test.YtahmahdfjiojjaaDoorCards
import Derived.Test.YtahmahdfjiojjaaDoorTie
import Derived.Test.YtahmahdfjiojjaaDoorTab10
import Derived.WalkKit
import Derived.ProofKit
import Derived.OpenShut
import Derived.LaidMore
import Derived.SevenTiedAt
import Derived.SizedLaws
import Derived.Stop.Joined
import Derived.Test.YtahmahdfjiojjaaDoorJson
import Derived.Test.YtahmahdfjiojjaaDoorApart
namespace Go.Proofs.YtahmahdfjiojjaaDoor.fnLevelJSONsApart
open Go.ChangeShapes Go.WideShapes Go.ChangeAt Go.WideMaps Go.WideElems Go.RowKit
open Go.ChangeMaps (open_string shut_string)
set_option linter.unusedVariables false

theorem json_apart (a b : Int) : ((strOf ([34] ++ levList a ++ [34])).toList == (strOf ([34] ++ levList b ++ [34])).toList) = (a == b) := by
  rw [ByteArray.toList_eq, ByteArray.toList_eq, Bool.eq_iff_iff, beq_iff_eq, beq_iff_eq, strOf_data, strOf_data]
  constructor
  · intro h
    exact lev_inj a b (List.append_cancel_left (List.append_cancel_right h))
  · intro h; rw [h]

/-- THE WALK: the Go text returns true; nothing that lay there has changed. -/
theorem walk (a0 : Int) (w0 : (Lit.int .i64 a0).wf = true) (a1 : Int) (w1 : (Lit.int .i64 a1).wf = true) (w : World) (hT : Tab w) :
    Calls Tryd.prog 3 #[.int .i64 a0, .int .i64 a1] w fun e w' => e = .returned (.bool true) ∧ Below w.heap.size w w' := by
  have hb := bounds_i64 w0
  have hc := bounds_i64 w1
  have HX := Lib.hid (levelJSON_any a0 (by omega) (by omega))
  have HY := Lib.hid (levelJSON_any a1 (by omega) (by omega))
  have hA := json_apart a0 a1
  clear w0 w1
  generalize strOf ([34] ++ levList a0 ++ [34]) = S at HX hA
  generalize strOf ([34] ++ levList a1 ++ [34]) = T at HY hA
  go_enter Tryd.func3, Tryd.ntmps3
  go_wp2_with fail
  refine (HX.out _ hT).mono ?_
  rintro e W1 ⟨rfl, hb1⟩
  go_wp2_with fail
  refine (HY.out _ (hT.stays hb1)).mono ?_
  rintro e W2 ⟨rfl, hb2⟩
  go_wp2_with fail
  go_ret
  exact ⟨rfl, Below.then_ hb1 hb2⟩

set_option maxRecDepth 100000 in
theorem lifted (os : Os) (started : os.Started) (H : Type) (enc : TypeId × Value → H) :
    ReturnsInHanded {} Tryd.checked os 3 .any (fun w args => (Rows.fnLevelJSONsApartSpec.pre enc Tryd.prog Tryd.f3 [] false w args ∧ laidMetH Tryd.prog laid10 w) ∧ sizedMet enc Tryd.prog Tryd.f3 (OpenSpec.ofChange Rows.fnLevelJSONsApartSpec) false w args)
      (Rows.fnLevelJSONsApartSpec.post enc Tryd.prog Tryd.f3 false true false false) := by
  refine returnsInHanded_of_change_and (C := Tryd.checked) (X := fun w _ => laidMetH Tryd.prog laid10 w) (fun _ _ _ hh h => h.of_heap hh) own started (by kernel_rfl) Tryd.func3
    (ChangeSpec.witness_shaped (enc := enc) (C := Tryd.checked) (os := os) (X := fun w _ => laidMetH Tryd.prog laid10 w) false (World.laidAll Tryd.prog os laid10) #[.int .i64 0, .int .i64 0] 8 (World.laidAll_os _ _ _) (World.shaped_of_ZipB (by kernel_rfl) (by kernel_rfl)) (by kernel_rfl) (by kernel_rfl) (by kernel_rfl) (all_met os _)) ?_
  intro W base args ds gs before hval0 hW _ _ hL _
  have hval : ∀ (j : Nat) t v, Tryd.f3.params[j]? = some t → args[j]? = some v → Value.okWide Tryd.prog W .any base t v := hval0
  have hW' := hW
  obtain ⟨p, q, hA0, hV, rfl, hfz, hnd⟩ := hW
  have hA : DataW.TrodAll enc Tryd.prog W 0 (fun _ => true) true Tryd.f3.params.toList args.toList ds p := hA0
  rw [Tryd.params3] at hA hval
  obtain ⟨v0, vs0, d0, ds0, p0, q0, hargs, rfl, rfl, h0, r0⟩ := trodAll_cons hA
  obtain ⟨v1, vs1, d1, ds1, p1, q1, rfl, rfl, rfl, h1, r1⟩ := trodAll_cons r0
  obtain ⟨rfl, rfl, rfl⟩ := trodAll_nil r1
  obtain rfl : args = #[v0, v1] := by cases args; simp_all
  obtain ⟨rfl, rfl⟩ := trodVars_none hV
  obtain ⟨a0, rfl, rfl, rfl, w0⟩ := open_int Tryd.underlying3 (hval 0 3 v0 rfl rfl) h0
  obtain ⟨a1, rfl, rfl, rfl, w1⟩ := open_int Tryd.underlying3 (hval 1 3 v1 rfl rfl) h1
  clear hA0 hval0
  simp only [List.append_nil] at hW'
  refine (walk a0 w0 a1 w1 W (tab_of_laid hL)).mono fun e W' ⟨he, hg⟩ => ?_
  subst he
  exact ⟨_, rfl, _, _, _, [], [], [], hW', trodAll_mk1 (shut_bool Tryd.underlying4 _), (trodAll_cons_mk (shut_int Tryd.underlying3 w0) (trodAll_cons_mk (shut_int Tryd.underlying3 w1) trodAll_mk0)), rfl, hg.frame _, fun h => by cases h⟩

theorem over : Rows.fnLevelJSONsApartRow.holds Tryd.pinned (OpenSpec.ofChange Rows.fnLevelJSONsApartSpec) :=
  OpenClaim.holds_of_wide 3 Tryd.f3 rfl rfl rfl rfl rfl rfl rfl ⟨rfl, rfl, rfl, rfl, rfl⟩ rfl rfl rfl rfl rfl (by kernel_rfl) Tryd.func3 (by kernel_rfl)
    (of_decide_eq_true (by kernel_rfl)) (by unfold Func.isWrapper; first | (rw [if_pos (by decide +kernel)]; kernel_rfl) | (rw [if_neg (by decide +kernel)]; exact ⟨rfl, rfl⟩))
    (fun os started H enc _ => lifted os started H enc)

theorem plain (f : FuncId) (fn : Func) (hf : Tryd.pinned.checked.prog.funcNamed "lib-fingerpost/laws.FnLevelJSONsApart" = some f) (hfn : Tryd.pinned.checked.prog.funcs[f]? = some fn) :
    false = Tryd.pinned.checked.prog.looks [] ∧ ∀ (j : Nat) t, fn.params[j]? = some t → Tryd.pinned.checked.prog.wantsStandIn t = false := by
  obtain rfl : f = 3 := Option.some.inj ((show Tryd.prog.funcNamed "lib-fingerpost/laws.FnLevelJSONsApart" = some 3 by kernel_rfl).symm.trans hf) |>.symm
  obtain rfl : fn = Tryd.f3 := (Option.some.inj (Tryd.func3.symm.trans hfn)).symm
  refine ⟨by kernel_rfl, fun j t ht => ?_⟩
  rw [Tryd.params3] at ht
  have hm : t ∈ [3, 3] := by simpa using Array.mem_of_getElem? ht
  have hall : ([3, 3].all fun u => !Tryd.prog.wantsStandIn u) = true := by kernel_rfl
  exact (show Tryd.prog.wantsStandIn t = false by simpa using List.all_eq_true.1 hall t hm)

/-- ████ THE CARD ████ -/
theorem proved : Rows.FnLevelJSONsApartCardSaid :=
  Claim7.holds_tied_plain_at .later [] _ _ _ _ over (fun _ h => by cases h) (by kernel_rfl) (fun _ h => by cases h) fnLevelJSONsApart_row_tie rfl ⟨rfl, rfl⟩ (by kernel_rfl) rfl plain (by kernel_rfl)
#print axioms proved
end Go.Proofs.YtahmahdfjiojjaaDoor.fnLevelJSONsApart
