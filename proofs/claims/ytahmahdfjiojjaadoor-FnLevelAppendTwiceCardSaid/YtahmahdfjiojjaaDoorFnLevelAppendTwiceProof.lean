/-
  Proved here: FnLevelAppendTwice returns true for every string and every two ints, the library's tables laid as their initialisers lay them.
  The listed variables are tied to the program's text by the given tie; the frame follows the kit's worked proofs of tied cards; the walk is ours.
-/
import Derived.Test.YtahmahdfjiojjaaDoorCards
import Derived.Test.YtahmahdfjiojjaaDoorTie
import Derived.Test.YtahmahdfjiojjaaDoorTabR
import Derived.WalkKit
import Derived.ProofKit
import Derived.OpenShut
import Derived.LaidMore
import Derived.SevenTiedAt
import Derived.SizedLaws
import Derived.Stop.Joined
import Derived.Test.YtahmahdfjiojjaaDoorApp
namespace Go.Proofs.YtahmahdfjiojjaaDoor.fnLevelAppendTwice
open Go.ChangeShapes Go.WideShapes Go.ChangeAt Go.WideMaps Go.WideElems Go.RowKit
open Go.ChangeMaps (open_string shut_string)
set_option linter.unusedVariables false


/-- THE WALK: the Go text returns true; nothing that lay there has changed. -/
theorem walk (s0 : ByteArray) (w0 : s0.size ≤ 140737488351232) (a1 : Int) (w1 : (Lit.int .i64 a1).wf = true) (a2 : Int) (w2 : (Lit.int .i64 a2).wf = true) (w : World) (hT : Tab w) :
    Calls Tryd.prog 8 #[.string s0, .int .i64 a1, .int .i64 a2] w fun e w' => e = .returned (.bool true) ∧ Below w.heap.size w w' := by
  have hb := bounds_i64 w1
  have hc := bounds_i64 w2
  have hl := levList_len a1 (by omega) (by omega)
  have hm := levList_len a2 (by omega) (by omega)
  have hsd : s0.data.toList.length = s0.size := Array.length_toList
  have HX := Lib.hid (fun w hT => (strOf_eta s0) ▸ levelAppend_any s0.data.toList (by omega) a1 (by omega) (by omega) w hT)
  have HY := Lib.hid (fun w hT => levelAppend_any (s0.data.toList ++ levList a1) (by rw [List.length_append]; omega) a2 (by omega) (by omega) w hT)
  have HZ := Lib.hid (show ∀ w, Tab w → Calls Tryd.prog 18 #[.string ⟨#[]⟩, .int .i64 a2] w fun e w' => e = .returned (.tuple #[.string (strOf (levList a2)), .bool true]) ∧ Below w.heap.size w w' from fun w hT => levelAppend_any [] (by simp) a2 (by omega) (by omega) w hT)
  have hadd : ∀ W, (Op.stringOp .add (strOf (s0.data.toList ++ levList a1)) (strOf (levList a2))).run Tryd.prog W = .ok (.string (strOf (s0.data.toList ++ levList a1 ++ levList a2))) W := fun W => add_big Tryd.prog W (strOf (s0.data.toList ++ levList a1)) (levList a2) (by rw [strOf_size, List.length_append]; omega) (by omega)
  have hlz := strOf_size (levList a2)
  have hgt : decide (0 < (strOf (levList a2)).size) = true := decide_eq_true (by omega)
  clear w1 w2 hsd hlz hl hm
  generalize strOf (s0.data.toList ++ levList a1 ++ levList a2) = U at *
  generalize strOf (s0.data.toList ++ levList a1) = T at *
  generalize strOf (levList a2) = V at *
  go_enter Tryd.func8, Tryd.ntmps8
  go_wp2_with fail
  refine (HX.out _ hT).mono ?_
  rintro e W1 ⟨rfl, hb1⟩
  have T1 := hT.stays hb1
  go_wp2_with fail
  refine (HY.out _ T1).mono ?_
  rintro e W2 ⟨rfl, hb2⟩
  have T2 := T1.stays hb2
  go_wp2_with fail
  refine (HZ.out _ T2).mono ?_
  rintro e W3 ⟨rfl, hb3⟩
  go_wp2_with fail
  go_ret
  exact ⟨rfl, Below.then_ (Below.then_ hb1 hb2) hb3⟩

set_option maxRecDepth 100000 in
theorem lifted (os : Os) (started : os.Started) (H : Type) (enc : TypeId × Value → H) :
    ReturnsInHanded {} Tryd.checked os 8 .any (fun w args => (Rows.fnLevelAppendTwiceSpec.pre enc Tryd.prog Tryd.f8 [] false w args ∧ laidMetH Tryd.prog laid3 w) ∧ sizedMet enc Tryd.prog Tryd.f8 (OpenSpec.ofChange Rows.fnLevelAppendTwiceSpec) false w args)
      (Rows.fnLevelAppendTwiceSpec.post enc Tryd.prog Tryd.f8 false true false false) := by
  refine returnsInHanded_of_change_and (C := Tryd.checked) (X := fun w _ => laidMetH Tryd.prog laid3 w) (fun _ _ _ hh h => h.of_heap hh) own started (by kernel_rfl) Tryd.func8
    (ChangeSpec.witness_shaped (enc := enc) (C := Tryd.checked) (os := os) (X := fun w _ => laidMetH Tryd.prog laid3 w) false (World.doorLaid Tryd.prog 34 os) #[.string ByteArray.empty, .int .i64 0, .int .i64 0] 8 rfl (World.shaped_of_RefB (by kernel_rfl) (by kernel_rfl)) (by kernel_rfl) (by kernel_rfl) (by kernel_rfl) (door_met os _)) ?_
  intro W base args ds gs before hval0 hW _ hsz0 hL _
  have hval : ∀ (j : Nat) t v, Tryd.f8.params[j]? = some t → args[j]? = some v → Value.okWide Tryd.prog W .any base t v := hval0
  have hW' := hW
  obtain ⟨p, q, hA0, hV, rfl, hfz, hnd⟩ := hW
  have hA : DataW.TrodAll enc Tryd.prog W 0 (fun _ => true) true Tryd.f8.params.toList args.toList ds p := hA0
  have hsz : (DataW.weightsEach Tryd.prog (Tryd.f8.params.toList ++ Rows.fnLevelAppendTwiceSpec.plain.varTypes Tryd.prog) (ds ++ gs)).all (· ≤ reachBytes) = true := hsz0
  rw [Tryd.params8] at hA hval hsz
  obtain ⟨v0, vs0, d0, ds0, p0, q0, hargs, rfl, rfl, h0, r0⟩ := trodAll_cons hA
  obtain ⟨v1, vs1, d1, ds1, p1, q1, rfl, rfl, rfl, h1, r1⟩ := trodAll_cons r0
  obtain ⟨v2, vs2, d2, ds2, p2, q2, rfl, rfl, rfl, h2, r2⟩ := trodAll_cons r1
  obtain ⟨rfl, rfl, rfl⟩ := trodAll_nil r2
  obtain rfl : args = #[v0, v1, v2] := by cases args; simp_all
  obtain ⟨rfl, rfl⟩ := trodVars_none hV
  obtain ⟨s0, rfl, rfl, rfl, y0⟩ := open_string Tryd.underlying9 (hval 0 9 v0 rfl rfl) h0
  obtain ⟨a1, rfl, rfl, rfl, w1⟩ := open_int Tryd.underlying3 (hval 1 3 v1 rfl rfl) h1
  obtain ⟨a2, rfl, rfl, rfl, w2⟩ := open_int Tryd.underlying3 (hval 2 3 v2 rfl rfl) h2
  have w0 : s0.size ≤ 140737488351232 := by
    have hx : s0.data.toList.length ≤ reachBytes := sized_string hsz (j := 0) (t := 9) rfl rfl
    have hy : s0.size = s0.data.toList.length := Array.length_toList.symm
    have hz : reachBytes = 140737488351232 := by decide
    omega
  clear hA0 hval0
  simp only [List.append_nil] at hW'
  refine (walk s0 w0 a1 w1 a2 w2 W (tab_of_laid hL)).mono fun e W' ⟨he, hg⟩ => ?_
  subst he
  exact ⟨_, rfl, _, _, _, [], [], [], hW', trodAll_mk1 (shut_bool Tryd.underlying4 _), (trodAll_cons_mk (shut_string Tryd.underlying9 y0) (trodAll_cons_mk (shut_int Tryd.underlying3 w1) (trodAll_cons_mk (shut_int Tryd.underlying3 w2) trodAll_mk0))), rfl, hg.frame _, fun h => by cases h⟩

theorem over : Rows.fnLevelAppendTwiceRow.holds Tryd.pinned (OpenSpec.ofChange Rows.fnLevelAppendTwiceSpec) :=
  OpenClaim.holds_of_wide 8 Tryd.f8 rfl rfl rfl rfl rfl rfl rfl ⟨rfl, rfl, rfl, rfl, rfl⟩ rfl rfl rfl rfl rfl (by kernel_rfl) Tryd.func8 (by kernel_rfl)
    (of_decide_eq_true (by kernel_rfl)) (by unfold Func.isWrapper; first | (rw [if_pos (by decide +kernel)]; kernel_rfl) | (rw [if_neg (by decide +kernel)]; exact ⟨rfl, rfl⟩))
    (fun os started H enc _ => lifted os started H enc)

theorem plain (f : FuncId) (fn : Func) (hf : Tryd.pinned.checked.prog.funcNamed "lib-fingerpost/laws.FnLevelAppendTwice" = some f) (hfn : Tryd.pinned.checked.prog.funcs[f]? = some fn) :
    false = Tryd.pinned.checked.prog.looks [] ∧ ∀ (j : Nat) t, fn.params[j]? = some t → Tryd.pinned.checked.prog.wantsStandIn t = false := by
  obtain rfl : f = 8 := Option.some.inj ((show Tryd.prog.funcNamed "lib-fingerpost/laws.FnLevelAppendTwice" = some 8 by kernel_rfl).symm.trans hf) |>.symm
  obtain rfl : fn = Tryd.f8 := (Option.some.inj (Tryd.func8.symm.trans hfn)).symm
  refine ⟨by kernel_rfl, fun j t ht => ?_⟩
  rw [Tryd.params8] at ht
  have hm : t ∈ [9, 3, 3] := by simpa using Array.mem_of_getElem? ht
  have hall : ([9, 3, 3].all fun u => !Tryd.prog.wantsStandIn u) = true := by kernel_rfl
  exact (show Tryd.prog.wantsStandIn t = false by simpa using List.all_eq_true.1 hall t hm)

/-- ████ THE CARD ████ -/
theorem proved : Rows.FnLevelAppendTwiceCardSaid :=
  Claim7.holds_tied_plain_at .later [] _ _ _ _ over (fun _ h => by cases h) (by kernel_rfl) (fun _ h => by cases h) fnLevelAppendTwice_row_tie rfl ⟨rfl, rfl⟩ (by kernel_rfl) rfl plain (by kernel_rfl)
#print axioms proved
end Go.Proofs.YtahmahdfjiojjaaDoor.fnLevelAppendTwice
