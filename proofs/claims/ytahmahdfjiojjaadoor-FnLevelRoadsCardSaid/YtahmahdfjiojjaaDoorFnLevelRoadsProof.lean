/-
  Proved here: FnLevelRoads returns true for every int, the library's tables laid as their initialisers lay them.
  The listed variables are tied to the program's text by the given tie; the frame follows the kit's worked proofs of tied cards; the walk is ours.
-/
import Derived.Test.YtahmahdfjiojjaaDoorCards
import Derived.Test.YtahmahdfjiojjaaDoorTie
import Derived.Test.YtahmahdfjiojjaaDoorTab10
import Derived.WalkKit
import Derived.ProofKit
import Derived.OpenShut
import Derived.LaidMore
import Derived.SevenTiedAt
import Derived.SizedLaws
import Derived.Stop.Joined
import Derived.Test.YtahmahdfjiojjaaDoorJson
namespace Go.Proofs.YtahmahdfjiojjaaDoor.fnLevelRoads
open Go.ChangeShapes Go.WideShapes Go.ChangeAt Go.WideMaps Go.WideElems Go.RowKit
open Go.ChangeMaps (open_string shut_string)
set_option linter.unusedVariables false

theorem j_first (L : List UInt8) (h : 0 < (strOf ([34] ++ L ++ [34])).size) : ((strOf ([34] ++ L ++ [34]))[0]).toNat = 34 := rfl
theorem j_last (L : List UInt8) (k : Nat) (hk : k = L.length + 1) (h : k < (strOf ([34] ++ L ++ [34])).size) : ((strOf ([34] ++ L ++ [34]))[k]).toNat = 34 := by
  subst hk
  have e : (strOf ([34] ++ L ++ [34]))[L.length + 1]'h = ([34] ++ L ++ [34])[L.length + 1]'(by simp) := rfl
  rw [e]
  have : ([34] ++ L ++ [34])[L.length + 1]'(by simp) = 34 := by
    rw [List.getElem_append_right (by simp)]
    simp
  rw [this]; rfl
theorem j_mid (L : List UInt8) : ((strOf ([34] ++ L ++ [34])).extract 1 ((strOf ([34] ++ L ++ [34])).size - 1)).toList = (strOf L).toList := by
  rw [ByteArray.toList_eq, ByteArray.toList_eq, strOf_size, strOf_data]
  have e : ([34] ++ L ++ [34]).length - 1 = 1 + L.length := by simp; omega
  rw [e]
  simp [strOf]

/-- THE WALK: the Go text returns true; nothing that lay there has changed. -/
theorem walk (a0 : Int) (w0 : (Lit.int .i64 a0).wf = true) (w : World) (hT : Tab w) :
    Calls Tryd.prog 5 #[.int .i64 a0] w fun e w' => e = .returned (.bool true) ∧ Below w.heap.size w w' := by
  have hb := bounds_i64 w0
  have hl := levList_len a0 (by omega) (by omega)
  have HX := Lib.hid (levelText_any a0 (by omega) (by omega))
  have HY := Lib.hid (show ∀ w, Tab w → Calls Tryd.prog 18 #[.string ⟨#[]⟩, .int .i64 a0] w fun e w' => e = .returned (.tuple #[.string (strOf (levList a0)), .bool true]) ∧ Below w.heap.size w w' from fun w hT => levelAppend_any [] (by simp) a0 (by omega) (by omega) w hT)
  have HZ := Lib.hid (levelJSON_any a0 (by omega) (by omega))
  clear w0
  generalize levList a0 = L at HX HY HZ hl
  have hsz : (strOf ([34] ++ L ++ [34])).size = L.length + 2 := by rw [strOf_size]; simp
  have hj : 6 ≤ (strOf ([34] ++ L ++ [34])).size ∧ (strOf ([34] ++ L ++ [34])).size ≤ 100 := by omega
  have hd : decide (2 < (strOf ([34] ++ L ++ [34])).size) = true := decide_eq_true (by omega)
  have hj0 : 0 < (strOf ([34] ++ L ++ [34])).size := by omega
  have hj1 : (strOf ([34] ++ L ++ [34])).size - 1 < (strOf ([34] ++ L ++ [34])).size := by omega
  have q1 : (((strOf ([34] ++ L ++ [34]))[0]'hj0).toNat : Int) = 34 := by rw [j_first]; rfl
  have q2 : (((strOf ([34] ++ L ++ [34]))[(strOf ([34] ++ L ++ [34])).size - 1]'hj1).toNat : Int) = 34 := by rw [j_last L _ (by omega)]; rfl
  have q3 : (((strOf ([34] ++ L ++ [34])).extract 1 ((strOf ([34] ++ L ++ [34])).size - 1)).toList == (strOf L).toList) = true := by rw [j_mid]; simp
  clear hsz hl
  generalize strOf ([34] ++ L ++ [34]) = J at *
  generalize strOf L = S at *
  go_enter Tryd.func5, Tryd.ntmps5
  go_wp2_with fail
  refine (HX.out _ hT).mono ?_
  rintro e W1 ⟨rfl, hb1⟩
  have T1 := hT.stays hb1
  go_wp2_with fail
  refine (HY.out _ T1).mono ?_
  rintro e W2 ⟨rfl, hb2⟩
  have T2 := T1.stays hb2
  go_wp2_with fail
  refine (HZ.out _ T2).mono ?_
  rintro e W3 ⟨rfl, hb3⟩
  go_wp2_with fail
  go_ret
  exact ⟨rfl, Below.then_ (Below.then_ hb1 hb2) hb3⟩
  exfalso; omega

set_option maxRecDepth 100000 in
theorem lifted (os : Os) (started : os.Started) (H : Type) (enc : TypeId × Value → H) :
    ReturnsInHanded {} Tryd.checked os 5 .any (fun w args => (Rows.fnLevelRoadsSpec.pre enc Tryd.prog Tryd.f5 [] false w args ∧ laidMetH Tryd.prog laid10 w) ∧ sizedMet enc Tryd.prog Tryd.f5 (OpenSpec.ofChange Rows.fnLevelRoadsSpec) false w args)
      (Rows.fnLevelRoadsSpec.post enc Tryd.prog Tryd.f5 false true false false) := by
  refine returnsInHanded_of_change_and (C := Tryd.checked) (X := fun w _ => laidMetH Tryd.prog laid10 w) (fun _ _ _ hh h => h.of_heap hh) own started (by kernel_rfl) Tryd.func5
    (ChangeSpec.witness_shaped (enc := enc) (C := Tryd.checked) (os := os) (X := fun w _ => laidMetH Tryd.prog laid10 w) false (World.laidAll Tryd.prog os laid10) #[.int .i64 0] 8 (World.laidAll_os _ _ _) (World.shaped_of_ZipB (by kernel_rfl) (by kernel_rfl)) (by kernel_rfl) (by kernel_rfl) (by kernel_rfl) (all_met os _)) ?_
  intro W base args ds gs before hval0 hW _ _ hL _
  have hval : ∀ (j : Nat) t v, Tryd.f5.params[j]? = some t → args[j]? = some v → Value.okWide Tryd.prog W .any base t v := hval0
  have hW' := hW
  obtain ⟨p, q, hA0, hV, rfl, hfz, hnd⟩ := hW
  have hA : DataW.TrodAll enc Tryd.prog W 0 (fun _ => true) true Tryd.f5.params.toList args.toList ds p := hA0
  rw [Tryd.params5] at hA hval
  obtain ⟨v0, vs0, d0, ds0, p0, q0, hargs, rfl, rfl, h0, r0⟩ := trodAll_cons hA
  obtain ⟨rfl, rfl, rfl⟩ := trodAll_nil r0
  obtain rfl : args = #[v0] := by cases args; simp_all
  obtain ⟨rfl, rfl⟩ := trodVars_none hV
  obtain ⟨a0, rfl, rfl, rfl, w0⟩ := open_int Tryd.underlying3 (hval 0 3 v0 rfl rfl) h0
  clear hA0 hval0
  simp only [List.append_nil] at hW'
  refine (walk a0 w0 W (tab_of_laid hL)).mono fun e W' ⟨he, hg⟩ => ?_
  subst he
  exact ⟨_, rfl, _, _, _, [], [], [], hW', trodAll_mk1 (shut_bool Tryd.underlying4 _), (trodAll_cons_mk (shut_int Tryd.underlying3 w0) trodAll_mk0), rfl, hg.frame _, fun h => by cases h⟩

theorem over : Rows.fnLevelRoadsRow.holds Tryd.pinned (OpenSpec.ofChange Rows.fnLevelRoadsSpec) :=
  OpenClaim.holds_of_wide 5 Tryd.f5 rfl rfl rfl rfl rfl rfl rfl ⟨rfl, rfl, rfl, rfl, rfl⟩ rfl rfl rfl rfl rfl (by kernel_rfl) Tryd.func5 (by kernel_rfl)
    (of_decide_eq_true (by kernel_rfl)) (by unfold Func.isWrapper; first | (rw [if_pos (by decide +kernel)]; kernel_rfl) | (rw [if_neg (by decide +kernel)]; exact ⟨rfl, rfl⟩))
    (fun os started H enc _ => lifted os started H enc)

theorem plain (f : FuncId) (fn : Func) (hf : Tryd.pinned.checked.prog.funcNamed "lib-fingerpost/laws.FnLevelRoads" = some f) (hfn : Tryd.pinned.checked.prog.funcs[f]? = some fn) :
    false = Tryd.pinned.checked.prog.looks [] ∧ ∀ (j : Nat) t, fn.params[j]? = some t → Tryd.pinned.checked.prog.wantsStandIn t = false := by
  obtain rfl : f = 5 := Option.some.inj ((show Tryd.prog.funcNamed "lib-fingerpost/laws.FnLevelRoads" = some 5 by kernel_rfl).symm.trans hf) |>.symm
  obtain rfl : fn = Tryd.f5 := (Option.some.inj (Tryd.func5.symm.trans hfn)).symm
  refine ⟨by kernel_rfl, fun j t ht => ?_⟩
  rw [Tryd.params5] at ht
  have hm : t ∈ [3] := by simpa using Array.mem_of_getElem? ht
  have hall : ([3].all fun u => !Tryd.prog.wantsStandIn u) = true := by kernel_rfl
  exact (show Tryd.prog.wantsStandIn t = false by simpa using List.all_eq_true.1 hall t hm)

/-- ████ THE CARD ████ -/
theorem proved : Rows.FnLevelRoadsCardSaid :=
  Claim7.holds_tied_plain_at .later [] _ _ _ _ over (fun _ h => by cases h) (by kernel_rfl) (fun _ h => by cases h) fnLevelRoads_row_tie rfl ⟨rfl, rfl⟩ (by kernel_rfl) rfl plain (by kernel_rfl)
#print axioms proved
end Go.Proofs.YtahmahdfjiojjaaDoor.fnLevelRoads
