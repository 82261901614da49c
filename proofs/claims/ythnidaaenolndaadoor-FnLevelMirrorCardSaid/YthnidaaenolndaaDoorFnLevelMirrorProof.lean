/-
  Proved here: FnLevelMirror returns true for every int, the library's tables laid as their initialisers lay them.
  The listed variables are tied to the program's text by the given tie; the frame follows the kit's worked proofs of tied cards; the walk is ours.
-/
import Derived.Test.YthnidaaenolndaaDoorCards
import Derived.Test.YthnidaaenolndaaDoorTie
import Derived.Test.YthnidaaenolndaaDoorTab3
import Derived.WalkKit
import Derived.ProofKit
import Derived.OpenShut
import Derived.LaidMore
import Derived.SevenTiedAt
import Derived.SizedLaws
import Derived.Stop.Joined
import Derived.Test.YthnidaaenolndaaDoorBeg
import Derived.Deep.QuietTactic
import Derived.BigQuiet
import Derived.Deep.RegionWith
namespace Go.Proofs.YthnidaaenolndaaDoor.fnLevelMirror
open Go.ChangeShapes Go.WideShapes Go.ChangeAt Go.WideMaps Go.WideElems Go.RowKit
open Go.ChangeMaps (open_string shut_string)
set_option linter.unusedVariables false

theorem quiet_same {P : Program} {f : FuncId} {args : Array Value} {w : World} {n : Nat} {v : Value}
    (h : Calls P f args (w.drewN n) fun e w' => e = .returned v ∧ w.drewN n = w') : Calls P f args (w.drewN n) fun e w'' => e = .returned v ∧ ∃ m, w'' = w.drewN m :=
  h.mono fun _ _ ⟨he, hm⟩ => ⟨he, n, hm.symm⟩
theorem down (n : Int) (k : Nat) (hk : n = (k : Int)) (h : 1 ≤ n) : levList (-4 - n) = [68, 69, 66, 85, 71, 45] ++ Lib.decDigits k := by
  rw [levList_eq, levName, levOff, if_pos (by omega), if_pos (by omega), offS_minus (-4 - n + 4) k (by omega) (by omega)]; rfl
theorem up (n : Int) (k : Nat) (hk : n = (k : Int)) (h : 1 ≤ n) : levList (8 + n) = [69, 82, 82, 79, 82, 43] ++ Lib.decDigits k := by
  rw [levList_eq, levName, levOff, if_neg (by omega), if_neg (by omega), if_neg (by omega), if_neg (by omega), if_neg (by omega), if_neg (by omega), offS_plus (8 + n - 8) k (by omega) (by omega)]; rfl
theorem tail_of (a D : List UInt8) (ha : a.length = 6) : ((strOf (a ++ D)).extract 6 (strOf (a ++ D)).size).toList = D := by
  rw [ByteArray.toList_eq, strOf_size]
  have e : (a ++ D).length = 6 + D.length := by rw [List.length_append, ha]
  rw [e]
  simp [strOf, ha]
set_option maxHeartbeats 400000 in
theorem mirror (n : Int) (h0 : 1 ≤ n) (h1 : n ≤ 4611686018427387904) (w : World) (hT : Tab w) : Calls Tryd.prog 5 #[.int .i64 n] w fun e w' => e = .returned (.bool true) ∧ Below w.heap.size w w' := by
  obtain ⟨k, hk⟩ : ∃ k : Nat, n = (k : Int) := ⟨n.toNat, by omega⟩
  have l1 := levList_len (-4 - n) (by omega) (by omega)
  have l2 := levList_len (8 + n) (by omega) (by omega)
  have HD := Lib.hid (show ∀ w, Tab w → Calls Tryd.prog 11 #[.int .i64 (-4 - n)] w fun e w' => e = .returned (.string (strOf (levList (-4 - n)))) ∧ Below w.heap.size w w' from fun w hT => levelString_any (-4 - n) (by omega) (by omega) w hT)
  have HU := Lib.hid (show ∀ w, Tab w → Calls Tryd.prog 11 #[.int .i64 (8 + n)] w fun e w' => e = .returned (.string (strOf (levList (8 + n)))) ∧ Below w.heap.size w w' from fun w hT => levelString_any (8 + n) (by omega) (by omega) w hT)
  have HB1 := Lib.hid (show ∀ w, Calls Tryd.prog 12 #[.string (strOf (levList (-4 - n))), .string ⟨#[68, 69, 66, 85, 71, 45]⟩] w fun e w' => e = .returned (.bool true) ∧ w = w' from fun w => by
    have := begins_any (levList (-4 - n)) [68, 69, 66, 85, 71, 45] w (by omega) (by decide)
    rw [show pre [68, 69, 66, 85, 71, 45] (levList (-4 - n)) = true from by rw [down n k hk h0]; exact pre_append _ _] at this
    exact this)
  have HB2 := Lib.hid (show ∀ w, Calls Tryd.prog 12 #[.string (strOf (levList (8 + n))), .string ⟨#[69, 82, 82, 79, 82, 43]⟩] w fun e w' => e = .returned (.bool true) ∧ w = w' from fun w => by
    have := begins_any (levList (8 + n)) [69, 82, 82, 79, 82, 43] w (by omega) (by decide)
    rw [show pre [69, 82, 82, 79, 82, 43] (levList (8 + n)) = true from by rw [up n k hk h0]; exact pre_append _ _] at this
    exact this)
  obtain ⟨S, hS⟩ : ∃ S, S = strOf (levList (-4 - n)) := ⟨_, rfl⟩
  obtain ⟨T, hTT⟩ : ∃ T, T = strOf (levList (8 + n)) := ⟨_, rfl⟩
  have hE : ((S.extract 6 S.size).toList == (T.extract 6 T.size).toList) = true := by
    rw [hS, hTT, down n k hk h0, up n k hk h0, tail_of _ _ rfl, tail_of _ _ rfl]; simp
  have hz1 : 6 ≤ S.size := by rw [hS, strOf_size, down n k hk h0]; simp
  have hz2 : 6 ≤ T.size := by rw [hTT, strOf_size, up n k hk h0]; simp
  have hz3 : S.size ≤ 1000 := by rw [hS, strOf_size]; omega
  have hz4 : T.size ≤ 1000 := by rw [hTT, strOf_size]; omega
  have z1 : (6 : Int) ≤ (S.size : Int) := by omega
  have z2 : (6 : Int) ≤ (T.size : Int) := by omega
  rw [← hS] at HD HB1
  rw [← hTT] at HU HB2
  clear hS hTT hk l1 l2
  go_enter Tryd.func5, Tryd.ntmps5
  go_wp2_with fail
  refine (HD.out _ hT).mono ?_
  rintro e W1 ⟨rfl, hb1⟩
  go_wp2_with fail
  refine (HU.out _ (hT.stays hb1)).mono ?_
  rintro e W2 ⟨rfl, hb2⟩
  have B2 := Below.then_ hb1 hb2
  clear hb1 hb2
  go_wp2_with fail
  go_quiet (first | (go_at_call_of 12 (Value.string S); exact quiet_same (HB1.out _)) | (go_at_call_of 12 (Value.string T); exact quiet_same (HB2.out _)))
  go_wp2_with fail
  go_ret
  exact ⟨rfl, B2.trans ⟨rfl, rfl, rfl, Nat.le_refl _, fun _ _ => rfl⟩⟩

/-- THE WALK: the Go text returns true; nothing that lay there has changed. -/
theorem walk (a0 : Int) (w0 : (Lit.int .i64 a0).wf = true) (w : World) (hT : Tab w) :
    Calls Tryd.prog 5 #[.int .i64 a0] w fun e w' => e = .returned (.bool true) ∧ Below w.heap.size w w' := by
  have hb := bounds_i64 w0
  clear w0
  by_cases c1 : a0 < 1
  · go_enter Tryd.func5, Tryd.ntmps5
    go_wp2_with fail
    go_ret
    exact ⟨rfl, Below.refl _ _⟩
  · by_cases c2 : 4611686018427387904 < a0
    · go_enter Tryd.func5, Tryd.ntmps5
      go_wp2_with fail
      go_ret
      exact ⟨rfl, Below.refl _ _⟩
    · exact mirror a0 (by omega) (by omega) w hT

set_option maxRecDepth 100000 in
theorem lifted (os : Os) (started : os.Started) (H : Type) (enc : TypeId × Value → H) :
    ReturnsInHanded {} Tryd.checked os 5 .any (fun w args => (Rows.fnLevelMirrorSpec.pre enc Tryd.prog Tryd.f5 [] false w args ∧ laidMetH Tryd.prog laid3 w) ∧ sizedMet enc Tryd.prog Tryd.f5 (OpenSpec.ofChange Rows.fnLevelMirrorSpec) false w args)
      (Rows.fnLevelMirrorSpec.post enc Tryd.prog Tryd.f5 false true false false) := by
  refine returnsInHanded_of_change_and (C := Tryd.checked) (X := fun w _ => laidMetH Tryd.prog laid3 w) (fun _ _ _ hh h => h.of_heap hh) own started (by kernel_rfl) Tryd.func5
    (ChangeSpec.witness_shaped (enc := enc) (C := Tryd.checked) (os := os) (X := fun w _ => laidMetH Tryd.prog laid3 w) false (World.doorLaid Tryd.prog 24 os) #[.int .i64 0] 8 rfl (World.shaped_of_RefB (by kernel_rfl) (by kernel_rfl)) (by kernel_rfl) (by kernel_rfl) (by kernel_rfl) (door_met os _)) ?_
  intro W base args ds gs before hval0 hW _ _ hL _
  have hval : ∀ (j : Nat) t v, Tryd.f5.params[j]? = some t → args[j]? = some v → Value.okWide Tryd.prog W .any base t v := hval0
  have hW' := hW
  obtain ⟨p, q, hA0, hV, rfl, hfz, hnd⟩ := hW
  have hA : DataW.TrodAll enc Tryd.prog W 0 (fun _ => true) true Tryd.f5.params.toList args.toList ds p := hA0
  rw [Tryd.params5] at hA hval
  obtain ⟨v0, vs0, d0, ds0, p0, q0, hargs, rfl, rfl, h0, r0⟩ := trodAll_cons hA
  obtain ⟨rfl, rfl, rfl⟩ := trodAll_nil r0
  obtain rfl : args = #[v0] := by cases args; simp_all
  obtain ⟨rfl, rfl⟩ := trodVars_none hV
  obtain ⟨a0, rfl, rfl, rfl, w0⟩ := open_int Tryd.underlying3 (hval 0 3 v0 rfl rfl) h0
  clear hA0 hval0
  simp only [List.append_nil] at hW'
  refine (walk a0 w0 W (tab_of_laid hL)).mono fun e W' ⟨he, hg⟩ => ?_
  subst he
  exact ⟨_, rfl, _, _, _, [], [], [], hW', trodAll_mk1 (shut_bool Tryd.underlying4 _), (trodAll_cons_mk (shut_int Tryd.underlying3 w0) trodAll_mk0), rfl, hg.frame _, fun h => by cases h⟩

theorem over : Rows.fnLevelMirrorRow.holds Tryd.pinned (OpenSpec.ofChange Rows.fnLevelMirrorSpec) :=
  OpenClaim.holds_of_wide 5 Tryd.f5 rfl rfl rfl rfl rfl rfl rfl ⟨rfl, rfl, rfl, rfl, rfl⟩ rfl rfl rfl rfl rfl (by kernel_rfl) Tryd.func5 (by kernel_rfl)
    (of_decide_eq_true (by kernel_rfl)) (by unfold Func.isWrapper; first | (rw [if_pos (by decide +kernel)]; kernel_rfl) | (rw [if_neg (by decide +kernel)]; exact ⟨rfl, rfl⟩))
    (fun os started H enc _ => lifted os started H enc)

theorem plain (f : FuncId) (fn : Func) (hf : Tryd.pinned.checked.prog.funcNamed "lib-fingerpost/laws.FnLevelMirror" = some f) (hfn : Tryd.pinned.checked.prog.funcs[f]? = some fn) :
    false = Tryd.pinned.checked.prog.looks [] ∧ ∀ (j : Nat) t, fn.params[j]? = some t → Tryd.pinned.checked.prog.wantsStandIn t = false := by
  obtain rfl : f = 5 := Option.some.inj ((show Tryd.prog.funcNamed "lib-fingerpost/laws.FnLevelMirror" = some 5 by kernel_rfl).symm.trans hf) |>.symm
  obtain rfl : fn = Tryd.f5 := (Option.some.inj (Tryd.func5.symm.trans hfn)).symm
  refine ⟨by kernel_rfl, fun j t ht => ?_⟩
  rw [Tryd.params5] at ht
  have hm : t ∈ [3] := by simpa using Array.mem_of_getElem? ht
  have hall : ([3].all fun u => !Tryd.prog.wantsStandIn u) = true := by kernel_rfl
  exact (show Tryd.prog.wantsStandIn t = false by simpa using List.all_eq_true.1 hall t hm)

/-- ████ THE CARD ████ -/
theorem proved : Rows.FnLevelMirrorCardSaid :=
  Claim7.holds_tied_plain_at .later [] _ _ _ _ over (fun _ h => by cases h) (by kernel_rfl) (fun _ h => by cases h) fnLevelMirror_row_tie rfl ⟨rfl, rfl⟩ (by kernel_rfl) rfl plain (by kernel_rfl)
#print axioms proved
end Go.Proofs.YthnidaaenolndaaDoor.fnLevelMirror
