/-
  Proved here: FnLevelBetween returns true for every int, the library's tables laid as their initialisers lay them.
  The listed variables are tied to the program's text by the given tie; the frame follows the kit's worked proofs of tied cards; the walk is ours.
-/
import Derived.Test.YthnidaaenolndaaDoorCards
import Derived.Test.YthnidaaenolndaaDoorTie
import Derived.Test.YthnidaaenolndaaDoorTab3
import Derived.WalkKit
import Derived.ProofKit
import Derived.OpenShut
import Derived.LaidMore
import Derived.SevenTiedAt
import Derived.SizedLaws
import Derived.Stop.Joined
import Derived.Test.YthnidaaenolndaaDoorBeg
namespace Go.Proofs.YthnidaaenolndaaDoor.fnLevelBetween
open Go.ChangeShapes Go.WideShapes Go.ChangeAt Go.WideMaps Go.WideElems Go.RowKit
open Go.ChangeMaps (open_string shut_string)
set_option linter.unusedVariables false

/-- One, two or three above a name that is not the greatest one. -/
theorem above (l : Int) (o : Nat) (h0 : -4 ≤ l - o) (h1 : l < 8) (ho : o < 4) (hm : (l - o) % 4 = 0) : levList l = levList (l - o) ++ offS (o : Int) := by
  rw [levList_eq, levList_eq]
  have hd : l - o = -4 ∨ l - o = 0 ∨ l - o = 4 := by omega
  rcases hd with h | h | h
  · have e : l = (o : Int) - 4 := by omega
    have n1 : levName l = nameD := by rw [levName, if_pos (by omega)]
    have o1 : levOff l = (o : Int) := by rw [levOff, if_pos (by omega)]; omega
    rw [n1, o1, h]; rfl
  · have n1 : levName l = nameI := by rw [levName, if_neg (by omega), if_pos (by omega)]
    have o1 : levOff l = (o : Int) := by rw [levOff, if_neg (by omega), if_pos (by omega)]; omega
    rw [n1, o1, h]; rfl
  · have n1 : levName l = nameW := by rw [levName, if_neg (by omega), if_neg (by omega), if_pos (by omega)]
    have o1 : levOff l = (o : Int) := by rw [levOff, if_neg (by omega), if_neg (by omega), if_pos (by omega)]; omega
    rw [n1, o1, h]; rfl
theorem slice_digit (w : World) (o : Nat) (h1 : 0 < o) (h2 : o < 4) :
    (Instr.slice 9 (.string ⟨#[49, 50, 51]⟩) (some (.int .i64 ((o : Int) - 1))) (some (.int .i64 (o : Int))) none).run Tryd.prog w = .ok (.string (strOf [UInt8.ofNat (48 + o)])) w := by
  rw [run_slice_string w 9 ⟨#[49, 50, 51]⟩ .i64 .i64 ((o : Int) - 1) (o : Int) Tryd.underlying9 (by omega) (by omega) (by show (o : Int) ≤ 3; omega)]
  have e1 : ((o : Int) - 1).toNat = o - 1 := by omega
  have e2 : (o : Int).toNat = o := by omega
  rw [e1, e2]
  have : ∀ j : Fin 4, 0 < j.val → ByteArray.extract ⟨#[49, 50, 51]⟩ (j.val - 1) j.val = strOf [UInt8.ofNat (48 + j.val)] := by decide
  rw [this ⟨o, h2⟩ h1]

/-- THE WALK: the Go text returns true; nothing that lay there has changed. -/
theorem walk (a0 : Int) (w0 : (Lit.int .i64 a0).wf = true) (w : World) (hT : Tab w) :
    Calls Tryd.prog 3 #[.int .i64 a0] w fun e w' => e = .returned (.bool true) ∧ Below w.heap.size w w' := by
  have hb := bounds_i64 w0
  clear w0
  by_cases c1 : a0 < -4
  · go_enter Tryd.func3, Tryd.ntmps3
    go_wp2_with fail
    go_ret
    exact ⟨rfl, Below.refl _ _⟩
  · by_cases c2 : 8 ≤ a0
    · go_enter Tryd.func3, Tryd.ntmps3
      go_wp2_with fail
      go_ret
      exact ⟨rfl, Below.refl _ _⟩
    · obtain ⟨o, ho, hmod⟩ : ∃ o : Nat, o < 4 ∧ (a0 + 4) % 4 = (o : Int) := ⟨((a0 + 4) % 4).toNat, by omega, by omega⟩
      have hab := above a0 o (by omega) (by omega) ho (by omega)
      have hl := levList_len (a0 - o) (by omega) (by omega)
      have HL := Lib.hid (show ∀ w, Tab w → Calls Tryd.prog 11 #[.int .i64 a0] w fun e w' => e = .returned (.string (strOf (levList a0))) ∧ Below w.heap.size w w' from fun w hT => levelString_any a0 (by omega) (by omega) w hT)
      have HS := Lib.hid (show ∀ w, Tab w → Calls Tryd.prog 11 #[.int .i64 (a0 - o)] w fun e w' => e = .returned (.string (strOf (levList (a0 - o)))) ∧ Below w.heap.size w w' from fun w hT => levelString_any (a0 - o) (by omega) (by omega) w hT)
      rw [hab] at HL
      have hb4 : a0 + 4 ≤ 100 := by omega
      have hb5 : 0 ≤ a0 + 4 := by omega
      have hb6 : -100 ≤ a0 - o := by omega
      clear hab
      generalize levList (a0 - o) = A at *
      by_cases hz : o = 0
      · subst hz
        have HL2 : Hid (∀ w, Tab w → Calls Tryd.prog 11 #[.int .i64 a0] w fun e w' => e = .returned (.string (strOf A)) ∧ Below w.heap.size w w') := by
          show ∀ w, _
          intro w hT
          have := HL.out w hT
          rw [show ((0 : Nat) : Int) = 0 from rfl, offS_zero, List.append_nil] at this
          exact this
        have hne := strOf_ne A (by omega)
        clear HL HS
        go_enter Tryd.func3, Tryd.ntmps3
        go_wp2_with fail
        refine (HL2.out _ hT).mono ?_
        rintro e W1 ⟨rfl, hb1⟩
        go_wp2_with fail
        refine (HL2.out _ (hT.stays hb1)).mono ?_
        rintro e W2 ⟨rfl, hb2⟩
        go_wp2_with fail
        go_ret
        exact ⟨rfl, Below.then_ hb1 hb2⟩
      · have hos := offS_small o (by omega) (by omega)
        rw [hos] at HL
        have hsl := fun w => slice_digit w o (by omega) ho
        generalize UInt8.ofNat (48 + o) = c at HL hsl hos
        have a1 : ∀ W, (Op.stringOp .add ⟨#[43]⟩ (strOf [c])).run Tryd.prog W = .ok (.string (strOf [43, c])) W := fun W => add_str Tryd.prog W [43] [c] (by simp)
        have a2 : ∀ W, (Op.stringOp .add (strOf A) (strOf [43, c])).run Tryd.prog W = .ok (.string (strOf (A ++ [43, c]))) W := fun W => add_str Tryd.prog W A [43, c] (by simp; omega)
        have hne := strOf_ne (A ++ [43, c]) (by simp)
        clear hos
        go_enter Tryd.func3, Tryd.ntmps3
        go_wp2_with fail
        refine (HS.out _ hT).mono ?_
        rintro e W1 ⟨rfl, hb1⟩
        go_wp2_with fail
        refine (HL.out _ (hT.stays hb1)).mono ?_
        rintro e W2 ⟨rfl, hb2⟩
        go_wp2_with fail
        go_ret
        exact ⟨rfl, Below.then_ hb1 hb2⟩

set_option maxRecDepth 100000 in
theorem lifted (os : Os) (started : os.Started) (H : Type) (enc : TypeId × Value → H) :
    ReturnsInHanded {} Tryd.checked os 3 .any (fun w args => (Rows.fnLevelBetweenSpec.pre enc Tryd.prog Tryd.f3 [] false w args ∧ laidMetH Tryd.prog laid3 w) ∧ sizedMet enc Tryd.prog Tryd.f3 (OpenSpec.ofChange Rows.fnLevelBetweenSpec) false w args)
      (Rows.fnLevelBetweenSpec.post enc Tryd.prog Tryd.f3 false true false false) := by
  refine returnsInHanded_of_change_and (C := Tryd.checked) (X := fun w _ => laidMetH Tryd.prog laid3 w) (fun _ _ _ hh h => h.of_heap hh) own started (by kernel_rfl) Tryd.func3
    (ChangeSpec.witness_shaped (enc := enc) (C := Tryd.checked) (os := os) (X := fun w _ => laidMetH Tryd.prog laid3 w) false (World.doorLaid Tryd.prog 24 os) #[.int .i64 0] 8 rfl (World.shaped_of_RefB (by kernel_rfl) (by kernel_rfl)) (by kernel_rfl) (by kernel_rfl) (by kernel_rfl) (door_met os _)) ?_
  intro W base args ds gs before hval0 hW _ _ hL _
  have hval : ∀ (j : Nat) t v, Tryd.f3.params[j]? = some t → args[j]? = some v → Value.okWide Tryd.prog W .any base t v := hval0
  have hW' := hW
  obtain ⟨p, q, hA0, hV, rfl, hfz, hnd⟩ := hW
  have hA : DataW.TrodAll enc Tryd.prog W 0 (fun _ => true) true Tryd.f3.params.toList args.toList ds p := hA0
  rw [Tryd.params3] at hA hval
  obtain ⟨v0, vs0, d0, ds0, p0, q0, hargs, rfl, rfl, h0, r0⟩ := trodAll_cons hA
  obtain ⟨rfl, rfl, rfl⟩ := trodAll_nil r0
  obtain rfl : args = #[v0] := by cases args; simp_all
  obtain ⟨rfl, rfl⟩ := trodVars_none hV
  obtain ⟨a0, rfl, rfl, rfl, w0⟩ := open_int Tryd.underlying3 (hval 0 3 v0 rfl rfl) h0
  clear hA0 hval0
  simp only [List.append_nil] at hW'
  refine (walk a0 w0 W (tab_of_laid hL)).mono fun e W' ⟨he, hg⟩ => ?_
  subst he
  exact ⟨_, rfl, _, _, _, [], [], [], hW', trodAll_mk1 (shut_bool Tryd.underlying4 _), (trodAll_cons_mk (shut_int Tryd.underlying3 w0) trodAll_mk0), rfl, hg.frame _, fun h => by cases h⟩

theorem over : Rows.fnLevelBetweenRow.holds Tryd.pinned (OpenSpec.ofChange Rows.fnLevelBetweenSpec) :=
  OpenClaim.holds_of_wide 3 Tryd.f3 rfl rfl rfl rfl rfl rfl rfl ⟨rfl, rfl, rfl, rfl, rfl⟩ rfl rfl rfl rfl rfl (by kernel_rfl) Tryd.func3 (by kernel_rfl)
    (of_decide_eq_true (by kernel_rfl)) (by unfold Func.isWrapper; first | (rw [if_pos (by decide +kernel)]; kernel_rfl) | (rw [if_neg (by decide +kernel)]; exact ⟨rfl, rfl⟩))
    (fun os started H enc _ => lifted os started H enc)

theorem plain (f : FuncId) (fn : Func) (hf : Tryd.pinned.checked.prog.funcNamed "lib-fingerpost/laws.FnLevelBetween" = some f) (hfn : Tryd.pinned.checked.prog.funcs[f]? = some fn) :
    false = Tryd.pinned.checked.prog.looks [] ∧ ∀ (j : Nat) t, fn.params[j]? = some t → Tryd.pinned.checked.prog.wantsStandIn t = false := by
  obtain rfl : f = 3 := Option.some.inj ((show Tryd.prog.funcNamed "lib-fingerpost/laws.FnLevelBetween" = some 3 by kernel_rfl).symm.trans hf) |>.symm
  obtain rfl : fn = Tryd.f3 := (Option.some.inj (Tryd.func3.symm.trans hfn)).symm
  refine ⟨by kernel_rfl, fun j t ht => ?_⟩
  rw [Tryd.params3] at ht
  have hm : t ∈ [3] := by simpa using Array.mem_of_getElem? ht
  have hall : ([3].all fun u => !Tryd.prog.wantsStandIn u) = true := by kernel_rfl
  exact (show Tryd.prog.wantsStandIn t = false by simpa using List.all_eq_true.1 hall t hm)

/-- ████ THE CARD ████ -/
theorem proved : Rows.FnLevelBetweenCardSaid :=
  Claim7.holds_tied_plain_at .later [] _ _ _ _ over (fun _ h => by cases h) (by kernel_rfl) (fun _ h => by cases h) fnLevelBetween_row_tie rfl ⟨rfl, rfl⟩ (by kernel_rfl) rfl plain (by kernel_rfl)
#print axioms proved
end Go.Proofs.YthnidaaenolndaaDoor.fnLevelBetween
