/-
  Proved here: FnLevelNames returns true for every int, the library's tables laid as their initialisers lay them.
  The listed variables are tied to the program's text by the given tie; the frame follows the kit's worked proofs of tied cards; the walk is ours.
-/
import Derived.Test.YthnidaaenolndaaDoorCards
import Derived.Test.YthnidaaenolndaaDoorTie
import Derived.Test.YthnidaaenolndaaDoorTab3
import Derived.WalkKit
import Derived.ProofKit
import Derived.OpenShut
import Derived.LaidMore
import Derived.SevenTiedAt
import Derived.SizedLaws
import Derived.Stop.Joined
import Derived.Test.YthnidaaenolndaaDoorBeg
namespace Go.Proofs.YthnidaaenolndaaDoor.fnLevelNames
open Go.ChangeShapes Go.WideShapes Go.ChangeAt Go.WideMaps Go.WideElems Go.RowKit
open Go.ChangeMaps (open_string shut_string)
set_option linter.unusedVariables false

def nmAt (i : Nat) : List UInt8 := if i = 0 then nameD else if i = 1 then nameI else if i = 2 then nameW else nameE
theorem nm_level (i : Nat) (h : i < 4) : levList (4 * (i : Int) - 4) = nmAt i := by
  have hd : i = 0 ∨ i = 1 ∨ i = 2 ∨ i = 3 := by omega
  rcases hd with rfl | rfl | rfl | rfl <;> rfl
def nmCells : Array Value := #[.string ⟨#[68, 69, 66, 85, 71]⟩, .string ⟨#[73, 78, 70, 79]⟩, .string ⟨#[87, 65, 82, 78]⟩, .string ⟨#[69, 82, 82, 79, 82]⟩]
theorem nm_cell (i : Nat) (h : i < 4) : nmCells[i]? = some (.string (strOf (nmAt i))) := by
  have hd : i = 0 ∨ i = 1 ∨ i = 2 ∨ i = 3 := by omega
  rcases hd with rfl | rfl | rfl | rfl <;> rfl
theorem nm_at (w wr : World) (hb : Below (w.heap.size + 1) (w.alloc (.cells nmCells 9)) wr) (i : Nat) (h : i < 4) : wr.cell? ⟨w.heap.size, i, none⟩ = some (.string (strOf (nmAt i))) := by
  rw [hb.cell (p := ⟨w.heap.size, i, none⟩) (by show w.heap.size < w.heap.size + 1; omega)]
  exact (World.cell?_alloc_at _ _ _ _ rfl).trans (nm_cell i h)

/-- THE WALK: the Go text returns true; nothing that lay there has changed. -/
theorem walk (a0 : Int) (w0 : (Lit.int .i64 a0).wf = true) (w : World) (hT : Tab w) :
    Calls Tryd.prog 6 #[.int .i64 a0] w fun e w' => e = .returned (.bool true) ∧ Below w.heap.size w w' := by
  have hb := bounds_i64 w0
  clear w0
  go_enter Tryd.func6, Tryd.ntmps6
  go_wp2_with fail
  go_loopw [7] (fun v wr => ∃ i : Nat, i ≤ 4 ∧ v = .int .i64 (i : Int) ∧ Below (w.heap.size + 1) (w.alloc (.cells nmCells 9)) wr) (fun v _ => 4 - (intOf v).toNat)
  case atStart => exact ⟨0, by omega, rfl, Below.refl _ _⟩
  case round =>
    obtain ⟨i, hi, rfl, hbr⟩ := hrel
    have hb0 : Below w.heap.size w wr := ((Below.refl _ _).alloc (Nat.le_refl _) _).trans (hbr.mono (by omega))
    by_cases hlt : i < 4
    · have hc := nm_at w wr hbr i hlt
      have hTr := hT.stays hb0
      have hsw : w.heap.size + 1 ≤ wr.heap.size := by have := hbr.size; simpa using this
      have HN := Lib.hid (show ∀ w, Tab w → Calls Tryd.prog 11 #[.int .i64 (4 * (i : Int) - 4)] w fun e w' => e = .returned (.string (strOf (nmAt i))) ∧ Below w.heap.size w w' from fun w hT => by rw [← nm_level i hlt]; exact levelString_any _ (by omega) (by omega) w hT)
      by_cases hE : a0 = 4 * (i : Int) - 4
      · have HE := Lib.hid (show ∀ w, Tab w → Calls Tryd.prog 11 #[.int .i64 a0] w fun e w' => e = .returned (.string (strOf (nmAt i))) ∧ Below w.heap.size w w' from fun w hT => by rw [hE]; exact HN.out w hT)
        have he : (a0 == 4 * (i : Int) - 4) = true := beq_iff_eq.2 hE
        generalize nmAt i = M at *
        clear hE
        go_wp2_with fail
        refine (HN.out _ hTr).mono ?_
        rintro e W1 ⟨rfl, hb1⟩
        go_wp2_with fail
        refine (HE.out _ (hTr.stays hb1)).mono ?_
        rintro e W2 ⟨rfl, hb2⟩
        have B2 := Below.then_ hb1 hb2
        go_wp2_with fail
        go_roundw
        case rel => exact ⟨i + 1, by omega, by go_num, hbr.trans (B2.mono hsw)⟩
        case measure => simp [intOf]; omega
      · have he : (a0 == 4 * (i : Int) - 4) = false := beq_false_of_ne hE
        generalize nmAt i = M at *
        clear hE
        go_wp2_with fail
        refine (HN.out _ hTr).mono ?_
        rintro e W1 ⟨rfl, hb1⟩
        go_wp2_with fail
        go_roundw
        case rel => exact ⟨i + 1, by omega, by go_num, hbr.trans (hb1.mono hsw)⟩
        case measure => simp [intOf]; omega
    · go_wp2_with fail
      go_ret
      exact ⟨rfl, hb0⟩

set_option maxRecDepth 100000 in
theorem lifted (os : Os) (started : os.Started) (H : Type) (enc : TypeId × Value → H) :
    ReturnsInHanded {} Tryd.checked os 6 .any (fun w args => (Rows.fnLevelNamesSpec.pre enc Tryd.prog Tryd.f6 [] false w args ∧ laidMetH Tryd.prog laid3 w) ∧ sizedMet enc Tryd.prog Tryd.f6 (OpenSpec.ofChange Rows.fnLevelNamesSpec) false w args)
      (Rows.fnLevelNamesSpec.post enc Tryd.prog Tryd.f6 false true false false) := by
  refine returnsInHanded_of_change_and (C := Tryd.checked) (X := fun w _ => laidMetH Tryd.prog laid3 w) (fun _ _ _ hh h => h.of_heap hh) own started (by kernel_rfl) Tryd.func6
    (ChangeSpec.witness_shaped (enc := enc) (C := Tryd.checked) (os := os) (X := fun w _ => laidMetH Tryd.prog laid3 w) false (World.doorLaid Tryd.prog 24 os) #[.int .i64 0] 8 rfl (World.shaped_of_RefB (by kernel_rfl) (by kernel_rfl)) (by kernel_rfl) (by kernel_rfl) (by kernel_rfl) (door_met os _)) ?_
  intro W base args ds gs before hval0 hW _ _ hL _
  have hval : ∀ (j : Nat) t v, Tryd.f6.params[j]? = some t → args[j]? = some v → Value.okWide Tryd.prog W .any base t v := hval0
  have hW' := hW
  obtain ⟨p, q, hA0, hV, rfl, hfz, hnd⟩ := hW
  have hA : DataW.TrodAll enc Tryd.prog W 0 (fun _ => true) true Tryd.f6.params.toList args.toList ds p := hA0
  rw [Tryd.params6] at hA hval
  obtain ⟨v0, vs0, d0, ds0, p0, q0, hargs, rfl, rfl, h0, r0⟩ := trodAll_cons hA
  obtain ⟨rfl, rfl, rfl⟩ := trodAll_nil r0
  obtain rfl : args = #[v0] := by cases args; simp_all
  obtain ⟨rfl, rfl⟩ := trodVars_none hV
  obtain ⟨a0, rfl, rfl, rfl, w0⟩ := open_int Tryd.underlying3 (hval 0 3 v0 rfl rfl) h0
  clear hA0 hval0
  simp only [List.append_nil] at hW'
  refine (walk a0 w0 W (tab_of_laid hL)).mono fun e W' ⟨he, hg⟩ => ?_
  subst he
  exact ⟨_, rfl, _, _, _, [], [], [], hW', trodAll_mk1 (shut_bool Tryd.underlying4 _), (trodAll_cons_mk (shut_int Tryd.underlying3 w0) trodAll_mk0), rfl, hg.frame _, fun h => by cases h⟩

theorem over : Rows.fnLevelNamesRow.holds Tryd.pinned (OpenSpec.ofChange Rows.fnLevelNamesSpec) :=
  OpenClaim.holds_of_wide 6 Tryd.f6 rfl rfl rfl rfl rfl rfl rfl ⟨rfl, rfl, rfl, rfl, rfl⟩ rfl rfl rfl rfl rfl (by kernel_rfl) Tryd.func6 (by kernel_rfl)
    (of_decide_eq_true (by kernel_rfl)) (by unfold Func.isWrapper; first | (rw [if_pos (by decide +kernel)]; kernel_rfl) | (rw [if_neg (by decide +kernel)]; exact ⟨rfl, rfl⟩))
    (fun os started H enc _ => lifted os started H enc)

theorem plain (f : FuncId) (fn : Func) (hf : Tryd.pinned.checked.prog.funcNamed "lib-fingerpost/laws.FnLevelNames" = some f) (hfn : Tryd.pinned.checked.prog.funcs[f]? = some fn) :
    false = Tryd.pinned.checked.prog.looks [] ∧ ∀ (j : Nat) t, fn.params[j]? = some t → Tryd.pinned.checked.prog.wantsStandIn t = false := by
  obtain rfl : f = 6 := Option.some.inj ((show Tryd.prog.funcNamed "lib-fingerpost/laws.FnLevelNames" = some 6 by kernel_rfl).symm.trans hf) |>.symm
  obtain rfl : fn = Tryd.f6 := (Option.some.inj (Tryd.func6.symm.trans hfn)).symm
  refine ⟨by kernel_rfl, fun j t ht => ?_⟩
  rw [Tryd.params6] at ht
  have hm : t ∈ [3] := by simpa using Array.mem_of_getElem? ht
  have hall : ([3].all fun u => !Tryd.prog.wantsStandIn u) = true := by kernel_rfl
  exact (show Tryd.prog.wantsStandIn t = false by simpa using List.all_eq_true.1 hall t hm)

/-- ████ THE CARD ████ -/
theorem proved : Rows.FnLevelNamesCardSaid :=
  Claim7.holds_tied_plain_at .later [] _ _ _ _ over (fun _ h => by cases h) (by kernel_rfl) (fun _ h => by cases h) fnLevelNames_row_tie rfl ⟨rfl, rfl⟩ (by kernel_rfl) rfl plain (by kernel_rfl)
#print axioms proved
end Go.Proofs.YthnidaaenolndaaDoor.fnLevelNames
