/-
  Proved here: FnLevelUpper returns true for every int, the library's tables laid as their initialisers lay them.
  The listed variables are tied to the program's text by the given tie; the frame follows the kit's worked proofs of tied cards; the walk is ours.
-/
import Derived.Test.YthnidaaenolndaaDoorCards
import Derived.Test.YthnidaaenolndaaDoorTie
import Derived.Test.YthnidaaenolndaaDoorTab3
import Derived.WalkKit
import Derived.ProofKit
import Derived.OpenShut
import Derived.LaidMore
import Derived.SevenTiedAt
import Derived.SizedLaws
import Derived.Stop.Joined
import Derived.Test.YthnidaaenolndaaDoorBeg
import Derived.Test.YthnidaaenolndaaDoorHasL
namespace Go.Proofs.YthnidaaenolndaaDoor.fnLevelUpper
open Go.ChangeShapes Go.WideShapes Go.ChangeAt Go.WideMaps Go.WideElems Go.RowKit
open Go.ChangeMaps (open_string shut_string)
set_option linter.unusedVariables false

def upperB : ByteArray := ⟨#[65, 66, 67, 68, 69, 70, 71, 72, 73, 74, 75, 76, 77, 78, 79, 80, 81, 82, 83, 84, 85, 86, 87, 88, 89, 90, 48, 49, 50, 51, 52, 53, 54, 55, 56, 57, 43, 45]⟩
theorem digit_upper (d : Nat) (h : d < 10) : hasI upperB.data.toList ((UInt8.ofNat (48 + d)).toNat : Int) = true := by
  have : ∀ j : Fin 10, hasI upperB.data.toList ((UInt8.ofNat (48 + j.val)).toNat : Int) = true := by decide
  exact this ⟨d, h⟩
theorem dec_upper (n : Nat) : ∀ b ∈ Lib.decDigits n, hasI upperB.data.toList (b.toNat : Int) = true := by
  induction n using Nat.strongRecOn with
  | _ n ih =>
    intro b hb
    by_cases h : n < 10
    · rw [Lib.decDigits_one h] at hb
      simp only [List.mem_singleton] at hb
      rw [hb]; exact digit_upper n h
    · rw [Lib.decDigits, dif_neg h, List.mem_append] at hb
      rcases hb with hb | hb
      · exact ih (n / 10) (by omega) b hb
      · simp only [List.mem_singleton] at hb
        rw [hb]; exact digit_upper (n % 10) (by omega)
theorem off_upper (v : Int) : ∀ b ∈ offS v, hasI upperB.data.toList (b.toNat : Int) = true := by
  intro b hb
  by_cases h0 : v = 0
  · rw [h0, offS_zero] at hb; simp at hb
  · by_cases h1 : 0 < v
    · rw [offS_plus v v.toNat (by omega) h1, List.mem_cons] at hb
      rcases hb with hb | hb
      · rw [hb]; decide
      · exact dec_upper _ b hb
    · rw [offS_minus v (-v).toNat (by omega) (by omega), List.mem_cons] at hb
      rcases hb with hb | hb
      · rw [hb]; decide
      · exact dec_upper _ b hb
theorem name_upper (l : Int) : ∀ b ∈ levName l, hasI upperB.data.toList (b.toNat : Int) = true := by
  have hD : ∀ b ∈ nameD, hasI upperB.data.toList (b.toNat : Int) = true := by decide
  have hI : ∀ b ∈ nameI, hasI upperB.data.toList (b.toNat : Int) = true := by decide
  have hW : ∀ b ∈ nameW, hasI upperB.data.toList (b.toNat : Int) = true := by decide
  have hE : ∀ b ∈ nameE, hasI upperB.data.toList (b.toNat : Int) = true := by decide
  unfold levName
  split
  · exact hD
  · split
    · exact hI
    · split
      · exact hW
      · exact hE
theorem all_upper (l : Int) : ∀ b ∈ levList l, hasI upperB.data.toList (b.toNat : Int) = true := by
  intro b hb
  rw [levList_eq, List.mem_append] at hb
  rcases hb with hb | hb
  · exact name_upper l b hb
  · exact off_upper _ b hb
/-- Which names a level's string begins with. -/
theorem names_of (l : Int) : pre nameD (levList l) = decide (l < 0) ∧ (¬ l < 0 → pre nameI (levList l) = decide (l < 4)) ∧ (¬ l < 4 → pre nameW (levList l) = decide (l < 8)) ∧ (¬ l < 8 → pre nameE (levList l) = true) := by
  rw [levList_eq]
  refine ⟨?_, ?_, ?_, ?_⟩
  · by_cases a : l < 0
    · rw [levName, if_pos a, decide_eq_true a]; exact pre_append _ _
    · rw [levName, if_neg a, decide_eq_false a]
      split
      · rfl
      · split <;> rfl
  · intro a
    by_cases b : l < 4
    · rw [levName, if_neg a, if_pos b, decide_eq_true b]; exact pre_append _ _
    · rw [levName, if_neg a, if_neg b, decide_eq_false b]
      split <;> rfl
  · intro b
    by_cases c : l < 8
    · rw [levName, if_neg (by omega), if_neg b, if_pos c, decide_eq_true c]; exact pre_append _ _
    · rw [levName, if_neg (by omega), if_neg b, if_neg c, decide_eq_false c]; rfl
  · intro c
    rw [levName, if_neg (by omega), if_neg (by omega), if_neg c]; exact pre_append _ _

/-- THE WALK: the Go text returns true; nothing that lay there has changed. -/
theorem walk (a0 : Int) (w0 : (Lit.int .i64 a0).wf = true) (w : World) (hT : Tab w) :
    Calls Tryd.prog 10 #[.int .i64 a0] w fun e w' => e = .returned (.bool true) ∧ Below w.heap.size w w' := by
  have hb := bounds_i64 w0
  have hl := levList_len a0 (by omega) (by omega)
  have HL := Lib.hid (show ∀ w, Tab w → Calls Tryd.prog 11 #[.int .i64 a0] w fun e w' => e = .returned (.string (strOf (levList a0))) ∧ Below w.heap.size w w' from fun w hT => levelString_any a0 (by omega) (by omega) w hT)
  have hall := all_upper a0
  obtain ⟨n1, n2, n3, n4⟩ := names_of a0
  have HP : ∃ bD bI bW bE : Bool, pre nameD (levList a0) = bD ∧ pre nameI (levList a0) = bI ∧ pre nameW (levList a0) = bW ∧ pre nameE (levList a0) = bE ∧ (bD || bI || bW || bE) = true := by
    refine ⟨_, _, _, _, rfl, rfl, rfl, rfl, ?_⟩
    by_cases a : a0 < 0
    · rw [n1, decide_eq_true a]; rfl
    · by_cases b : a0 < 4
      · rw [n2 a, decide_eq_true b]; simp
      · by_cases c : a0 < 8
        · rw [n3 b, decide_eq_true c]; simp
        · rw [n4 c]; simp
  clear n1 n2 n3 n4 w0 hb
  generalize levList a0 = L at *
  obtain ⟨bD, bI, bW, bE, p1, p2, p3, p4, hor⟩ := HP
  have HA := Lib.hid (show ∀ i (h : i < (strOf L).size), hasI upperB.data.toList ((strOf L)[i].toNat : Int) = true from fun i h => hall _ (by
    have h' : i < L.length := by rw [← strOf_size L]; exact h
    exact (List.getElem_mem h')))
  have HB := Lib.hid (fun (t : List UInt8) (w : World) (ht : t.length ≤ 1000) => begins_any L t w (by omega) ht)
  have hsz := strOf_size L
  have hs1 : (strOf L).size ≤ 27 := by omega
  clear hall hsz
  generalize strOf L = S at *
  have h1 : ∀ w, Calls Tryd.prog 12 #[.string S, .string ⟨#[68, 69, 66, 85, 71]⟩] w fun e w' => e = .returned (.bool bD) ∧ w = w' := fun w => by rw [← p1]; exact HB.out nameD w (by decide)
  have h2 : ∀ w, Calls Tryd.prog 12 #[.string S, .string ⟨#[73, 78, 70, 79]⟩] w fun e w' => e = .returned (.bool bI) ∧ w = w' := fun w => by rw [← p2]; exact HB.out nameI w (by decide)
  have h3 : ∀ w, Calls Tryd.prog 12 #[.string S, .string ⟨#[87, 65, 82, 78]⟩] w fun e w' => e = .returned (.bool bW) ∧ w = w' := fun w => by rw [← p3]; exact HB.out nameW w (by decide)
  have h4 : ∀ w, Calls Tryd.prog 12 #[.string S, .string ⟨#[69, 82, 82, 79, 82]⟩] w fun e w' => e = .returned (.bool bE) ∧ w = w' := fun w => by rw [← p4]; exact HB.out nameE w (by decide)
  have H1 := Lib.hid h1
  have H2 := Lib.hid h2
  have H3 := Lib.hid h3
  have H4 := Lib.hid h4
  have HO := Lib.hid hor
  clear h1 h2 h3 h4 hor p1 p2 p3 p4 HB hl
  go_enter Tryd.func10, Tryd.ntmps10
  go_wp2_with fail
  refine (HL.out _ hT).mono ?_
  rintro e W1 ⟨rfl, hb1⟩
  go_wp2_with fail
  go_loop [9] (fun v => ∃ i : Nat, i ≤ S.size ∧ v = .int .i64 (i : Int)) (fun v => S.size - (intOf v).toNat)
  case atStart => exact ⟨0, by omega, rfl⟩
  case round =>
    obtain ⟨i, hi, rfl⟩ := hrel
    by_cases hlt : i < S.size
    · have hu := HA.out i hlt
      have HH := Lib.hid (show ∀ w, Calls Tryd.prog 14 #[.string ⟨#[65, 66, 67, 68, 69, 70, 71, 72, 73, 74, 75, 76, 77, 78, 79, 80, 81, 82, 83, 84, 85, 86, 87, 88, 89, 90, 48, 49, 50, 51, 52, 53, 54, 55, 56, 57, 43, 45]⟩, .int .u8 (S[i].toNat : Int)] w fun e w' => e = .returned (.bool true) ∧ w = w' from fun w => by rw [← hu]; exact has_any upperB _ w (by decide))
      clear hu
      go_wp2_with fail
      refine (HH.out _).mono ?_
      rintro e w' ⟨rfl, rfl⟩
      go_wp2_with fail
      go_round
      case rel => exact ⟨i + 1, by omega, by go_num⟩
      case measure => simp [intOf]; omega
    · go_wp2_with fail
      refine (H1.out _).mono ?_
      rintro e w' ⟨rfl, rfl⟩
      have ho := HO.out
      cases bD
      · go_wp2_with fail
        refine (H2.out _).mono ?_
        rintro e w' ⟨rfl, rfl⟩
        cases bI
        · go_wp2_with fail
          refine (H3.out _).mono ?_
          rintro e w' ⟨rfl, rfl⟩
          cases bW
          · obtain rfl : bE = true := by simpa using ho
            go_wp2_with fail
            refine (H4.out _).mono ?_
            rintro e w' ⟨rfl, rfl⟩
            go_wp2_with fail
            go_ret
            exact ⟨rfl, hb1⟩
          · go_wp2_with fail
            go_ret
            exact ⟨rfl, hb1⟩
        · go_wp2_with fail
          go_ret
          exact ⟨rfl, hb1⟩
      · go_wp2_with fail
        go_ret
        exact ⟨rfl, hb1⟩

set_option maxRecDepth 100000 in
theorem lifted (os : Os) (started : os.Started) (H : Type) (enc : TypeId × Value → H) :
    ReturnsInHanded {} Tryd.checked os 10 .any (fun w args => (Rows.fnLevelUpperSpec.pre enc Tryd.prog Tryd.f10 [] false w args ∧ laidMetH Tryd.prog laid3 w) ∧ sizedMet enc Tryd.prog Tryd.f10 (OpenSpec.ofChange Rows.fnLevelUpperSpec) false w args)
      (Rows.fnLevelUpperSpec.post enc Tryd.prog Tryd.f10 false true false false) := by
  refine returnsInHanded_of_change_and (C := Tryd.checked) (X := fun w _ => laidMetH Tryd.prog laid3 w) (fun _ _ _ hh h => h.of_heap hh) own started (by kernel_rfl) Tryd.func10
    (ChangeSpec.witness_shaped (enc := enc) (C := Tryd.checked) (os := os) (X := fun w _ => laidMetH Tryd.prog laid3 w) false (World.doorLaid Tryd.prog 24 os) #[.int .i64 0] 8 rfl (World.shaped_of_RefB (by kernel_rfl) (by kernel_rfl)) (by kernel_rfl) (by kernel_rfl) (by kernel_rfl) (door_met os _)) ?_
  intro W base args ds gs before hval0 hW _ _ hL _
  have hval : ∀ (j : Nat) t v, Tryd.f10.params[j]? = some t → args[j]? = some v → Value.okWide Tryd.prog W .any base t v := hval0
  have hW' := hW
  obtain ⟨p, q, hA0, hV, rfl, hfz, hnd⟩ := hW
  have hA : DataW.TrodAll enc Tryd.prog W 0 (fun _ => true) true Tryd.f10.params.toList args.toList ds p := hA0
  rw [Tryd.params10] at hA hval
  obtain ⟨v0, vs0, d0, ds0, p0, q0, hargs, rfl, rfl, h0, r0⟩ := trodAll_cons hA
  obtain ⟨rfl, rfl, rfl⟩ := trodAll_nil r0
  obtain rfl : args = #[v0] := by cases args; simp_all
  obtain ⟨rfl, rfl⟩ := trodVars_none hV
  obtain ⟨a0, rfl, rfl, rfl, w0⟩ := open_int Tryd.underlying3 (hval 0 3 v0 rfl rfl) h0
  clear hA0 hval0
  simp only [List.append_nil] at hW'
  refine (walk a0 w0 W (tab_of_laid hL)).mono fun e W' ⟨he, hg⟩ => ?_
  subst he
  exact ⟨_, rfl, _, _, _, [], [], [], hW', trodAll_mk1 (shut_bool Tryd.underlying4 _), (trodAll_cons_mk (shut_int Tryd.underlying3 w0) trodAll_mk0), rfl, hg.frame _, fun h => by cases h⟩

theorem over : Rows.fnLevelUpperRow.holds Tryd.pinned (OpenSpec.ofChange Rows.fnLevelUpperSpec) :=
  OpenClaim.holds_of_wide 10 Tryd.f10 rfl rfl rfl rfl rfl rfl rfl ⟨rfl, rfl, rfl, rfl, rfl⟩ rfl rfl rfl rfl rfl (by kernel_rfl) Tryd.func10 (by kernel_rfl)
    (of_decide_eq_true (by kernel_rfl)) (by unfold Func.isWrapper; first | (rw [if_pos (by decide +kernel)]; kernel_rfl) | (rw [if_neg (by decide +kernel)]; exact ⟨rfl, rfl⟩))
    (fun os started H enc _ => lifted os started H enc)

theorem plain (f : FuncId) (fn : Func) (hf : Tryd.pinned.checked.prog.funcNamed "lib-fingerpost/laws.FnLevelUpper" = some f) (hfn : Tryd.pinned.checked.prog.funcs[f]? = some fn) :
    false = Tryd.pinned.checked.prog.looks [] ∧ ∀ (j : Nat) t, fn.params[j]? = some t → Tryd.pinned.checked.prog.wantsStandIn t = false := by
  obtain rfl : f = 10 := Option.some.inj ((show Tryd.prog.funcNamed "lib-fingerpost/laws.FnLevelUpper" = some 10 by kernel_rfl).symm.trans hf) |>.symm
  obtain rfl : fn = Tryd.f10 := (Option.some.inj (Tryd.func10.symm.trans hfn)).symm
  refine ⟨by kernel_rfl, fun j t ht => ?_⟩
  rw [Tryd.params10] at ht
  have hm : t ∈ [3] := by simpa using Array.mem_of_getElem? ht
  have hall : ([3].all fun u => !Tryd.prog.wantsStandIn u) = true := by kernel_rfl
  exact (show Tryd.prog.wantsStandIn t = false by simpa using List.all_eq_true.1 hall t hm)

/-- ████ THE CARD ████ -/
theorem proved : Rows.FnLevelUpperCardSaid :=
  Claim7.holds_tied_plain_at .later [] _ _ _ _ over (fun _ h => by cases h) (by kernel_rfl) (fun _ h => by cases h) fnLevelUpper_row_tie rfl ⟨rfl, rfl⟩ (by kernel_rfl) rfl plain (by kernel_rfl)
#print axioms proved
end Go.Proofs.YthnidaaenolndaaDoor.fnLevelUpper
