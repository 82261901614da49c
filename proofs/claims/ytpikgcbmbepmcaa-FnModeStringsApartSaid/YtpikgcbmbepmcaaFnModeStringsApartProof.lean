/-
  Proved here: FnModeStringsApart returns true for every two uint32. No condition.
  The frame of the text was written by the kit's proof-skeleton.mjs; the walk is ours.
-/
import Derived.Test.YtpikgcbmbepmcaaRows
import Derived.WalkKit
import Derived.ProofKit
import Derived.OpenShut
import Derived.Test.YtpikgcbmbepmcaaSpecS
namespace Go.Proofs.Ytpikgcbmbepmcaa.fnModeStringsApart
open Go.ChangeShapes Go.WideShapes Go.ChangeAt Go.RowKit
set_option linter.unusedVariables false      -- a walk need not use every 'w<i>' (that an integer argument fits its kind)

theorem own : ownKnob Try.prog.godebug = none := by kernel_rfl

theorem rights_inj (x y : BitVec 32) : ∀ n, n ≤ 9 → rights x n = rights y n → ∀ k, k < n → bitOf x (8 - k) = bitOf y (8 - k) := by
  intro n
  induction n with
  | zero => intro _ _ k hk; omega
  | succ n ih =>
    intro hn h k hk
    rw [rights, rights] at h
    have h2 := List.append_inj h (by rw [rights_length, rights_length])
    by_cases e : k = n
    · subst e
      have h3 : (if bitOf x (8 - k) = true then rightAt k else 45) = (if bitOf y (8 - k) = true then rightAt k else 45) := by simpa using h2.2
      have hr : rightAt k ≠ 45 := by
        have : ∀ j : Fin 9, rightAt j.val ≠ 45 := by decide
        exact this ⟨k, by omega⟩
      cases hx : bitOf x (8 - k) <;> cases hy : bitOf y (8 - k) <;> simp [hx, hy] at h3 ⊢
      · exact absurd h3.symm hr
      · exact absurd h3 hr
    · exact ih (by omega) h2.1 k (by omega)
theorem modeStr_inj (x y : BitVec 32) (h : modeStr x = modeStr y) : (∀ j, 19 ≤ j → j < 32 → bitOf x j = bitOf y j) ∧ (∀ j, j < 9 → bitOf x j = bitOf y j) := by
  constructor
  · intro j h1 h2
    have e : 31 - (31 - j) = j := by omega
    have hx := hasI_mode x (31 - j) (by omega)
    have hy := hasI_mode y (31 - j) (by omega)
    rw [e] at hx hy
    rw [← hx, ← hy, h]
  · have hl : modeList x = modeList y := by
      have : (modeStr x).data.toList = (modeStr y).data.toList := by rw [h]
      exact this
    rw [modeList, modeList] at hl
    have hr : rights x 9 = rights y 9 := (List.append_inj' hl (by rw [rights_length, rights_length])).2
    intro j hj
    have := rights_inj x y 9 (by omega) hr (8 - j) (by omega)
    have e : 8 - (8 - j) = j := by omega
    rw [e] at this
    exact this
theorem mid_bit (j : Nat) (h : j < 32) : (523776#32).getLsbD j = (decide (9 ≤ j) && decide (j < 19)) := by
  have : ∀ i : Fin 32, (523776#32).getLsbD i.val = (decide (9 ≤ i.val) && decide (i.val < 19)) := by decide
  exact this ⟨j, h⟩
theorem same_iff (x y : BitVec 32) : ((modeStr x).toList == (modeStr y).toList) = (bits .andNot .u32 (bits .xor .u32 (x.toNat : Int) (y.toNat : Int)) 523776 == 0) := by
  have e : bits .andNot .u32 (bits .xor .u32 (x.toNat : Int) (y.toNat : Int)) 523776 = (((x ^^^ y) &&& ~~~523776#32).toNat : Int) := by
    rw [bxor]; exact bandNot _ 523776#32
  rw [e, ByteArray.toList_eq, ByteArray.toList_eq, Bool.eq_iff_iff]
  simp only [beq_iff_eq]
  have hz : ((((x ^^^ y) &&& ~~~523776#32).toNat : Int) = 0) ↔ ((x ^^^ y) &&& ~~~523776#32 = 0#32) := by
    constructor
    · intro h; exact BitVec.eq_of_toNat_eq (by simpa using h)
    · intro h; rw [h]; rfl
  rw [hz]
  constructor
  · intro h
    have hs : modeStr x = modeStr y := by
      cases hx : modeStr x; cases hy : modeStr y
      rw [hx, hy] at h
      congr 1
      exact Array.ext' h
    obtain ⟨h1, h2⟩ := modeStr_inj x y hs
    apply BitVec.eq_of_getLsbD_eq
    intro i hi
    rw [BitVec.getLsbD_and, BitVec.getLsbD_xor, BitVec.getLsbD_not, mid_bit i hi]
    by_cases a : i < 9
    · have := h2 i a
      unfold bitOf at this
      rw [this]; simp
    · by_cases b : 19 ≤ i
      · have := h1 i b hi
        unfold bitOf at this
        rw [this]; simp
      · have c1 : 9 ≤ i := by omega
        have c2 : i < 19 := by omega
        simp [c1, c2]
  · intro h
    have hbits : ∀ j, j < 32 → (j < 9 ∨ 19 ≤ j) → bitOf x j = bitOf y j := by
      intro j hj hr
      have hj2 : ((x ^^^ y) &&& ~~~523776#32).getLsbD j = (0#32).getLsbD j := by rw [h]
      rw [BitVec.getLsbD_and, BitVec.getLsbD_xor, BitVec.getLsbD_not, mid_bit j hj] at hj2
      have hm : (decide (9 ≤ j) && decide (j < 19)) = false := by
        rcases hr with hr | hr
        · have : ¬ 9 ≤ j := by omega
          simp [this]
        · have : ¬ j < 19 := by omega
          simp [this]
      rw [hm] at hj2
      have hd : decide (j < 32) = true := by simp [hj]
      rw [hd] at hj2
      unfold bitOf
      simpa using hj2
    rw [modeStr_congr x y (fun j hj => by
      by_cases h32 : j < 32
      · exact hbits j h32 (.inr hj)
      · unfold bitOf; rw [BitVec.getLsbD_of_ge _ _ (by omega), BitVec.getLsbD_of_ge _ _ (by omega)]) (fun j hj => hbits j (by omega) (.inl hj))]

/-! ### STEP 1: THE WALK: the Go text returns true. 'Below': nothing that lay there has changed. Part the cases AHEAD of 'go_enter' where a test parts the walk; take each callee by a contract of your own. -/
theorem walk (a0 : Int) (a1 : Int) (w0 : (Lit.int .u32 a0).wf = true) (w1 : (Lit.int .u32 a1).wf = true) (w : World) :
    Calls Try.prog 10 #[.int .u32 a0, .int .u32 a1] w fun e w' => e = .returned (.bool true) ∧ Below w.heap.size w w' := by
  obtain ⟨x, rfl⟩ := bvOf a0 w0
  obtain ⟨y, rfl⟩ := bvOf a1 w1
  obtain ⟨s, hs⟩ : ∃ s, s = modeStr x := ⟨_, rfl⟩
  obtain ⟨t, ht⟩ : ∃ t, t = modeStr y := ⟨_, rfl⟩
  have hsame := same_iff x y
  rw [← hs, ← ht] at hsame
  have hsz : 9 < s.size := by rw [hs]; have := modeStr_small x; omega
  have hsd : decide (9 < (s.size : Int)) = true := decide_eq_true (by omega)
  have HX := Lib.hid (show ∀ w, Calls Try.prog 15 #[.int .u32 (x.toNat : Int)] w fun e w' => e = .returned (.string s) ∧ Below w.heap.size w w' from by intro w; rw [hs]; exact modeString_any x w)
  have HY := Lib.hid (show ∀ w, Calls Try.prog 15 #[.int .u32 (y.toNat : Int)] w fun e w' => e = .returned (.string t) ∧ Below w.heap.size w w' from by intro w; rw [ht]; exact modeString_any y w)
  clear w0 w1 hs ht
  go_enter Try.func10, Try.ntmps10
  go_wp2_with fail
  refine (HX.out _).mono ?_
  rintro e W1 ⟨rfl, hb1⟩
  go_wp2_with fail
  refine (HY.out _).mono ?_
  rintro e W2 ⟨rfl, hb2⟩
  have B2 := Below.then_ hb1 hb2
  clear hb1 hb2
  go_wp2_with fail
  refine (HX.out _).mono ?_
  rintro e W3 ⟨rfl, hb3⟩
  have B3 := Below.then_ B2 hb3
  clear hb3 B2
  go_wp2_with fail
  go_ret
  exact ⟨rfl, B3⟩

/-! ### THE ROW's STEP: WRITTEN OUT: LEAVE IT -/
set_option maxRecDepth 100000 in
theorem lifted (os : Os) (started : os.Started) (H : Type) (enc : TypeId × Value → H) :
    ReturnsInHanded {} Try.checked os 10 .any (Rows.fnModeStringsApartSpec.pre6 enc Try.prog Try.f10 Rows.fnModeStringsApartRow.domain false) (Rows.fnModeStringsApartSpec.post enc Try.prog Try.f10 false true false false) := by
  refine returnsInHanded_of_change (C := Try.checked) own started (by kernel_rfl) Try.func10
    (ChangeSpec.witness6 (enc := enc) (C := Try.checked) false ⟨#[], #[.int .u32 0, .int .u32 0], []⟩ 8 (by kernel_rfl) (by kernel_rfl) (by kernel_rfl) (by kernel_rfl)) ?_
  intro W base args ds gs before hval0 hW hcnd _
  have hval : ∀ (j : Nat) t v, Try.f10.params[j]? = some t → args[j]? = some v → Value.okWide Try.prog W .any base t v := hval0
  have hW' := hW
  obtain ⟨p, q, hA0, hV, rfl, hfz, hnd⟩ := hW
  have hA : DataW.TrodAll enc Try.prog W 0 (fun _ => true) true Try.f10.params.toList args.toList ds p := hA0
  rw [Try.params10] at hA hval
  obtain ⟨v0, vs0, d0, ds0, p0, q0, hargs, rfl, rfl, h0, r0⟩ := trodAll_cons hA
  obtain ⟨v1, vs1, d1, ds1, p1, q1, rfl, rfl, rfl, h1, r1⟩ := trodAll_cons r0
  obtain ⟨rfl, rfl, rfl⟩ := trodAll_nil r1
  obtain rfl : args = #[v0, v1] := by cases args; simp_all
  obtain ⟨rfl, rfl⟩ := trodVars_none hV
  obtain ⟨a0, rfl, rfl, rfl, w0⟩ := open_int Try.underlying22 (hval 0 22 v0 rfl rfl) h0
  obtain ⟨a1, rfl, rfl, rfl, w1⟩ := open_int Try.underlying22 (hval 1 22 v1 rfl rfl) h1
  clear hA0 hval0
  simp only [List.append_nil] at hW'
  refine (walk a0 a1 w0 w1 W).mono fun e W' ⟨he, hg⟩ => ?_
  subst he
  exact ⟨_, rfl, _, _, _, [], [], [], hW', trodAll_mk1 (shut_bool Try.underlying4 _), (trodAll_cons_mk (shut_int Try.underlying22 w0) (trodAll_cons_mk (shut_int Try.underlying22 w1) trodAll_mk0)), rfl, hg.frame _, fun h => by cases h⟩

theorem over : Rows.fnModeStringsApartRow.holds Try.pinned (OpenSpec.ofChange Rows.fnModeStringsApartSpec) :=
  OpenClaim.holds_of_wide 10 Try.f10 rfl rfl rfl rfl rfl rfl rfl ⟨rfl, rfl, rfl, rfl, rfl⟩ rfl rfl rfl rfl rfl (by kernel_rfl) Try.func10 (by kernel_rfl)
    (of_decide_eq_true (by kernel_rfl)) (by unfold Func.isWrapper; first | (rw [if_pos (by decide +kernel)]; kernel_rfl) | (rw [if_neg (by decide +kernel)]; exact ⟨rfl, rfl⟩))
    (fun os started H enc _ => lifted os started H enc)

/-- ████ THE STATEMENT ████ -/
theorem proved : Rows.FnModeStringsApartSaid :=
  over
#print axioms proved
end Go.Proofs.Ytpikgcbmbepmcaa.fnModeStringsApart
