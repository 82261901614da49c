/-
  Proved here: FnModeRightsMove returns true for every uint32 and every int. No condition.
  The frame of the text was written by the kit's proof-skeleton.mjs; the walk is ours.
-/
import Derived.Test.YtpikgcbmbepmcaaRows
import Derived.WalkKit
import Derived.ProofKit
import Derived.OpenShut
import Derived.Test.YtpikgcbmbepmcaaSpecS
import Derived.Deep.DeepCutAuto
namespace Go.Proofs.Ytpikgcbmbepmcaa.fnModeRightsMove
open Go.ChangeShapes Go.WideShapes Go.ChangeAt Go.RowKit
set_option linter.unusedVariables false      -- a walk need not use every 'w<i>' (that an integer argument fits its kind)

theorem own : ownKnob Try.prog.godebug = none := by kernel_rfl

theorem pow_wrap (k : Nat) (hk : k < 32) : IntKind.u32.wrap ((2 : Int) ^ k) = ((BitVec.ofNat 32 (2 ^ k)).toNat : Int) := by
  have h2 : 2 ^ k < 2 ^ 32 := Nat.pow_lt_pow_right (by decide) hk
  have h4 : ((2 ^ k : Nat) : Int) = (2 : Int) ^ k := by simp
  rw [IntKind.wrap_u32', ← h4, BitVec.toNat_ofNat, Nat.mod_eq_of_lt h2]
  exact Int.emod_eq_of_lt (Int.natCast_nonneg _) (Int.ofNat_lt.2 h2)
theorem bitOf_pow (k j : Nat) (hk : k < 32) : bitOf (BitVec.ofNat 32 (2 ^ k)) j = decide (k = j) := by
  have h2 : 2 ^ k < 2 ^ 32 := Nat.pow_lt_pow_right (by decide) hk
  unfold bitOf
  rw [BitVec.getLsbD, BitVec.toNat_ofNat, Nat.mod_eq_of_lt h2, Nat.testBit_two_pow]
theorem bitOf_xor (x y : BitVec 32) (k : Nat) : bitOf (x ^^^ y) k = (bitOf x k ^^ bitOf y k) := BitVec.getLsbD_xor
theorem rights_get (x : BitVec 32) (n j : Nat) (h : j < n) : (rights x n)[j]? = some (if bitOf x (8 - j) = true then rightAt j else 45) := by
  induction n with
  | zero => omega
  | succ n ih =>
    rw [rights]
    by_cases e : j < n
    · rw [List.getElem?_append_left (by rw [rights_length]; exact e)]; exact ih e
    · obtain rfl : j = n := by omega
      rw [List.getElem?_append_right (by rw [rights_length]; exact Nat.le_refl _), rights_length, Nat.sub_self]; rfl
theorem right_ne (j : Nat) (h : j < 9) : rightAt j ≠ 45 := by
  have : ∀ j : Fin 9, rightAt j.val ≠ 45 := by decide
  exact this ⟨j, h⟩
/-- Where the strings of two modes that differ in permission k alone differ. -/
theorem move_at (x y : BitVec 32) (k : Nat) (hk : k < 9) (hy : ∀ j, bitOf y j = (bitOf x j ^^ decide (k = j))) (i : Nat) (a b : UInt8)
    (ha : (modeList x)[i]? = some a) (hb : (modeList y)[i]? = some b) (hi : i < (frontStr x).length + 9) : (a ≠ b) ↔ i = (frontStr x).length + 8 - k := by
  have hf : frontStr y = frontStr x := by
    unfold frontStr
    rw [front_congr y x (fun j hj => by rw [hy j, decide_eq_false (by omega), Bool.xor_false]) 13 (by omega)]
  rw [modeList] at ha hb
  rw [hf] at hb
  by_cases h1 : i < (frontStr x).length
  · rw [List.getElem?_append_left h1] at ha hb
    have : a = b := by rw [ha] at hb; exact Option.some.inj hb
    exact ⟨fun h => absurd this h, fun h => by omega⟩
  · obtain ⟨j, rfl⟩ : ∃ j, i = (frontStr x).length + j := ⟨i - (frontStr x).length, by omega⟩
    have hj : j < 9 := by omega
    rw [List.getElem?_append_right (by omega)] at ha hb
    have e : (frontStr x).length + j - (frontStr x).length = j := by omega
    rw [e, rights_get _ 9 j hj] at ha hb
    have ha' := (Option.some.inj ha).symm
    have hb' := (Option.some.inj hb).symm
    have hne := right_ne j hj
    have hyj := hy (8 - j)
    by_cases hkj : k = 8 - j
    · rw [decide_eq_true hkj] at hyj
      refine ⟨fun _ => by omega, fun _ => ?_⟩
      rw [ha', hb', hyj]
      cases bitOf x (8 - j) <;> simp [hne, Ne.symm hne]
    · rw [decide_eq_false hkj, Bool.xor_false] at hyj
      refine ⟨fun h => absurd ?_ h, fun h => by omega⟩
      rw [ha', hb', hyj]

set_option maxHeartbeats 1000000 in
theorem inside (x : BitVec 32) (k : Nat) (h2 : k < 9) (w : World) : Calls Try.prog 8 #[.int .u32 (x.toNat : Int), .int .i64 (k : Int)] w fun e w' => e = .returned (.bool true) ∧ Below w.heap.size w w' := by
  obtain ⟨y, hy⟩ : ∃ y, y = x ^^^ BitVec.ofNat 32 (2 ^ k) := ⟨_, rfl⟩
  have f0 : bits .xor .u32 (x.toNat : Int) (IntKind.u32.wrap ((2 : Int) ^ k)) = (y.toNat : Int) := by rw [pow_wrap k (by omega), bxor, hy]
  have hB : ∀ i, bitOf y i = (bitOf x i ^^ decide (k = i)) := by intro i; rw [hy, bitOf_xor, bitOf_pow k i (by omega)]
  obtain ⟨s, hs⟩ : ∃ s, s = modeStr x := ⟨_, rfl⟩
  obtain ⟨t, ht⟩ : ∃ t, t = modeStr y := ⟨_, rfl⟩
  obtain ⟨n, hn⟩ : ∃ n, n = (frontStr x).length + 9 := ⟨_, rfl⟩
  have hf : frontStr y = frontStr x := by
    unfold frontStr
    rw [front_congr y x (fun j hj => by rw [hB j, decide_eq_false (by omega), Bool.xor_false]) 13 (by omega)]
  have hsn : s.size = n := by rw [hs, hn]; exact modeStr_size x
  have htn : t.size = n := by rw [ht, hn, ← hf]; exact modeStr_size y
  have hn10 : 10 ≤ n ∧ n ≤ 22 := by have := frontStr_length x; omega
  have hmove : ∀ i (h1 : i < s.size) (h2 : i < t.size), (s[i] ≠ t[i]) ↔ i = n - 1 - k := by
    intro i h1 h3
    have ha : (modeList x)[i]? = some s[i] := by
      have : s.data.toList = modeList x := by rw [hs]; rfl
      rw [← this, List.getElem?_eq_getElem (by simpa using h1)]; rfl
    have hb : (modeList y)[i]? = some t[i] := by
      have : t.data.toList = modeList y := by rw [ht]; rfl
      rw [← this, List.getElem?_eq_getElem (by simpa using h3)]; rfl
    have := move_at x y k h2 hB i _ _ ha hb (by omega)
    rw [this]
    omega
  have HM := Lib.hid hmove
  have HX := Lib.hid (show ∀ w, Calls Try.prog 15 #[.int .u32 (x.toNat : Int)] w fun e w' => e = .returned (.string s) ∧ Below w.heap.size w w' from by intro w; rw [hs]; exact modeString_any x w)
  have HY := Lib.hid (show ∀ w, Calls Try.prog 15 #[.int .u32 (y.toNat : Int)] w fun e w' => e = .returned (.string t) ∧ Below w.heap.size w w' from by intro w; rw [ht]; exact modeString_any y w)
  clear hy hB hs ht hn hf hmove
  go_enter Try.func8, Try.ntmps8
  go_upto_region 3 with fail
  go_cut [5, 6] (fun u v wx => u = .string s ∧ v = .string t ∧ Below w.heap.size w wx)
  case first =>
    go_region_with (first | (go_at_call_of 15 (Value.int IntKind.u32 (x.toNat : Int)); refine (HX.out _).mono ?_; rintro e W1 ⟨rfl, hb1⟩) | (go_at_call_of 15 (Value.int IntKind.u32 (y.toNat : Int)); refine (HY.out _).mono ?_; rintro e W2 ⟨rfl, hb2⟩))
    all_goals (go_wp2_with fail; go_meet; exact ⟨rfl, rfl, Below.then_ (Below.drew (Below.refl _ _)) (Below.then_ hb1 hb2)⟩)
  case rest =>
    obtain ⟨rfl, rfl, hbw⟩ := hcut
    have HS := Lib.hid hsn
    have HT := Lib.hid htn
    have hst : s.size = t.size := by omega
    have hst2 : ((s.size : Int) != (t.size : Int)) = false := by rw [hst]; simp
    have hs10 : 10 ≤ s.size ∧ s.size ≤ 22 := by omega
    have HST := Lib.hid hst
    clear hsn htn hst
    go_wp2_with fail
    go_loopw [33] (fun v wr => ∃ i : Nat, i ≤ s.size ∧ v = .int .i64 (i : Int) ∧ Below w.heap.size w wr) (fun v _ => s.size - (intOf v).toNat)
    case atStart => exact ⟨0, by omega, rfl, hbw⟩
    case round =>
      obtain ⟨i, hi, rfl, hbr⟩ := hrel
      by_cases hlt : i < s.size
      · have hlt2 : i < t.size := by have := HST.out; omega
        have hm := HM.out i hlt hlt2
        have b1 : (i : Int) < (s.size : Int) := by omega
        have b2 : (i : Int) < (t.size : Int) := by omega
        have g1 : IntKind.i64.wrap ((s.size : Int) - 1) = (s.size : Int) - 1 := IntWalk.i64_in _ (by omega)
        have g2 : IntKind.i64.wrap ((s.size : Int) - 1 - (k : Int)) = (s.size : Int) - 1 - (k : Int) := IntWalk.i64_in _ (by omega)
        by_cases e : i = n - 1 - k
        · have hA : ((s[i].toNat : Int) != (t[i].toNat : Int)) = true := by
            have := hm.2 e
            rw [bne_iff_ne]; intro h; exact this (UInt8.toNat_inj.1 (by omega))
          have hE : ((i : Int) == (s.size : Int) - 1 - (k : Int)) = true := by
            rw [beq_iff_eq]; have := HS.out; omega
          clear e hm
          go_wp2_with fail
          go_quiet (fail)
          go_wp2
          go_roundw
          case rel => exact ⟨i + 1, by omega, by go_num, below_drewN hbr _⟩
          case measure => simp [intOf]; omega
        · have hA : ((s[i].toNat : Int) != (t[i].toNat : Int)) = false := by
            have : s[i] = t[i] := Classical.byContradiction fun h => e (hm.1 h)
            rw [this]; simp
          have hE : ((i : Int) == (s.size : Int) - 1 - (k : Int)) = false := by
            apply beq_false_of_ne; have := HS.out; omega
          clear e hm
          go_wp2_with fail
          go_quiet (fail)
          go_wp2
          go_roundw
          case rel => exact ⟨i + 1, by omega, by go_num, below_drewN hbr _⟩
          case measure => simp [intOf]; omega
      · go_wp2
        go_ret
        exact ⟨rfl, hbr⟩

/-! ### STEP 1: THE WALK: the Go text returns true. 'Below': nothing that lay there has changed. Part the cases AHEAD of 'go_enter' where a test parts the walk; take each callee by a contract of your own. -/
theorem walk (a0 : Int) (a1 : Int) (w0 : (Lit.int .u32 a0).wf = true) (w1 : (Lit.int .i64 a1).wf = true) (w : World) :
    Calls Try.prog 8 #[.int .u32 a0, .int .i64 a1] w fun e w' => e = .returned (.bool true) ∧ Below w.heap.size w w' := by
  obtain ⟨x, rfl⟩ := bvOf a0 w0
  clear w0
  by_cases h1 : a1 < 0
  · go_enter Try.func8, Try.ntmps8
    go_wp2_with fail
    go_ret
    exact ⟨rfl, Below.refl _ _⟩
  · by_cases h2 : 8 < a1
    · go_enter Try.func8, Try.ntmps8
      go_wp2_with fail
      go_ret
      exact ⟨rfl, Below.refl _ _⟩
    · obtain ⟨k, rfl⟩ : ∃ k : Nat, a1 = (k : Int) := ⟨a1.toNat, by omega⟩
      exact inside x k (by omega) w

/-! ### THE ROW's STEP: WRITTEN OUT: LEAVE IT -/
set_option maxRecDepth 100000 in
theorem lifted (os : Os) (started : os.Started) (H : Type) (enc : TypeId × Value → H) :
    ReturnsInHanded {} Try.checked os 8 .any (Rows.fnModeRightsMoveSpec.pre6 enc Try.prog Try.f8 Rows.fnModeRightsMoveRow.domain false) (Rows.fnModeRightsMoveSpec.post enc Try.prog Try.f8 false true false false) := by
  refine returnsInHanded_of_change (C := Try.checked) own started (by kernel_rfl) Try.func8
    (ChangeSpec.witness6 (enc := enc) (C := Try.checked) false ⟨#[], #[.int .u32 0, .int .i64 0], []⟩ 8 (by kernel_rfl) (by kernel_rfl) (by kernel_rfl) (by kernel_rfl)) ?_
  intro W base args ds gs before hval0 hW hcnd _
  have hval : ∀ (j : Nat) t v, Try.f8.params[j]? = some t → args[j]? = some v → Value.okWide Try.prog W .any base t v := hval0
  have hW' := hW
  obtain ⟨p, q, hA0, hV, rfl, hfz, hnd⟩ := hW
  have hA : DataW.TrodAll enc Try.prog W 0 (fun _ => true) true Try.f8.params.toList args.toList ds p := hA0
  rw [Try.params8] at hA hval
  obtain ⟨v0, vs0, d0, ds0, p0, q0, hargs, rfl, rfl, h0, r0⟩ := trodAll_cons hA
  obtain ⟨v1, vs1, d1, ds1, p1, q1, rfl, rfl, rfl, h1, r1⟩ := trodAll_cons r0
  obtain ⟨rfl, rfl, rfl⟩ := trodAll_nil r1
  obtain rfl : args = #[v0, v1] := by cases args; simp_all
  obtain ⟨rfl, rfl⟩ := trodVars_none hV
  obtain ⟨a0, rfl, rfl, rfl, w0⟩ := open_int Try.underlying22 (hval 0 22 v0 rfl rfl) h0
  obtain ⟨a1, rfl, rfl, rfl, w1⟩ := open_int Try.underlying3 (hval 1 3 v1 rfl rfl) h1
  clear hA0 hval0
  simp only [List.append_nil] at hW'
  refine (walk a0 a1 w0 w1 W).mono fun e W' ⟨he, hg⟩ => ?_
  subst he
  exact ⟨_, rfl, _, _, _, [], [], [], hW', trodAll_mk1 (shut_bool Try.underlying4 _), (trodAll_cons_mk (shut_int Try.underlying22 w0) (trodAll_cons_mk (shut_int Try.underlying3 w1) trodAll_mk0)), rfl, hg.frame _, fun h => by cases h⟩

theorem over : Rows.fnModeRightsMoveRow.holds Try.pinned (OpenSpec.ofChange Rows.fnModeRightsMoveSpec) :=
  OpenClaim.holds_of_wide 8 Try.f8 rfl rfl rfl rfl rfl rfl rfl ⟨rfl, rfl, rfl, rfl, rfl⟩ rfl rfl rfl rfl rfl (by kernel_rfl) Try.func8 (by kernel_rfl)
    (of_decide_eq_true (by kernel_rfl)) (by unfold Func.isWrapper; first | (rw [if_pos (by decide +kernel)]; kernel_rfl) | (rw [if_neg (by decide +kernel)]; exact ⟨rfl, rfl⟩))
    (fun os started H enc _ => lifted os started H enc)

/-- ████ THE STATEMENT ████ -/
theorem proved : Rows.FnModeRightsMoveSaid :=
  over
#print axioms proved
end Go.Proofs.Ytpikgcbmbepmcaa.fnModeRightsMove
