/-
  Proved here: FnModeOrder returns true for every uint32. No condition.
  The frame of the text was written by the kit's proof-skeleton.mjs; the walk is ours.
-/
import Derived.Test.YtpikgcbmbepmcaaRows
import Derived.WalkKit
import Derived.ProofKit
import Derived.OpenShut
import Derived.Test.YtpikgcbmbepmcaaSpecS
namespace Go.Proofs.Ytpikgcbmbepmcaa.fnModeOrder
open Go.ChangeShapes Go.WideShapes Go.ChangeAt Go.RowKit
set_option linter.unusedVariables false      -- a walk need not use every 'w<i>' (that an integer argument fits its kind)

theorem own : ownKnob Try.prog.godebug = none := by kernel_rfl

theorem strOf_data (l : List UInt8) : (strOf l).data.toList = l := rfl
/-- The places of the letters of the first n bits that are set. -/
def idx (x : BitVec 32) : Nat → List Nat
  | 0 => []
  | k + 1 => idx x k ++ (if bitOf x (31 - k) = true then [k] else [])
theorem front_idx (x : BitVec 32) (n : Nat) : front x n = (idx x n).map letterAt := by
  induction n with
  | zero => rfl
  | succ n ih =>
    rw [front, idx, List.map_append, ih]
    split <;> rfl
theorem idx_lt (x : BitVec 32) (n : Nat) : ∀ q ∈ idx x n, q < n := by
  induction n with
  | zero => intro q hq; simp [idx] at hq
  | succ n ih =>
    intro q hq
    rw [idx, List.mem_append] at hq
    rcases hq with hq | hq
    · have := ih q hq; omega
    · split at hq
      · simp at hq; omega
      · simp at hq
theorem idx_sorted (x : BitVec 32) (n : Nat) : List.Pairwise (· < ·) (idx x n) := by
  induction n with
  | zero => exact List.Pairwise.nil
  | succ n ih =>
    rw [idx, List.pairwise_append]
    refine ⟨ih, ?_, ?_⟩
    · split <;> simp
    · intro a ha b hb
      have := idx_lt x n a ha
      split at hb
      · simp at hb; omega
      · simp at hb
theorem idx_next (x : BitVec 32) (n i q q' : Nat) (h1 : (idx x n)[i]? = some q) (h2 : (idx x n)[i + 1]? = some q') : q < q' := by
  obtain ⟨a1, b1⟩ := List.getElem?_eq_some_iff.1 h1
  obtain ⟨a2, b2⟩ := List.getElem?_eq_some_iff.1 h2
  have := (List.pairwise_iff_getElem.1 (idx_sorted x n)) i (i + 1) a1 a2 (by omega)
  omega
theorem idx_at (x : BitVec 32) (i : Nat) (h : i < (front x 13).length) : ∃ q, q < 13 ∧ (idx x 13)[i]? = some q ∧ (front x 13)[i]? = some (letterAt q) := by
  rw [front_idx] at h ⊢
  have h' : i < (idx x 13).length := by simpa using h
  refine ⟨(idx x 13)[i], ?_, List.getElem?_eq_getElem h', ?_⟩
  · exact idx_lt x 13 _ (List.getElem_mem h')
  · rw [List.getElem?_map, List.getElem?_eq_getElem h']; rfl

set_option maxHeartbeats 1000000 in
theorem inside (x : BitVec 32) (hne : (front x 13).length ≠ 0) (w : World) : Calls Try.prog 7 #[.int .u32 (x.toNat : Int)] w fun e w' => e = .returned (.bool true) ∧ Below w.heap.size w w' := by
  obtain ⟨s, hs⟩ : ∃ s, s = strOf (front x 13) := ⟨_, rfl⟩
  obtain ⟨n, hn⟩ : ∃ n, n = (front x 13).length := ⟨_, rfl⟩
  have hfs : frontStr x = front x 13 := by rw [frontStr, if_neg hne]
  have hsz : s.size = n := by rw [hs, hn, strOf_size]
  have hn13 : n ≤ 13 := by rw [hn]; exact front_length x 13
  have hAt : ∀ i (h : i < s.size), ∃ q, q < 13 ∧ (idx x 13)[i]? = some q ∧ s[i] = letterAt q := by
    intro i h
    obtain ⟨q, h1, h2, h3⟩ := idx_at x i (by omega)
    refine ⟨q, h1, h2, ?_⟩
    have hd : s.data.toList = front x 13 := by rw [hs]; rfl
    have : s.data.toList[i]? = some s[i] := by rw [List.getElem?_eq_getElem (by simpa using h)]; rfl
    rw [hd, h3] at this
    exact (Option.some.inj this).symm
  have HA := Lib.hid hAt
  have HF := Lib.hid (show ∀ w, Calls Try.prog 19 #[.string (modeStr x)] w fun e w' => e = .returned (.string s) ∧ w = w' from by intro w; rw [hs, ← hfs]; exact frontL_any x w)
  have HC := Lib.hid (show ∀ w, Calls Try.prog 18 #[.int .u32 (x.toNat : Int)] w fun e w' => e = .returned (.int .i64 (n : Int)) ∧ w = w' from by intro w; rw [hn]; exact count_any x w)
  have hn0 : ((n : Int) == 0) = false := beq_false_of_ne (by omega)
  have hsn : ((s.size : Int) == (n : Int)) = true := by rw [hsz]; simp
  have hs13 : s.size ≤ 13 := by omega
  clear hs hn hfs hAt hne hsz
  go_enter Try.func7, Try.ntmps7
  go_wp2_with (first | (go_at_call 15; refine (modeString_any _ _).mono ?_; rintro e W1 ⟨rfl, hb1⟩) | (go_at_call 19; refine (HF.out _).mono ?_; rintro e w' ⟨rfl, rfl⟩) | (go_at_call 18; refine (HC.out _).mono ?_; rintro e w' ⟨rfl, rfl⟩))
  go_loopw [4, 17] (fun a v wr => ∃ i A : Nat, i ≤ s.size ∧ v = .int .i64 (i : Int) ∧ a = .int .i64 (A : Int) ∧ Hid (∀ q, (idx x 13)[i]? = some q → 31 - q < A) ∧ A ≤ 32 ∧ Below w.heap.size w wr) (fun _ v _ => s.size - (intOf v).toNat)
  case atStart => exact ⟨0, 32, by omega, rfl, rfl, fun q _ => by omega, by omega, hb1⟩
  case round =>
    obtain ⟨i, A, hi, rfl, rfl, HQ, hA32, hbr⟩ := hrel
    obtain ⟨wo, rfl⟩ : ∃ wo : World, wo = wr := ⟨_, rfl⟩
    by_cases hlt : i < s.size
    · obtain ⟨q, hq13, hq, hsi⟩ := HA.out i hlt
      have hqA := HQ.out q hq
      have hsi2 : (s[i].toNat : Int) = ((letterAt q).toNat : Int) := by rw [hsi]
      have HI := Lib.hid hq
      have b1 : (i : Int) < (s.size : Int) := by omega
      clear hq hsi
      go_wp2_with fail
      go_loopw [6] (fun v wr => ∃ k : Nat, 19 ≤ k ∧ k ≤ 31 - q ∧ v = .int .i64 (k : Int) ∧ Below w.heap.size w wr) (fun v _ => 32 - (intOf v).toNat)
      case atStart => exact ⟨19, by omega, by omega, rfl, hbr⟩
      case round =>
        obtain ⟨k, hk1, hk2, rfl, hbk⟩ := hrel
        have hk32 : k < 32 := by omega
        have hkd : decide ((k : Int) < 32) = true := decide_eq_true (by omega)
        by_cases e : 31 - k = q
        · have hE : (((letterAt (31 - k)).toNat : Int) != ((letterAt q).toNat : Int)) = false := by rw [e]; simp
          have hkA : decide ((A : Int) ≤ (k : Int)) = false := decide_eq_false (by omega)
          have hkq : k = 31 - q := by omega
          have HKQ := Lib.hid hkq
          clear e hkq
          go_wp2_with fail
          go_quiet ((go_at_call 16; exact quiet_same (letter_any _ _ hk1 hk32)))
          go_wp2_with fail
          go_roundw
          case rel => exact ⟨i + 1, k, by omega, by go_num, rfl, fun q' hq' => by have h1 := idx_next x 13 i q q' HI.out hq'; have h2 := HKQ.out; have h3 := idx_lt x 13 q' (List.mem_of_getElem? hq'); omega, by omega, below_drewN hbk _⟩
          case measure => simp [intOf]; omega
        · have hE : (((letterAt (31 - k)).toNat : Int) != ((letterAt q).toNat : Int)) = true := by
            rw [bne_iff_ne]; intro h; exact e (letter_apart _ _ (by omega) hq13 h)
          have hk3 : k + 1 ≤ 31 - q := by omega
          clear e
          go_wp2_with fail
          go_quiet ((go_at_call 16; exact quiet_same (letter_any _ _ hk1 hk32)))
          go_wp2_with fail
          go_roundw
          case rel => exact ⟨k + 1, by omega, hk3, by go_num, below_drewN hbk _⟩
          case measure => simp [intOf]; omega
    · go_wp2_with (go_at_call 18; refine (HC.out _).mono ?_; rintro e w' ⟨rfl, rfl⟩)
      go_ret
      exact ⟨rfl, hbr⟩

/-! ### STEP 1: THE WALK: the Go text returns true. 'Below': nothing that lay there has changed. Part the cases AHEAD of 'go_enter' where a test parts the walk; take each callee by a contract of your own. -/
theorem walk (a0 : Int) (w0 : (Lit.int .u32 a0).wf = true) (w : World) :
    Calls Try.prog 7 #[.int .u32 a0] w fun e w' => e = .returned (.bool true) ∧ Below w.heap.size w w' := by
  obtain ⟨x, rfl⟩ := bvOf a0 w0
  clear w0
  by_cases h0 : (front x 13).length = 0
  · have hfs : strOf (frontStr x) = ⟨#[45]⟩ := by rw [frontStr_of_zero x h0]; rfl
    have HF := Lib.hid (show ∀ w, Calls Try.prog 19 #[.string (modeStr x)] w fun e w' => e = .returned (.string ⟨#[45]⟩) ∧ w = w' from by intro w; rw [← hfs]; exact frontL_any x w)
    have HC := Lib.hid (show ∀ w, Calls Try.prog 18 #[.int .u32 (x.toNat : Int)] w fun e w' => e = .returned (.int .i64 0) ∧ w = w' from by intro w; have := count_any x w; rw [h0] at this; exact this)
    clear h0 hfs
    go_enter Try.func7, Try.ntmps7
    go_wp2_with (first | (go_at_call 15; refine (modeString_any _ _).mono ?_; rintro e W1 ⟨rfl, hb1⟩) | (go_at_call 19; refine (HF.out _).mono ?_; rintro e w' ⟨rfl, rfl⟩) | (go_at_call 18; refine (HC.out _).mono ?_; rintro e w' ⟨rfl, rfl⟩))
    go_ret
    exact ⟨rfl, hb1⟩
  · exact inside x h0 w

/-! ### THE ROW's STEP: WRITTEN OUT: LEAVE IT -/
set_option maxRecDepth 100000 in
theorem lifted (os : Os) (started : os.Started) (H : Type) (enc : TypeId × Value → H) :
    ReturnsInHanded {} Try.checked os 7 .any (Rows.fnModeOrderSpec.pre6 enc Try.prog Try.f7 Rows.fnModeOrderRow.domain false) (Rows.fnModeOrderSpec.post enc Try.prog Try.f7 false true false false) := by
  refine returnsInHanded_of_change (C := Try.checked) own started (by kernel_rfl) Try.func7
    (ChangeSpec.witness6 (enc := enc) (C := Try.checked) false ⟨#[], #[.int .u32 0], []⟩ 8 (by kernel_rfl) (by kernel_rfl) (by kernel_rfl) (by kernel_rfl)) ?_
  intro W base args ds gs before hval0 hW hcnd _
  have hval : ∀ (j : Nat) t v, Try.f7.params[j]? = some t → args[j]? = some v → Value.okWide Try.prog W .any base t v := hval0
  have hW' := hW
  obtain ⟨p, q, hA0, hV, rfl, hfz, hnd⟩ := hW
  have hA : DataW.TrodAll enc Try.prog W 0 (fun _ => true) true Try.f7.params.toList args.toList ds p := hA0
  rw [Try.params7] at hA hval
  obtain ⟨v0, vs0, d0, ds0, p0, q0, hargs, rfl, rfl, h0, r0⟩ := trodAll_cons hA
  obtain ⟨rfl, rfl, rfl⟩ := trodAll_nil r0
  obtain rfl : args = #[v0] := by cases args; simp_all
  obtain ⟨rfl, rfl⟩ := trodVars_none hV
  obtain ⟨a0, rfl, rfl, rfl, w0⟩ := open_int Try.underlying22 (hval 0 22 v0 rfl rfl) h0
  clear hA0 hval0
  simp only [List.append_nil] at hW'
  refine (walk a0 w0 W).mono fun e W' ⟨he, hg⟩ => ?_
  subst he
  exact ⟨_, rfl, _, _, _, [], [], [], hW', trodAll_mk1 (shut_bool Try.underlying4 _), (trodAll_cons_mk (shut_int Try.underlying22 w0) trodAll_mk0), rfl, hg.frame _, fun h => by cases h⟩

theorem over : Rows.fnModeOrderRow.holds Try.pinned (OpenSpec.ofChange Rows.fnModeOrderSpec) :=
  OpenClaim.holds_of_wide 7 Try.f7 rfl rfl rfl rfl rfl rfl rfl ⟨rfl, rfl, rfl, rfl, rfl⟩ rfl rfl rfl rfl rfl (by kernel_rfl) Try.func7 (by kernel_rfl)
    (of_decide_eq_true (by kernel_rfl)) (by unfold Func.isWrapper; first | (rw [if_pos (by decide +kernel)]; kernel_rfl) | (rw [if_neg (by decide +kernel)]; exact ⟨rfl, rfl⟩))
    (fun os started H enc _ => lifted os started H enc)

/-- ████ THE STATEMENT ████ -/
theorem proved : Rows.FnModeOrderSaid :=
  over
#print axioms proved
end Go.Proofs.Ytpikgcbmbepmcaa.fnModeOrder
