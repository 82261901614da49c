/-
  Proved here: FnLevelOfString returns true for every int, the library's tables laid as their initialisers lay them.
  The listed variables are tied to the program's text by the given tie; the frame follows the kit's worked proofs of tied cards; the walk is ours.
-/
import Derived.Test.YthnidaaenolndaaDoorCards
import Derived.Test.YthnidaaenolndaaDoorTie
import Derived.Test.YthnidaaenolndaaDoorTab3
import Derived.WalkKit
import Derived.ProofKit
import Derived.OpenShut
import Derived.LaidMore
import Derived.SevenTiedAt
import Derived.SizedLaws
import Derived.Stop.Joined
import Derived.Test.YthnidaaenolndaaDoorBeg
import Derived.Laws.IdiomStrings
namespace Go.Proofs.YthnidaaenolndaaDoor.fnLevelOfString
open Go.ChangeShapes Go.WideShapes Go.ChangeAt Go.WideMaps Go.WideElems Go.RowKit
open Go.ChangeMaps (open_string shut_string)
set_option linter.unusedVariables false

def nmAt (i : Nat) : List UInt8 := if i = 0 then nameD else if i = 1 then nameI else if i = 2 then nameW else nameE
theorem nm_len (i : Nat) : 4 ≤ (nmAt i).length ∧ (nmAt i).length ≤ 5 := by
  unfold nmAt
  split
  · decide
  · split
    · decide
    · split <;> decide
theorem nm_apart (i q : Nat) (hi : i < 4) (hq : q < 4) (h : i ≠ q) (R : List UInt8) : pre (nmAt i) (nmAt q ++ R) = false := by
  have hd : i = 0 ∨ i = 1 ∨ i = 2 ∨ i = 3 := by omega
  have he : q = 0 ∨ q = 1 ∨ q = 2 ∨ q = 3 := by omega
  rcases hd with rfl | rfl | rfl | rfl <;> rcases he with rfl | rfl | rfl | rfl <;> first | exact absurd rfl h | rfl
def nmCells : Array Value := #[.string ⟨#[68, 69, 66, 85, 71]⟩, .string ⟨#[73, 78, 70, 79]⟩, .string ⟨#[87, 65, 82, 78]⟩, .string ⟨#[69, 82, 82, 79, 82]⟩]
theorem nm_cell (i : Nat) (h : i < 4) : nmCells[i]? = some (.string (strOf (nmAt i))) := by
  have hd : i = 0 ∨ i = 1 ∨ i = 2 ∨ i = 3 := by omega
  rcases hd with rfl | rfl | rfl | rfl <;> rfl
theorem nm_at (w : World) (i : Nat) (h : i < 4) : (w.alloc (.cells nmCells 9)).cell? ⟨w.heap.size, i, none⟩ = some (.string (strOf (nmAt i))) :=
  (World.cell?_alloc_at _ _ _ _ rfl).trans (nm_cell i h)
/-- A level is a name's place and how far it is from it. -/
theorem level_parts (l : Int) : ∃ (q : Nat) (v : Int), q < 4 ∧ l = 4 * (q : Int) - 4 + v ∧ levList l = nmAt q ++ offS v ∧ v = levOff l ∧ (q = 0 ∨ 0 ≤ v) := by
  rw [levList_eq]
  unfold levName levOff
  by_cases a : l < 0
  · exact ⟨0, l + 4, by omega, by omega, by rw [if_pos a, if_pos a]; rfl, by rw [if_pos a], .inl rfl⟩
  · by_cases b : l < 4
    · exact ⟨1, l, by omega, by omega, by rw [if_neg a, if_neg a, if_pos b, if_pos b]; rfl, by rw [if_neg a, if_pos b], .inr (by omega)⟩
    · by_cases c : l < 8
      · exact ⟨2, l - 4, by omega, by omega, by rw [if_neg a, if_neg a, if_neg b, if_neg b, if_pos c, if_pos c]; rfl, by rw [if_neg a, if_neg b, if_pos c], .inr (by omega)⟩
      · exact ⟨3, l - 8, by omega, by omega, by rw [if_neg a, if_neg a, if_neg b, if_neg b, if_neg c, if_neg c]; rfl, by rw [if_neg a, if_neg b, if_neg c], .inr (by omega)⟩
/-- One byte more: a digit counts, another byte does not. -/
def stepV (n : Nat) (b : UInt8) : Nat := if 48 ≤ b.toNat ∧ b.toNat ≤ 57 then 10 * n + (b.toNat - 48) else n
def valV (l : List UInt8) : Nat := l.foldl stepV 0
theorem stepV_ge (n : Nat) (b : UInt8) : n ≤ stepV n b := by unfold stepV; split <;> omega
theorem fold_ge (l : List UInt8) (n : Nat) : n ≤ l.foldl stepV n := by
  induction l generalizing n with
  | nil => exact Nat.le_refl _
  | cons b l ih => exact Nat.le_trans (stepV_ge n b) (ih _)
theorem valV_snoc (l : List UInt8) (b : UInt8) : valV (l ++ [b]) = stepV (valV l) b := by simp [valV]
theorem valV_take (l : List UInt8) (k : Nat) : valV (l.take k) ≤ valV l := by
  have : valV l = (l.drop k).foldl stepV (valV (l.take k)) := by
    rw [valV, valV, ← List.foldl_append, List.take_append_drop]
  rw [this]; exact fold_ge _ _
theorem valV_dec (m : Nat) : valV (Lib.decDigits m) = m := by
  induction m using Nat.strongRecOn with
  | _ m ih =>
    by_cases h : m < 10
    · rw [Lib.decDigits_one h]
      have e : (UInt8.ofNat (48 + m)).toNat = 48 + m := by rw [UInt8.toNat_ofNat']; exact Nat.mod_eq_of_lt (by omega)
      show stepV 0 _ = m
      unfold stepV
      rw [e, if_pos (by omega)]; omega
    · rw [Lib.decDigits, dif_neg h, valV_snoc, ih (m / 10) (by omega)]
      have e : (UInt8.ofNat (48 + m % 10)).toNat = 48 + m % 10 := by rw [UInt8.toNat_ofNat']; exact Nat.mod_eq_of_lt (by omega)
      unfold stepV
      rw [e, if_pos (by omega)]; omega
theorem valV_sign (c : UInt8) (l : List UInt8) (h : c.toNat < 48) : valV (c :: l) = valV l := by
  show l.foldl stepV (stepV 0 c) = _
  have : stepV 0 c = 0 := by unfold stepV; rw [if_neg (by omega)]
  rw [this]; rfl
theorem take_snoc (l : List UInt8) (k : Nat) (b : UInt8) (h : l[k]? = some b) : l.take (k + 1) = l.take k ++ [b] := by
  obtain ⟨h1, h2⟩ := List.getElem?_eq_some_iff.1 h
  rw [List.take_succ_eq_append_getElem h1, h2]
/-- A string's bytes in a new slice. -/
theorem bytes_of (w : World) (l : List UInt8) : ∃ (C : Nat) (W2 : World), (convert 9 26 (.string (strOf l))).run Tryd.prog w = .ok (.slice (some ⟨w.heap.size, 0, none⟩) l.length C) W2 ∧ Below w.heap.size w W2 ∧
    (∀ (i : Nat) (b : UInt8), l[i]? = some b → W2.cell? ⟨w.heap.size, i, none⟩ = some (.int .u8 (b.toNat : Int))) := by
  have h := run_bytes_of_string (P := Tryd.prog) w 9 26 5 (strOf l) Tryd.underlying9 Tryd.underlying26 Tryd.underlying5
  rw [strOf_size] at h
  refine ⟨_, _, h, (Below.drew (Below.refl _ _)).alloc (Nat.le_refl _) _, ?_⟩
  intro i b hb
  have hi : i < l.length := (List.getElem?_eq_some_iff.1 hb).1
  refine (World.cell?_alloc_mark w.drew _ _ _ i).trans ?_
  have hs : (strOf l).data.toList = l := rfl
  rw [bytesRow, Array.getElem?_append_left (by simp [strOf]; exact hi)]
  rw [Array.getElem?_map, ← Array.getElem?_toList, hs, hb]
  rfl
theorem slice_tail (w : World) (M R : List UInt8) (h : M.length + R.length ≤ 1000) :
    (Instr.slice 9 (.string (strOf (M ++ R))) (some (.int .i64 ((strOf M).size : Int))) none none).run Tryd.prog w = .ok (.string (strOf R)) w := by
  have e1 : (strOf (M ++ R)).size = M.length + R.length := by rw [strOf_size, List.length_append]
  have e2 := strOf_size M
  rw [run_slice_string_from_if w 9 (strOf (M ++ R)) .i64 _ Tryd.underlying9, if_pos (by omega)]
  have e3 : ((strOf M).size : Int).toNat = M.length := by omega
  rw [e3, e1]
  congr 2
  apply ByteArray.ext
  apply Array.ext'
  simp [strOf]

/-- What stands behind the name says the number's sign. -/
def Sign (S : ByteArray) (k : Nat) (R : List UInt8) (m : Nat) (v : Int) : Prop :=
  (R = [] ∧ v = (m : Int)) ∨ (∃ h : k < S.size, S[k].toNat = 43 ∧ 0 < R.length ∧ v = (m : Int)) ∨ (∃ h : k < S.size, S[k].toNat = 45 ∧ 0 < R.length ∧ v = -(m : Int))

set_option maxHeartbeats 2000000 in
theorem core (a0 : Int) (q : Nat) (v : Int) (S : ByteArray) (R : List UInt8) (m : Nat) (w : World) (hT : Tab w) (hq : q < 4) (hlv : a0 = 4 * (q : Int) - 4 + v) (hm : valV R = m) (hmx : (m : Int) ≤ 9223372036854775807)
    (hab : -9223372036854775808 ≤ a0 ∧ a0 ≤ 9223372036854775807)
    (hL : ∀ w, Tab w → Calls Tryd.prog 11 #[.int .i64 a0] w fun e w' => e = .returned (.string S) ∧ Below w.heap.size w w')
    (hB0 : ∀ i, i < q → ∀ w, Calls Tryd.prog 12 #[.string S, .string (strOf (nmAt i))] w fun e w' => e = .returned (.bool false) ∧ w = w')
    (hB1 : ∀ w, Calls Tryd.prog 12 #[.string S, .string (strOf (nmAt q))] w fun e w' => e = .returned (.bool true) ∧ w = w')
    (hsl0 : ∀ w, (Instr.slice 9 (.string S) (some (.int .i64 ((strOf (nmAt q)).size : Int))) none none).run Tryd.prog w = .ok (.string (strOf R)) w)
    (hS1 : S.size = (strOf (nmAt q)).size + R.length) (hS2 : S.size ≤ 30) (hsg : Sign S (strOf (nmAt q)).size R m v) :
    Calls Tryd.prog 7 #[.int .i64 a0] w fun e w' => e = .returned (.bool true) ∧ Below w.heap.size w w' := by
  have HL := Lib.hid hL
  have HB0 := Lib.hid hB0
  have HB1 := Lib.hid hB1
  have HSL := Lib.hid hsl0
  have HS := Lib.hid hS1
  have HG := Lib.hid hsg
  have HV := Lib.hid hlv
  have HMV := Lib.hid hm
  clear hL hB0 hB1 hsl0 hS1 hsg hlv hm
  go_enter Tryd.func7, Tryd.ntmps7
  go_wp2_with fail
  refine (HL.out _ hT).mono ?_
  rintro e W1 ⟨rfl, hb1⟩
  have hcells := nm_at W1
  have HC := Lib.hid hcells
  clear hcells
  go_wp2_with fail
  have hb2 : Below w.heap.size w (W1.alloc (.cells nmCells 9)) := hb1.alloc hb1.size _
  go_loop [13] (fun x => ∃ i : Nat, i ≤ q ∧ x = .int .i64 (i : Int)) (fun x => 4 - (intOf x).toNat)
  case atStart => exact ⟨0, by omega, rfl⟩
  case round =>
    obtain ⟨i, hi, rfl⟩ := hrel
    have hc : (W1.alloc (.cells #[.string ⟨#[68, 69, 66, 85, 71]⟩, .string ⟨#[73, 78, 70, 79]⟩, .string ⟨#[87, 65, 82, 78]⟩, .string ⟨#[69, 82, 82, 79, 82]⟩] 9)).cell? ⟨W1.heap.size, i, none⟩ = some (.string (strOf (nmAt i))) := HC.out i (by omega)
    have hi4 : i < 4 := by omega
    generalize hW2 : W1.alloc (.cells #[.string ⟨#[68, 69, 66, 85, 71]⟩, .string ⟨#[73, 78, 70, 79]⟩, .string ⟨#[87, 65, 82, 78]⟩, .string ⟨#[69, 82, 82, 79, 82]⟩] 9) = Wn at *
    have hb3 : Below w.heap.size w Wn := by rw [← hW2]; exact hb2
    clear hW2 hb2
    by_cases hlt : i < q
    · go_wp2_with fail
      refine (HB0.out i hlt _).mono ?_
      rintro e w' ⟨rfl, rfl⟩
      go_wp2_with fail
      go_round
      case rel => exact ⟨i + 1, by omega, by go_num⟩
      case measure => simp [intOf]; omega
    · obtain rfl : i = q := by omega
      obtain ⟨C, W3, hcv, hb4, hce⟩ := bytes_of Wn R
      have HCE := Lib.hid hce
      have hsl := HSL.out Wn
      clear hce HSL hlt HC
      generalize strOf (nmAt i) = M at *
      have hM30 : M.size ≤ 30 := by have := HS.out; omega
      have hR30 : R.length ≤ 30 := by have := HS.out; omega
      go_wp2_with fail
      refine (HB1.out _).mono ?_
      rintro e w' ⟨rfl, rfl⟩
      go_wp2_with fail
      go_loop [6, 27] (fun x y => ∃ k n : Nat, k ≤ R.length ∧ y = .int .i64 (k : Int) ∧ Hid (n = valV (R.take k)) ∧ n ≤ m ∧ x = .int .i64 (n : Int)) (fun _ y => R.length - (intOf y).toNat)
      case atStart => exact ⟨0, 0, by omega, rfl, rfl, by omega, rfl⟩
      case round =>
        obtain ⟨k, n, hk, rfl, HN, hnm, rfl⟩ := hrel
        by_cases hlt : k < R.length
        · obtain ⟨b, hbk⟩ : ∃ b, R[k]? = some b := ⟨R[k], List.getElem?_eq_getElem hlt⟩
          have hcell := HCE.out k b hbk
          have hst : valV (R.take (k + 1)) = stepV n b := by rw [take_snoc R k b hbk, valV_snoc, ← HN.out]
          have hle : stepV n b ≤ m := by rw [← hst, ← HMV.out]; exact valV_take R (k + 1)
          have hb255 : (b.toNat : Int) ≤ 255 := by have := b.toNat_lt; omega
          have HST := Lib.hid hst
          clear hst hbk
          by_cases hd : 48 ≤ b.toNat ∧ b.toNat ≤ 57
          · have hs2 : stepV n b = 10 * n + (b.toNat - 48) := by rw [stepV, if_pos hd]
            rw [hs2] at hle
            have HS2 := Lib.hid hs2
            have d1 : decide (48 ≤ (b.toNat : Int)) = true := decide_eq_true (by omega)
            have d2 : decide ((b.toNat : Int) ≤ 57) = true := decide_eq_true (by omega)
            obtain ⟨d3, d4⟩ := hd
            have d5 : 10 * (n : Int) + ((b.toNat : Int) - 48) ≤ 9223372036854775807 := by omega
            clear hs2
            go_wp2_with fail
            go_round
            case rel => exact ⟨k + 1, 10 * n + (b.toNat - 48), by omega, by go_num, by show _ = valV (R.take (k + 1)); rw [HST.out, HS2.out], hle, by go_num⟩
            case measure => simp [intOf]; omega
          · have hs2 : stepV n b = n := by rw [stepV, if_neg hd]
            have HS2 := Lib.hid hs2
            clear hs2 hle
            by_cases h48 : 48 ≤ b.toNat
            · have d1 : decide (48 ≤ (b.toNat : Int)) = true := decide_eq_true (by omega)
              have d2 : decide ((b.toNat : Int) ≤ 57) = false := decide_eq_false (by omega)
              clear hd
              go_wp2_with fail
              go_round
              case rel => exact ⟨k + 1, n, by omega, by go_num, by show _ = valV (R.take (k + 1)); rw [HST.out, HS2.out], hnm, rfl⟩
              case measure => simp [intOf]; omega
            · have d1 : decide (48 ≤ (b.toNat : Int)) = false := decide_eq_false (by omega)
              clear hd
              go_wp2_with fail
              go_round
              case rel => exact ⟨k + 1, n, by omega, by go_num, by show _ = valV (R.take (k + 1)); rw [HST.out, HS2.out], hnm, rfl⟩
              case measure => simp [intOf]; omega
        · have hnm2 : n = m := by
            rw [HN.out, ← HMV.out, List.take_of_length_le (by omega)]
          subst hnm2
          have hB4 : Below w.heap.size w W3 := hb3.trans (hb4.mono hb3.size)
          rcases HG.out with ⟨hR, hv⟩ | ⟨h, hc43, hR, hv⟩ | ⟨h, hc45, hR, hv⟩
          · have hMS : S.size ≤ M.size := by have := HS.out; rw [hR] at this; simp at this; omega
            have hgt : decide (M.size < S.size) = false := decide_eq_false (by omega)
            have hfin : (4 * (i : Int) - 4 + (n : Int) == a0) = true := beq_iff_eq.2 (by have := HV.out; omega)
            have hf2 : 4 * (i : Int) - 4 + (n : Int) ≤ 9223372036854775807 := by have := HV.out; omega
            clear hR hv
            go_wp2_with fail
            go_ret
            exact ⟨rfl, hB4⟩
          · have hgt : decide (M.size < S.size) = true := decide_eq_true (by omega)
            have hch : ((S[M.size].toNat : Int) == 45) = false := by rw [hc43]; rfl
            have hfin : (4 * (i : Int) - 4 + (n : Int) == a0) = true := beq_iff_eq.2 (by have := HV.out; omega)
            have hf2 : 4 * (i : Int) - 4 + (n : Int) ≤ 9223372036854775807 := by have := HV.out; omega
            clear hc43 hv
            go_wp2_with fail
            go_ret
            exact ⟨rfl, hB4⟩
          · have hgt : decide (M.size < S.size) = true := decide_eq_true (by omega)
            have hch : ((S[M.size].toNat : Int) == 45) = true := by rw [hc45]; rfl
            have hfin : (4 * (i : Int) - 4 + -(n : Int) == a0) = true := beq_iff_eq.2 (by have := HV.out; omega)
            have hf2 : -9223372036854775808 ≤ 4 * (i : Int) - 4 + -(n : Int) := by have := HV.out; omega
            clear hc45 hv
            go_wp2_with fail
            go_ret
            exact ⟨rfl, hB4⟩

/-- THE WALK: the Go text returns true; nothing that lay there has changed. -/
theorem walk (a0 : Int) (w0 : (Lit.int .i64 a0).wf = true) (w : World) (hT : Tab w) :
    Calls Tryd.prog 7 #[.int .i64 a0] w fun e w' => e = .returned (.bool true) ∧ Below w.heap.size w w' := by
  have hb := bounds_i64 w0
  clear w0
  obtain ⟨q, v, hq, hlv, hL, hv, hqv⟩ := level_parts a0
  have hvb := levOff_bounds a0 (by omega) (by omega)
  rw [← hv] at hvb
  have hol := offS_len v hvb.1 hvb.2
  have hml := nm_len q
  have HL := Lib.hid (show ∀ w, Tab w → Calls Tryd.prog 11 #[.int .i64 a0] w fun e w' => e = .returned (.string (strOf (nmAt q ++ offS v))) ∧ Below w.heap.size w w' from fun w hT => by rw [← hL]; exact levelString_any a0 (by omega) (by omega) w hT)
  have HB0 := Lib.hid (show ∀ i, i < q → ∀ w, Calls Tryd.prog 12 #[.string (strOf (nmAt q ++ offS v)), .string (strOf (nmAt i))] w fun e w' => e = .returned (.bool false) ∧ w = w' from fun i hi w => by
    rw [← nm_apart i q (by omega) hq (by omega) (offS v)]
    exact begins_any _ _ w (by rw [List.length_append]; omega) (by have := nm_len i; omega))
  have HB1 := Lib.hid (show ∀ w, Calls Tryd.prog 12 #[.string (strOf (nmAt q ++ offS v)), .string (strOf (nmAt q))] w fun e w' => e = .returned (.bool true) ∧ w = w' from fun w => by
    rw [← pre_append (nmAt q) (offS v)]
    exact begins_any _ _ w (by rw [List.length_append]; omega) (by omega))
  have hsl := fun w => slice_tail w (nmAt q) (offS v) (by omega)
  have hS1 : (strOf (nmAt q ++ offS v)).size = (strOf (nmAt q)).size + (offS v).length := by rw [strOf_size, strOf_size, List.length_append]
  have hS2 : (strOf (nmAt q)).size ≤ 5 := by rw [strOf_size]; omega
  refine core a0 q v (strOf (nmAt q ++ offS v)) (offS v) v.natAbs w hT hq hlv ?_ (by omega) hb HL.out HB0.out HB1.out hsl hS1 (by rw [hS1, strOf_size]; omega) ?_
  · by_cases h0 : v = 0
    · subst h0; rfl
    · by_cases h1 : 0 < v
      · rw [offS_plus v v.natAbs (by omega) h1, valV_sign _ _ (by decide), valV_dec]
      · rw [offS_minus v v.natAbs (by omega) (by omega), valV_sign _ _ (by decide), valV_dec]
  · have hget : ∀ (c : UInt8) (D : List UInt8), offS v = c :: D → ∃ h : (strOf (nmAt q)).size < (strOf (nmAt q ++ offS v)).size, (strOf (nmAt q ++ offS v))[(strOf (nmAt q)).size] = c := by
      intro c D hD
      have hlt : (strOf (nmAt q)).size < (strOf (nmAt q ++ offS v)).size := by rw [hS1, hD]; simp
      refine ⟨hlt, ?_⟩
      have e : (strOf (nmAt q ++ offS v))[(strOf (nmAt q)).size] = (nmAt q ++ offS v)[(nmAt q).length]'(by have e1 := strOf_size (nmAt q); have e2 := strOf_size (nmAt q ++ offS v); omega) := by
        show (nmAt q ++ offS v).toArray[(strOf (nmAt q)).size]'_ = _
        simp [strOf_size]
      rw [e]
      simp [hD]
    by_cases h0 : v = 0
    · exact .inl ⟨by rw [h0]; rfl, by omega⟩
    · by_cases h1 : 0 < v
      · obtain ⟨h, he⟩ := hget _ _ (offS_plus v v.natAbs (by omega) h1)
        exact .inr (.inl ⟨h, by rw [he]; rfl, by rw [offS_plus v v.natAbs (by omega) h1]; simp, by omega⟩)
      · obtain ⟨h, he⟩ := hget _ _ (offS_minus v v.natAbs (by omega) (by omega))
        exact .inr (.inr ⟨h, by rw [he]; rfl, by rw [offS_minus v v.natAbs (by omega) (by omega)]; simp, by omega⟩)

set_option maxRecDepth 100000 in
theorem lifted (os : Os) (started : os.Started) (H : Type) (enc : TypeId × Value → H) :
    ReturnsInHanded {} Tryd.checked os 7 .any (fun w args => (Rows.fnLevelOfStringSpec.pre enc Tryd.prog Tryd.f7 [] false w args ∧ laidMetH Tryd.prog laid3 w) ∧ sizedMet enc Tryd.prog Tryd.f7 (OpenSpec.ofChange Rows.fnLevelOfStringSpec) false w args)
      (Rows.fnLevelOfStringSpec.post enc Tryd.prog Tryd.f7 false true false false) := by
  refine returnsInHanded_of_change_and (C := Tryd.checked) (X := fun w _ => laidMetH Tryd.prog laid3 w) (fun _ _ _ hh h => h.of_heap hh) own started (by kernel_rfl) Tryd.func7
    (ChangeSpec.witness_shaped (enc := enc) (C := Tryd.checked) (os := os) (X := fun w _ => laidMetH Tryd.prog laid3 w) false (World.doorLaid Tryd.prog 24 os) #[.int .i64 0] 8 rfl (World.shaped_of_RefB (by kernel_rfl) (by kernel_rfl)) (by kernel_rfl) (by kernel_rfl) (by kernel_rfl) (door_met os _)) ?_
  intro W base args ds gs before hval0 hW _ _ hL _
  have hval : ∀ (j : Nat) t v, Tryd.f7.params[j]? = some t → args[j]? = some v → Value.okWide Tryd.prog W .any base t v := hval0
  have hW' := hW
  obtain ⟨p, q, hA0, hV, rfl, hfz, hnd⟩ := hW
  have hA : DataW.TrodAll enc Tryd.prog W 0 (fun _ => true) true Tryd.f7.params.toList args.toList ds p := hA0
  rw [Tryd.params7] at hA hval
  obtain ⟨v0, vs0, d0, ds0, p0, q0, hargs, rfl, rfl, h0, r0⟩ := trodAll_cons hA
  obtain ⟨rfl, rfl, rfl⟩ := trodAll_nil r0
  obtain rfl : args = #[v0] := by cases args; simp_all
  obtain ⟨rfl, rfl⟩ := trodVars_none hV
  obtain ⟨a0, rfl, rfl, rfl, w0⟩ := open_int Tryd.underlying3 (hval 0 3 v0 rfl rfl) h0
  clear hA0 hval0
  simp only [List.append_nil] at hW'
  refine (walk a0 w0 W (tab_of_laid hL)).mono fun e W' ⟨he, hg⟩ => ?_
  subst he
  exact ⟨_, rfl, _, _, _, [], [], [], hW', trodAll_mk1 (shut_bool Tryd.underlying4 _), (trodAll_cons_mk (shut_int Tryd.underlying3 w0) trodAll_mk0), rfl, hg.frame _, fun h => by cases h⟩

theorem over : Rows.fnLevelOfStringRow.holds Tryd.pinned (OpenSpec.ofChange Rows.fnLevelOfStringSpec) :=
  OpenClaim.holds_of_wide 7 Tryd.f7 rfl rfl rfl rfl rfl rfl rfl ⟨rfl, rfl, rfl, rfl, rfl⟩ rfl rfl rfl rfl rfl (by kernel_rfl) Tryd.func7 (by kernel_rfl)
    (of_decide_eq_true (by kernel_rfl)) (by unfold Func.isWrapper; first | (rw [if_pos (by decide +kernel)]; kernel_rfl) | (rw [if_neg (by decide +kernel)]; exact ⟨rfl, rfl⟩))
    (fun os started H enc _ => lifted os started H enc)

theorem plain (f : FuncId) (fn : Func) (hf : Tryd.pinned.checked.prog.funcNamed "lib-fingerpost/laws.FnLevelOfString" = some f) (hfn : Tryd.pinned.checked.prog.funcs[f]? = some fn) :
    false = Tryd.pinned.checked.prog.looks [] ∧ ∀ (j : Nat) t, fn.params[j]? = some t → Tryd.pinned.checked.prog.wantsStandIn t = false := by
  obtain rfl : f = 7 := Option.some.inj ((show Tryd.prog.funcNamed "lib-fingerpost/laws.FnLevelOfString" = some 7 by kernel_rfl).symm.trans hf) |>.symm
  obtain rfl : fn = Tryd.f7 := (Option.some.inj (Tryd.func7.symm.trans hfn)).symm
  refine ⟨by kernel_rfl, fun j t ht => ?_⟩
  rw [Tryd.params7] at ht
  have hm : t ∈ [3] := by simpa using Array.mem_of_getElem? ht
  have hall : ([3].all fun u => !Tryd.prog.wantsStandIn u) = true := by kernel_rfl
  exact (show Tryd.prog.wantsStandIn t = false by simpa using List.all_eq_true.1 hall t hm)

/-- ████ THE CARD ████ -/
theorem proved : Rows.FnLevelOfStringCardSaid :=
  Claim7.holds_tied_plain_at .later [] _ _ _ _ over (fun _ h => by cases h) (by kernel_rfl) (fun _ h => by cases h) fnLevelOfString_row_tie rfl ⟨rfl, rfl⟩ (by kernel_rfl) rfl plain (by kernel_rfl)
#print axioms proved
end Go.Proofs.YthnidaaenolndaaDoor.fnLevelOfString
