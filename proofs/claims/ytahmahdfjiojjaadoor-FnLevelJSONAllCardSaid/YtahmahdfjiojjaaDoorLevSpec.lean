/-
  What spec.decimal, spec.names and spec.LevelString compute: their contracts over this translation.
-/
import Derived.Test.YtahmahdfjiojjaaDoorLev
import Derived.LoopN
import Derived.Laws.IdiomStrings
namespace Go.Proofs.YtahmahdfjiojjaaDoor
open Go Go.RowKit

/-- A string of one byte out of a new slice. -/
theorem one_byte (wr : World) (c : Nat) (hc : c < 256) (v : Int) (hv : v = (c : Int)) :
    (convert 31 9 (.slice (some ⟨wr.heap.size, 0, none⟩) 1 1)).run Tryd.prog (wr.alloc (.cells #[.int .u8 v] 5)) = .ok (.string (strOf [UInt8.ofNat c])) (wr.alloc (.cells #[.int .u8 v] 5)) := by
  refine run_convert_bytes_back (wr.alloc (.cells #[.int .u8 v] 5)) 31 9 5 _ 1 [UInt8.ofNat c] Tryd.underlying31 Tryd.underlying5 Tryd.underlying9 ?_
  intro j hj
  obtain rfl : j = 0 := by simpa using hj
  have e : (UInt8.ofNat c).toNat = c := by rw [UInt8.toNat_ofNat']; exact Nat.mod_eq_of_lt hc
  have ha : (⟨wr.heap.size, 0, none⟩ : Addr).add 0 = ⟨wr.heap.size, 0, none⟩ := by simp [Addr.add]
  rw [ha]
  refine (World.cell?_alloc_at _ _ _ _ rfl).trans ?_
  rw [hv]
  simp [e]
theorem dec_big (m : Nat) (h : 10 ≤ m) : Lib.decDigits m = Lib.decDigits (m / 10) ++ [UInt8.ofNat (48 + m % 10)] := by
  rw [Lib.decDigits, dif_neg (by omega)]
theorem dec_len (n : Nat) (hn : n < 18446744073709551616) : (Lib.decDigits n).length ≤ 20 := by
  rw [Lib.decDigits_length]; exact Lib.nDigits_le20 n hn

set_option maxHeartbeats 400000 in
theorem decimal_any (n : Nat) (hn : n < 18446744073709551616) (w : World) :
    Calls Tryd.prog 26 #[.int .u64 (n : Int)] w fun e w' => e = .returned (.string (strOf (Lib.decDigits n))) ∧ Below w.heap.size w w' := by
  have hlen := dec_len n hn
  generalize hD : Lib.decDigits n = D at hlen ⊢
  have HD0 := Lib.hid hD
  have hn2 : (n : Int) ≤ 18446744073709551615 := by omega
  clear hD
  go_enter Tryd.func26, Tryd.ntmps26
  go_wp2_with fail
  go_loopw [0, 3] (fun v s wr => ∃ (m : Nat) (l : List UInt8), v = .int .u64 (m : Int) ∧ m ≤ n ∧ l.length ≤ 20 ∧ s = .string (strOf l) ∧ Hid (D = Lib.decDigits m ++ l) ∧ Below w.heap.size w wr) (fun v _ _ => (intOf v).toNat)
  case atStart => exact ⟨n, [], rfl, by omega, by simp, rfl, by rw [List.append_nil]; exact HD0.out.symm, Below.refl _ _⟩
  case round =>
    obtain ⟨m, l, rfl, hmn, hl, rfl, HD, hbw⟩ := hrel
    by_cases hlt : 10 ≤ m
    · have hcv := one_byte wr (48 + m % 10) (by omega) (48 + (m : Int) % 10) (by omega)
      have hadd := fun W => add_str Tryd.prog W [UInt8.ofNat (48 + m % 10)] l (by simp; omega)
      have HB := Lib.hid (dec_big m hlt)
      generalize UInt8.ofNat (48 + m % 10) = c at hcv hadd HB
      have HL : Hid (D = Lib.decDigits (m / 10) ++ ([c] ++ l)) := by show D = _; rw [HD.out, HB.out, List.append_assoc]
      have hl2 : ([c] ++ l).length ≤ 20 := by have := congrArg List.length HL.out; rw [List.length_append] at this; omega
      go_wp2_with fail
      go_roundw
      case rel => exact ⟨m / 10, [c] ++ l, by go_num, by omega, hl2, rfl, HL, hbw.alloc hbw.size _⟩
      case measure => simp [intOf]; omega
    · have hcv := one_byte wr (48 + m) (by omega) (48 + (m : Int)) (by omega)
      have hadd := fun W => add_str Tryd.prog W [UInt8.ofNat (48 + m)] l (by simp; omega)
      have hone : Lib.decDigits m = [UInt8.ofNat (48 + m)] := Lib.decDigits_one (by omega)
      have hE : [UInt8.ofNat (48 + m)] ++ l = D := by rw [HD.out, hone]
      rw [hE] at hadd
      clear hone hE
      generalize UInt8.ofNat (48 + m) = c at hcv hadd
      go_wp2_with fail
      go_ret
      exact ⟨rfl, hbw.alloc hbw.size _⟩

theorem decimal_at (v : Int) (n : Nat) (hv : v = (n : Int)) (hn : n < 18446744073709551616) (w : World) :
    Calls Tryd.prog 26 #[.int .u64 v] w fun e w' => e = .returned (.string (strOf (Lib.decDigits n))) ∧ Below w.heap.size w w' := by
  rw [hv]; exact decimal_any n hn w
theorem wrap_sub (a b : Int) (h0 : 0 ≤ a - b) (h1 : a - b < 18446744073709551616) : IntKind.u64.wrap (IntKind.u64.wrap a - IntKind.u64.wrap b) = a - b := by
  have e : ∀ n, IntKind.u64.wrap n = n % 18446744073709551616 := fun n => by simp [IntKind.wrap, IntKind.bits, IntKind.signed]
  rw [e, e, e]
  omega
theorem levStr_D (l : Int) (h : l < 0) : levStr l = strOf (nameD ++ offS (l + 4)) := by rw [levStr, levList, if_pos h]
theorem levStr_I (l : Int) (h : 0 ≤ l) (h2 : l < 4) : levStr l = strOf (nameI ++ offS l) := by rw [levStr, levList, if_neg (by omega), if_pos h2]
theorem levStr_W (l : Int) (h : 4 ≤ l) (h2 : l < 8) : levStr l = strOf (nameW ++ offS (l - 4)) := by rw [levStr, levList, if_neg (by omega), if_neg (by omega), if_pos h2]
theorem levStr_E (l : Int) (h : 8 ≤ l) : levStr l = strOf (nameE ++ offS (l - 8)) := by rw [levStr, levList, if_neg (by omega), if_neg (by omega), if_neg (by omega)]
set_option maxHeartbeats 1000000 in
theorem specD_zero (w : World) : Calls Tryd.prog 19 #[.int .i64 (-4)] w fun e w' => e = .returned (.string (strOf nameD)) ∧ Below w.heap.size w w' := by
  go_enter Tryd.func19, Tryd.ntmps19
  go_wp2
  refine wp_loop_rounds 4 ?_
  rw [rounds_succ]
  go_wp2
  rw [rounds_succ]
  go_wp2
  rw [rounds_succ]
  go_wp2
  rw [rounds_succ]
  go_wp2_with (first | (go_at_call 25; go_in))
  go_ret
  exact ⟨rfl, (Below.refl _ _).alloc (Nat.le_refl _) _⟩
set_option maxHeartbeats 1000000 in
theorem specD_plus (l : Int) (h0 : -4 < l) (h1 : l < 0) (w : World) : Calls Tryd.prog 19 #[.int .i64 l] w fun e w' => e = .returned (.string (strOf (nameD ++ 43 :: Lib.decDigits (l + 4).toNat))) ∧ Below w.heap.size w w' := by
  have hlen := dec_len (l + 4).toNat (by omega)
  have HD := Lib.hid (fun v hv => decimal_at v (l + 4).toNat hv (by omega))
  generalize Lib.decDigits (l + 4).toNat = D at hlen HD
  have a1 : ∀ W, (Op.stringOp .add ⟨#[68, 69, 66, 85, 71]⟩ ⟨#[43]⟩).run Tryd.prog W = .ok (.string (strOf (nameD ++ [43]))) W := fun W => add_str Tryd.prog W nameD [43] (by decide)
  have a2 : ∀ W, (Op.stringOp .add (strOf (nameD ++ [43])) (strOf D)).run Tryd.prog W = .ok (.string (strOf (nameD ++ 43 :: D))) W := fun W => by
    rw [add_str Tryd.prog W (nameD ++ [43]) D (by simp [nameD]; omega), List.append_assoc]; rfl
  have g1 : IntKind.u64.wrap (IntKind.u64.wrap l - IntKind.u64.wrap (-4)) = l - (-4) := wrap_sub _ _ (by omega) (by omega)
  go_enter Tryd.func19, Tryd.ntmps19
  go_wp2
  refine wp_loop_rounds 4 ?_
  rw [rounds_succ]
  go_wp2
  rw [rounds_succ]
  go_wp2
  rw [rounds_succ]
  go_wp2
  rw [rounds_succ]
  go_wp2_with (first | (go_at_call 25; go_in))
  refine (HD.out _ (by omega) _).mono ?_
  rintro e W1 ⟨rfl, hb1⟩
  go_wp2_with fail
  go_ret
  exact ⟨rfl, Below.then_ ((Below.refl _ _).alloc (Nat.le_refl _) _) hb1⟩
set_option maxHeartbeats 1000000 in
theorem specD_minus (l : Int) (h0 : l < -4) (h1 : -9223372036854775808 ≤ l) (w : World) : Calls Tryd.prog 19 #[.int .i64 l] w fun e w' => e = .returned (.string (strOf (nameD ++ 45 :: Lib.decDigits (-4 - l).toNat))) ∧ Below w.heap.size w w' := by
  have hlen := dec_len (-4 - l).toNat (by omega)
  have HD := Lib.hid (fun v hv => decimal_at v (-4 - l).toNat hv (by omega))
  generalize Lib.decDigits (-4 - l).toNat = D at hlen HD
  have a1 : ∀ W, (Op.stringOp .add ⟨#[68, 69, 66, 85, 71]⟩ ⟨#[45]⟩).run Tryd.prog W = .ok (.string (strOf (nameD ++ [45]))) W := fun W => add_str Tryd.prog W nameD [45] (by decide)
  have a2 : ∀ W, (Op.stringOp .add (strOf (nameD ++ [45])) (strOf D)).run Tryd.prog W = .ok (.string (strOf (nameD ++ 45 :: D))) W := fun W => by
    rw [add_str Tryd.prog W (nameD ++ [45]) D (by simp [nameD]; omega), List.append_assoc]; rfl
  have g1 : IntKind.u64.wrap (IntKind.u64.wrap (-4) - IntKind.u64.wrap l) = -4 - l := wrap_sub _ _ (by omega) (by omega)
  go_enter Tryd.func19, Tryd.ntmps19
  go_wp2
  refine wp_loop_rounds 4 ?_
  rw [rounds_succ]
  go_wp2
  rw [rounds_succ]
  go_wp2
  rw [rounds_succ]
  go_wp2
  rw [rounds_succ]
  go_wp2_with (first | (go_at_call 25; go_in))
  refine (HD.out _ (by omega) _).mono ?_
  rintro e W1 ⟨rfl, hb1⟩
  go_wp2_with fail
  go_ret
  exact ⟨rfl, Below.then_ ((Below.refl _ _).alloc (Nat.le_refl _) _) hb1⟩
set_option maxHeartbeats 1000000 in
theorem specI_zero (w : World) : Calls Tryd.prog 19 #[.int .i64 (0)] w fun e w' => e = .returned (.string (strOf nameI)) ∧ Below w.heap.size w w' := by
  go_enter Tryd.func19, Tryd.ntmps19
  go_wp2
  refine wp_loop_rounds 3 ?_
  rw [rounds_succ]
  go_wp2
  rw [rounds_succ]
  go_wp2
  rw [rounds_succ]
  go_wp2_with (first | (go_at_call 25; go_in))
  go_ret
  exact ⟨rfl, (Below.refl _ _).alloc (Nat.le_refl _) _⟩
set_option maxHeartbeats 1000000 in
theorem specI_plus (l : Int) (h0 : 0 < l) (h1 : l < 4) (w : World) : Calls Tryd.prog 19 #[.int .i64 l] w fun e w' => e = .returned (.string (strOf (nameI ++ 43 :: Lib.decDigits (l).toNat))) ∧ Below w.heap.size w w' := by
  have hlen := dec_len (l).toNat (by omega)
  have HD := Lib.hid (fun v hv => decimal_at v (l).toNat hv (by omega))
  generalize Lib.decDigits (l).toNat = D at hlen HD
  have a1 : ∀ W, (Op.stringOp .add ⟨#[73, 78, 70, 79]⟩ ⟨#[43]⟩).run Tryd.prog W = .ok (.string (strOf (nameI ++ [43]))) W := fun W => add_str Tryd.prog W nameI [43] (by decide)
  have a2 : ∀ W, (Op.stringOp .add (strOf (nameI ++ [43])) (strOf D)).run Tryd.prog W = .ok (.string (strOf (nameI ++ 43 :: D))) W := fun W => by
    rw [add_str Tryd.prog W (nameI ++ [43]) D (by simp [nameI]; omega), List.append_assoc]; rfl
  go_enter Tryd.func19, Tryd.ntmps19
  go_wp2
  refine wp_loop_rounds 3 ?_
  rw [rounds_succ]
  go_wp2
  rw [rounds_succ]
  go_wp2
  rw [rounds_succ]
  go_wp2_with (first | (go_at_call 25; go_in))
  refine (HD.out _ (by omega) _).mono ?_
  rintro e W1 ⟨rfl, hb1⟩
  go_wp2_with fail
  go_ret
  exact ⟨rfl, Below.then_ ((Below.refl _ _).alloc (Nat.le_refl _) _) hb1⟩
set_option maxHeartbeats 1000000 in
theorem specW_zero (w : World) : Calls Tryd.prog 19 #[.int .i64 (4)] w fun e w' => e = .returned (.string (strOf nameW)) ∧ Below w.heap.size w w' := by
  go_enter Tryd.func19, Tryd.ntmps19
  go_wp2
  refine wp_loop_rounds 2 ?_
  rw [rounds_succ]
  go_wp2
  rw [rounds_succ]
  go_wp2_with (first | (go_at_call 25; go_in))
  go_ret
  exact ⟨rfl, (Below.refl _ _).alloc (Nat.le_refl _) _⟩
set_option maxHeartbeats 1000000 in
theorem specW_plus (l : Int) (h0 : 4 < l) (h1 : l < 8) (w : World) : Calls Tryd.prog 19 #[.int .i64 l] w fun e w' => e = .returned (.string (strOf (nameW ++ 43 :: Lib.decDigits (l - 4).toNat))) ∧ Below w.heap.size w w' := by
  have hlen := dec_len (l - 4).toNat (by omega)
  have HD := Lib.hid (fun v hv => decimal_at v (l - 4).toNat hv (by omega))
  generalize Lib.decDigits (l - 4).toNat = D at hlen HD
  have a1 : ∀ W, (Op.stringOp .add ⟨#[87, 65, 82, 78]⟩ ⟨#[43]⟩).run Tryd.prog W = .ok (.string (strOf (nameW ++ [43]))) W := fun W => add_str Tryd.prog W nameW [43] (by decide)
  have a2 : ∀ W, (Op.stringOp .add (strOf (nameW ++ [43])) (strOf D)).run Tryd.prog W = .ok (.string (strOf (nameW ++ 43 :: D))) W := fun W => by
    rw [add_str Tryd.prog W (nameW ++ [43]) D (by simp [nameW]; omega), List.append_assoc]; rfl
  go_enter Tryd.func19, Tryd.ntmps19
  go_wp2
  refine wp_loop_rounds 2 ?_
  rw [rounds_succ]
  go_wp2
  rw [rounds_succ]
  go_wp2_with (first | (go_at_call 25; go_in))
  refine (HD.out _ (by omega) _).mono ?_
  rintro e W1 ⟨rfl, hb1⟩
  go_wp2_with fail
  go_ret
  exact ⟨rfl, Below.then_ ((Below.refl _ _).alloc (Nat.le_refl _) _) hb1⟩
set_option maxHeartbeats 1000000 in
theorem specE_zero (w : World) : Calls Tryd.prog 19 #[.int .i64 (8)] w fun e w' => e = .returned (.string (strOf nameE)) ∧ Below w.heap.size w w' := by
  go_enter Tryd.func19, Tryd.ntmps19
  go_wp2
  refine wp_loop_rounds 1 ?_
  rw [rounds_succ]
  go_wp2_with (first | (go_at_call 25; go_in))
  go_ret
  exact ⟨rfl, (Below.refl _ _).alloc (Nat.le_refl _) _⟩
set_option maxHeartbeats 1000000 in
theorem specE_plus (l : Int) (h0 : 8 < l) (h1 : l ≤ 9223372036854775807) (w : World) : Calls Tryd.prog 19 #[.int .i64 l] w fun e w' => e = .returned (.string (strOf (nameE ++ 43 :: Lib.decDigits (l - 8).toNat))) ∧ Below w.heap.size w w' := by
  have hlen := dec_len (l - 8).toNat (by omega)
  have HD := Lib.hid (fun v hv => decimal_at v (l - 8).toNat hv (by omega))
  generalize Lib.decDigits (l - 8).toNat = D at hlen HD
  have a1 : ∀ W, (Op.stringOp .add ⟨#[69, 82, 82, 79, 82]⟩ ⟨#[43]⟩).run Tryd.prog W = .ok (.string (strOf (nameE ++ [43]))) W := fun W => add_str Tryd.prog W nameE [43] (by decide)
  have a2 : ∀ W, (Op.stringOp .add (strOf (nameE ++ [43])) (strOf D)).run Tryd.prog W = .ok (.string (strOf (nameE ++ 43 :: D))) W := fun W => by
    rw [add_str Tryd.prog W (nameE ++ [43]) D (by simp [nameE]; omega), List.append_assoc]; rfl
  go_enter Tryd.func19, Tryd.ntmps19
  go_wp2
  refine wp_loop_rounds 1 ?_
  rw [rounds_succ]
  go_wp2_with (first | (go_at_call 25; go_in))
  refine (HD.out _ (by omega) _).mono ?_
  rintro e W1 ⟨rfl, hb1⟩
  go_wp2_with fail
  go_ret
  exact ⟨rfl, Below.then_ ((Below.refl _ _).alloc (Nat.le_refl _) _) hb1⟩

theorem levelSpec_any (l : Int) (h0 : -9223372036854775808 ≤ l) (h1 : l ≤ 9223372036854775807) (w : World) :
    Calls Tryd.prog 19 #[.int .i64 l] w fun e w' => e = .returned (.string (levStr l)) ∧ Below w.heap.size w w' := by
  by_cases a1 : l < 0
  · rw [levStr_D l a1]
    by_cases b1 : l = -4
    · subst b1; exact specD_zero w
    · by_cases b2 : -4 < l
      · rw [offS_plus (l + 4) (l + 4).toNat (by omega) (by omega)]; exact specD_plus l b2 a1 w
      · rw [offS_minus (l + 4) (-4 - l).toNat (by omega) (by omega)]; exact specD_minus l (by omega) h0 w
  · by_cases a2 : l < 4
    · rw [levStr_I l (by omega) a2]
      by_cases b1 : l = 0
      · subst b1; exact specI_zero w
      · rw [offS_plus l l.toNat (by omega) (by omega)]; exact specI_plus l (by omega) a2 w
    · by_cases a3 : l < 8
      · rw [levStr_W l (by omega) a3]
        by_cases b1 : l = 4
        · subst b1; exact specW_zero w
        · rw [offS_plus (l - 4) (l - 4).toNat (by omega) (by omega)]; exact specW_plus l (by omega) a3 w
      · rw [levStr_E l (by omega)]
        by_cases b1 : l = 8
        · subst b1; exact specE_zero w
        · rw [offS_plus (l - 8) (l - 8).toNat (by omega) (by omega)]; exact specE_plus l (by omega) h1 w
end Go.Proofs.YtahmahdfjiojjaaDoor
