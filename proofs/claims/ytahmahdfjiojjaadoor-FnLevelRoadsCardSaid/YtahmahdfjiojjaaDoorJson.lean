/-
  What strconv.AppendQuote onto nothing, Level.MarshalJSON and the thin package's LevelJSON compute at a level's string (bytes from 43 to 90): their contracts over this translation.
-/
import Derived.Test.YtahmahdfjiojjaaDoorApp
import Derived.Lib.FrozenHead2
import Derived.Laws.CopyOwn
namespace Go.Proofs.YtahmahdfjiojjaaDoor
open Go Go.RowKit

/-- The slice v owns a row from B on that holds the bytes d. -/
def OwnB (w : World) (B : Nat) (v : Value) (d : List UInt8) : Prop := w.ownsRowF B 5 1 v d.length (Lib.strCells (strOf d))
theorem strCells_app (d e : List UInt8) : Lib.strCells (strOf (d ++ e)) = Lib.strCells (strOf d) ++ Lib.strCells (strOf e) := by simp [Lib.strCells, strOf]
theorem below_grownF {B : Nat} {w w' : World} {v : Value} {n : Nat} {xs : List Value} (hown : w.ownsRowF B 5 1 v n xs) (hg : w.grownBy w' v.ownBlock) (hB : B ≤ w.heap.size) : Below B w w' :=
  (Below.refl _ _).grown hg hB (fun k hk => (hown.lt k hk).1)
theorem OwnB.reads {w : World} {B : Nat} {v : Value} {d : List UInt8} (h : OwnB w B v d) (hd : 0 < d.length) : Reads w B v d := by
  have hc := h
  unfold OwnB at h
  rcases h.2 with ⟨hv, hn⟩ | ⟨g, cap, cur, fz, hv, hg, _⟩
  · omega
  · refine ⟨g, cap, hv, hg, ?_⟩
    intro j b hj
    have := World.ownsRowF.cells hc (g := g) (by rw [hv]; rfl) j (.int .u8 (b.toNat : Int)) (get_cells d j b hj)
    rw [plain_add] at this
    exact this

set_option maxRecDepth 100000 in
set_option maxHeartbeats 1000000 in
/-- strconv.appendEscapedRune at a byte that is printed as it is. -/
theorem esc_any (B : Nat) (v : Value) (d : List UInt8) (b : UInt8) (hb : 43 ≤ b.toNat ∧ b.toNat ≤ 90) (w : World) (hown : OwnB w B v d) (hd : d.length ≤ 1000) (hB : B ≤ w.heap.size) :
    Calls Tryd.prog 34 #[v, .int .i32 (b.toNat : Int), .int .u8 34, .bool false, .bool false] w fun e w' => ∃ v', e = .returned v' ∧ OwnB w' B v' (d ++ [b]) ∧ Below B w w' := by
  have hp : Lib.isPrintLatin (b.toNat : Int) = true := by simp [Lib.isPrintLatin]; omega
  have HP := Lib.hid (show Calls Tryd.prog 37 #[.int .i32 (b.toNat : Int)] w fun e w' => e = .returned (.bool true) ∧ w = w' from
    (Tryd.strconv_IsPrint_latin (b.toNat : Int) w (by omega)).mono fun e w' ⟨he, hw⟩ => ⟨by rw [he, hp], hw.symm⟩)
  have HR := Lib.hid (Tryd.utf8_AppendRune_row B v d.length (Lib.strCells (strOf d)) (b.toNat : Int) (by omega) (by omega) w hown (by omega) hB)
  have hrc : Lib.runeCells (b.toNat : Int) = Lib.strCells (strOf [b]) := by
    rw [Lib.runeCells, Lib.encodeRuneZ_one (by omega) (by omega)]; rfl
  rw [hrc] at HR
  have e1 : ((b.toNat : Int) == 34) = false := beq_false_of_ne (by omega)
  have e2 : ((b.toNat : Int) == 92) = false := beq_false_of_ne (by omega)
  have HO := Lib.hid hown
  clear hp hrc hown
  go_enter Tryd.func34, Tryd.ntmps34
  go_wp2_with fail
  refine HP.out.mono ?_
  rintro e w' ⟨rfl, rfl⟩
  go_wp2_with fail
  refine HR.out.mono ?_
  rintro e W1 ⟨v', rfl, h1, o, h2⟩
  have hbl : Below B w W1 := ((Below.refl _ _).alloc hB _).grown h2 (by simp; omega) (fun k hk => ((World.ownsRowF.lt HO.out) k hk).1)
  have hov : OwnB W1 B v' (d ++ [b]) := by
    unfold OwnB
    rw [strCells_app, List.length_append]
    exact h1
  clear h1 h2
  go_wp2_with fail
  go_ret
  exact ⟨v', rfl, hov, hbl⟩

theorem own_alloc {w : World} {B : Nat} {v : Value} {d : List UInt8} (h : OwnB w B v d) (o : Obj) : (w.alloc o).ownsRowF B 5 1 v d.length (Lib.strCells (strOf d)) := by
  refine World.ownsRowF.kept (row := none) h ⟨rfl, rfl, rfl, by simp, fun k hk _ => heap_alloc_old w o hk⟩ ?_
  cases hv : v.ownBlock with
  | none => exact .inl rfl
  | some g => exact .inr (by simp)
theorem one_new (w : World) (x : Value) (t : TypeId) : ∀ (j : Nat) (u : Value), [x][j]? = some u → (w.alloc (.cells #[x] t)).cell? ((⟨w.heap.size, 0, none⟩ : Addr).add j) = some u := by
  intro j u hj
  rw [plain_add]
  exact (World.cell?_alloc_at _ _ _ _ rfl).trans (by simpa using hj)
/-- How long a string value is. -/
def strLen (v : Value) : Nat := match v with | .string s => s.size | _ => 0
theorem drop_one (w : World) (L : List UInt8) (hl : 0 < L.length) (h : L.length ≤ 1000) :
    (Instr.slice 9 (.string (strOf L)) (some (.int .i64 1)) none none).run Tryd.prog w = .ok (.string (strOf (L.drop 1))) w := by
  have e1 := strOf_size L
  rw [run_slice_string_from_if w 9 (strOf L) .i64 1 Tryd.underlying9, if_pos (by omega), e1]
  congr 2
  apply ByteArray.ext
  apply Array.ext'
  simp [strOf]
  exact List.take_of_length_le (by simp)
theorem decode_any (L : List UInt8) (b : UInt8) (hb : b.toNat ≤ 90) (h0 : L[0]? = some b) (w : World) :
    Calls Tryd.prog 33 #[.string (strOf L)] w fun e w' => e = .returned (.tuple #[.int .i32 (b.toNat : Int), .int .i64 1]) ∧ w = w' :=
  (Tryd.utf8_DecodeRuneInString_ascii (strOf L) b w h0 (by omega)).mono fun e w' ⟨he, hw⟩ => ⟨he, hw.symm⟩
theorem infoU8s : (Tryd.prog.info? 5).map (·.size) = some 1 := by kernel_rfl

set_option maxRecDepth 100000 in
set_option maxHeartbeats 2000000 in
/-- strconv.appendQuotedWith onto nothing, at a string of bytes that are printed as they are. -/
theorem quoted_any (L : List UInt8) (hL : ∀ b ∈ L, 43 ≤ b.toNat ∧ b.toNat ≤ 90) (hl0 : 0 < L.length) (hl1 : L.length ≤ 100) (w : World) :
    Calls Tryd.prog 31 #[.slice none 0 0, .string (strOf L), .int .u8 34, .bool false, .bool false] w fun e w' => ∃ v', e = .returned v' ∧ OwnB w' w.heap.size v' ([34] ++ L ++ [34]) ∧ Below w.heap.size w w' := by
  obtain ⟨i0, hi, hz0, hz1, hz2⟩ := info_parts infoU8
  obtain ⟨B, hB⟩ : ∃ B, B = w.heap.size := ⟨_, rfl⟩
  have hBle : B ≤ w.heap.size := by omega
  rw [← hB]
  have hsz := strOf_size L
  have hs0 : 0 < (strOf L).size ∧ (strOf L).size ≤ 100 := by omega
  have HD := Lib.hid (fun (k : Nat) (b : UInt8) (hb : L[k]? = some b) => hL b (List.mem_of_getElem? hb))
  have HSZ := Lib.hid hsz
  clear hsz hL
  obtain ⟨W1, hmk0, hown1, hgr1⟩ := run_make_own (P := Tryd.prog) w B 31 5 i0 (.int .u8 0) 1 Tryd.underlying31 hi hz0 hz1 .i64 .i64 ((strOf L).size + 2) (by rw [hz2]; omega) (by unfold maxLen; omega) hBle
  have hmk : (Instr.makeSlice 31 (.int .i64 0) (.int .i64 (1 + ((strOf L).size : Int) + 1))).run Tryd.prog w = .ok (.slice (some ⟨w.heap.size, 0, none⟩) 0 ((strOf L).size + 2)) W1 := by
    rw [show (1 + ((strOf L).size : Int) + 1) = (((strOf L).size + 2 : Nat) : Int) by omega]; exact hmk0
  have hcp := fun ty => run_copy_none (P := Tryd.prog) W1 31 31 ty 5 (some ⟨w.heap.size, 0, none⟩) none 0 ((strOf L).size + 2) 0 0 Tryd.underlying31 infoU8s rfl
  have hb1 : Below B w W1 := (Below.refl _ _).grown hgr1 hBle (fun k hk => by cases hk)
  have hB1 : B ≤ W1.heap.size := Nat.le_trans hBle hb1.size
  generalize hv1 : Value.slice (some ⟨w.heap.size, 0, none⟩) 0 ((strOf L).size + 2) = v1 at hmk hcp hown1
  clear hmk0
  go_enter Tryd.func31, Tryd.ntmps31
  go_wp2_with (first | (at_builtin; refine wpList_append_own _ rfl _ _ 31 rfl B 5 i0 (.int .u8 0) 1 1 Tryd.underlying31 hi hz0 hz1 hz2 rfl (by decide) v1 0 [] rfl (hown1.alloc _) ⟨W1.heap.size, 0, none⟩ 1 1 [.int .u8 34] rfl rfl ?c1 ?c2 ?c3 ?c4 ?c5 ?_; rotate_left 5; intro v2 W2 hown2 hgr2 hnil2))
  case c1 => exact one_new _ _ _
  case c2 => intro u hu; simp only [List.mem_singleton] at hu; subst hu; rfl
  case c3 => unfold maxLen; omega
  case c4 => omega
  case c5 => simp; omega
  have ho2 : OwnB W2 B v2 [34] := World.ownsRowF_of hown2
  have hb2 : Below B w W2 := hb1.trans (((Below.refl _ _).alloc hB1 _).grown hgr2 (by simp; omega) (fun k hk => ((hown1.alloc (.cells #[.int .u8 34] 5)).lt k hk).1))
  clear hown2 hgr2 hnil2 hown1 hgr1 hmk hcp hb1 hB1 hv1
  go_loopw [0, 1] (fun v x wr => ∃ (k : Nat) (R : List UInt8), k ≤ L.length ∧ Hid (R = L.drop k) ∧ x = .string (strOf R) ∧ OwnB wr B v ([34] ++ L.take k) ∧ Below B w wr) (fun _ x _ => strLen x)
  case atStart => exact ⟨0, L, by omega, rfl, rfl, ho2, hb2⟩
  case round =>
    obtain ⟨k, R, hk, HR, rfl, hov, hbr⟩ := hrel
    have hRl : R.length = L.length - k := by rw [HR.out, List.length_drop]
    have hRs := strOf_size R
    have hBr : B ≤ wr.heap.size := Nat.le_trans hBle hbr.size
    by_cases hlt : k < L.length
    · obtain ⟨b, hbk⟩ : ∃ b, L[k]? = some b := ⟨L[k], List.getElem?_eq_getElem hlt⟩
      have hb90 := HD.out k b hbk
      have hR0 : R[0]? = some b := by rw [HR.out, List.getElem?_drop, Nat.add_zero]; exact hbk
      have HDC := Lib.hid (fun w => decode_any R b hb90.2 hR0 w)
      have HES := Lib.hid (esc_any B _ ([34] ++ L.take k) b hb90 wr hov (by simp; omega) hBr)
      have hsl := fun W => drop_one W R (by omega) (by omega)
      have HRD : Hid (R.drop 1 = L.drop (k + 1)) := by show R.drop 1 = L.drop (k + 1); rw [HR.out, List.drop_drop]
      have hR1 : (R.drop 1).length = R.length - 1 := List.length_drop
      have htk : [34] ++ L.take k ++ [b] = [34] ++ L.take (k + 1) := by
        obtain ⟨h1, h2⟩ := List.getElem?_eq_some_iff.1 hbk
        rw [List.take_succ_eq_append_getElem h1, h2, List.append_assoc]
      have HTK := Lib.hid htk
      have hsz1 := strOf_size (R.drop 1)
      have hpos : 0 < (strOf R).size ∧ (strOf R).size ≤ 100 := by omega
      have hlow : (strOf (R.drop 1)).size < (strOf R).size := by omega
      have hne : ((b.toNat : Int) == 65533) = false := beq_false_of_ne (by omega)
      generalize R.drop 1 = R2 at hsl HRD hR1 hsz1 hlow
      clear hRl hRs hR1 hsz1 htk hbk hR0
      go_wp2_with fail
      refine (HDC.out _).mono ?_
      rintro e w' ⟨rfl, rfl⟩
      go_wp2_with fail
      refine HES.out.mono ?_
      rintro e W3 ⟨v3, rfl, ho3, hb3⟩
      rw [HTK.out] at ho3
      go_wp2_with fail
      go_roundw
      case rel => exact ⟨k + 1, R2, by omega, HRD.out, rfl, ho3, hbr.trans hb3⟩
      case measure => simp only [strLen]; exact hlow
    · have hk2 : L.take k = L := List.take_of_length_le (by omega)
      rw [hk2] at hov
      have hz : (strOf R).size ≤ 0 := by omega
      have hgt : decide (0 < (strOf R).size) = false := decide_eq_false (by omega)
      have hova := own_alloc hov (.cells #[.int .u8 34] 5)
      clear hk2 hRl hRs
      go_wp2_with (first | (at_builtin; refine wpList_append_ownF _ rfl _ _ 31 rfl B 5 i0 (.int .u8 0) 1 1 Tryd.underlying31 hi hz0 hz1 hz2 rfl (by decide) u0 ([34] ++ L).length (Lib.strCells (strOf ([34] ++ L))) rfl hova ⟨wr.heap.size, 0, none⟩ 1 1 [.int .u8 34] rfl rfl ?d1 ?d2 ?d3 ?d4 ?d5 ?_; rotate_left 5; intro v4 W4 hown4 hgr4 hnil4))
      case d1 => exact one_new _ _ _
      case d2 => intro u hu; simp only [List.mem_singleton] at hu; subst hu; rfl
      case d3 => unfold maxLen; simp; omega
      case d4 => simp; omega
      case d5 => simp; omega
      have ho4 : OwnB W4 B v4 ([34] ++ L ++ [34]) := by
        unfold OwnB
        have hlen4 : ([34] ++ L ++ [34] : List UInt8).length = ([34] ++ L : List UInt8).length + 1 := by simp
        rw [strCells_app ([34] ++ L) [34], hlen4]
        exact hown4
      have hb4 : Below B w W4 := (hbr.alloc hBr _).trans (below_grownF hova hgr4 (by simp; omega))
      go_ret
      exact ⟨v4, rfl, ho4, hb4⟩

/-- strconv.AppendQuote onto nothing. -/
theorem appendQuote_any (L : List UInt8) (hL : ∀ b ∈ L, 43 ≤ b.toNat ∧ b.toNat ≤ 90) (hl0 : 0 < L.length) (hl1 : L.length ≤ 100) (w : World) :
    Calls Tryd.prog 28 #[.slice none 0 0, .string (strOf L)] w fun e w' => ∃ v', e = .returned v' ∧ OwnB w' w.heap.size v' ([34] ++ L ++ [34]) ∧ Below w.heap.size w w' := by
  have HQ := Lib.hid (quoted_any L hL hl0 hl1 w)
  clear hL
  go_enter Tryd.func28, Tryd.ntmps28
  go_wp2_with fail
  refine HQ.out.mono ?_
  rintro e W1 ⟨v', rfl, ho, hb⟩
  go_wp2_with fail
  go_ret
  exact ⟨v', rfl, ho, hb⟩

theorem dec_bytes (n : Nat) : ∀ b ∈ Lib.decDigits n, 43 ≤ b.toNat ∧ b.toNat ≤ 90 := by
  induction n using Nat.strongRecOn with
  | _ n ih =>
    intro b hb
    have hd : ∀ d, d < 10 → 43 ≤ (UInt8.ofNat (48 + d)).toNat ∧ (UInt8.ofNat (48 + d)).toNat ≤ 90 := by
      intro d h
      have e : (UInt8.ofNat (48 + d)).toNat = 48 + d := by rw [UInt8.toNat_ofNat']; exact Nat.mod_eq_of_lt (by omega)
      omega
    by_cases h : n < 10
    · rw [Lib.decDigits_one h] at hb
      simp only [List.mem_singleton] at hb
      rw [hb]; exact hd n h
    · rw [Lib.decDigits, dif_neg h, List.mem_append] at hb
      rcases hb with hb | hb
      · exact ih (n / 10) (by omega) b hb
      · simp only [List.mem_singleton] at hb
        rw [hb]; exact hd (n % 10) (by omega)
theorem off_bytes (v : Int) : ∀ b ∈ offS v, 43 ≤ b.toNat ∧ b.toNat ≤ 90 := by
  intro b hb
  by_cases h0 : v = 0
  · rw [h0, offS_zero] at hb; simp at hb
  · by_cases h1 : 0 < v
    · rw [offS_plus v v.toNat (by omega) h1, List.mem_cons] at hb
      rcases hb with hb | hb
      · rw [hb]; decide
      · exact dec_bytes _ b hb
    · rw [offS_minus v (-v).toNat (by omega) (by omega), List.mem_cons] at hb
      rcases hb with hb | hb
      · rw [hb]; decide
      · exact dec_bytes _ b hb
theorem lev_bytes (l : Int) : ∀ b ∈ levList l, 43 ≤ b.toNat ∧ b.toNat ≤ 90 := by
  have hD : ∀ b ∈ nameD, 43 ≤ b.toNat ∧ b.toNat ≤ 90 := by decide
  have hI : ∀ b ∈ nameI, 43 ≤ b.toNat ∧ b.toNat ≤ 90 := by decide
  have hW : ∀ b ∈ nameW, 43 ≤ b.toNat ∧ b.toNat ≤ 90 := by decide
  have hE : ∀ b ∈ nameE, 43 ≤ b.toNat ∧ b.toNat ≤ 90 := by decide
  have hN : ∀ b ∈ levName l, 43 ≤ b.toNat ∧ b.toNat ≤ 90 := by
    unfold levName
    split
    · exact hD
    · split
      · exact hI
      · split
        · exact hW
        · exact hE
  intro b hb
  rw [levList_eq, List.mem_append] at hb
  rcases hb with hb | hb
  · exact hN b hb
  · exact off_bytes _ b hb

/-- Level.MarshalJSON. -/
theorem marshalJSON_any (l : Int) (h0 : -9223372036854775808 ≤ l) (h1 : l ≤ 9223372036854775807) (w : World) (hT : Tab w) :
    Calls Tryd.prog 21 #[.int .i64 l] w fun e w' => ∃ v', e = .returned (.tuple #[v', .nilIface]) ∧ Reads w' w.heap.size v' ([34] ++ levList l ++ [34]) ∧ Below w.heap.size w w' := by
  have hl := levList_len l h0 h1
  have HL := Lib.hid (show ∀ w, Tab w → Calls Tryd.prog 22 #[.int .i64 l] w fun e w' => e = .returned (.string (strOf (levList l))) ∧ Below w.heap.size w w' from fun w hT => level_any l h0 h1 w hT)
  have HQ := Lib.hid (appendQuote_any (levList l) (lev_bytes l) (by omega) (by omega))
  generalize levList l = L at HL HQ hl ⊢
  go_enter Tryd.func21, Tryd.ntmps21
  go_wp2_with fail
  refine (HL.out _ hT).mono ?_
  rintro e W1 ⟨rfl, hb1⟩
  go_wp2_with fail
  refine (HQ.out _).mono ?_
  rintro e W2 ⟨v', rfl, ho, hb2⟩
  have hr : Reads W2 w.heap.size v' ([34] ++ L ++ [34]) := by
    obtain ⟨g, cap, h1, h2, h3⟩ := ho.reads (by simp)
    exact ⟨g, cap, h1, Nat.le_trans hb1.size h2, h3⟩
  have hb := Below.then_ hb1 hb2
  clear ho
  go_wp2_with fail
  go_ret2
  exact ⟨v', rfl, hr, hb⟩

set_option maxHeartbeats 400000 in
/-- impl.LevelJSON. -/
theorem levelJSON_any (l : Int) (h0 : -9223372036854775808 ≤ l) (h1 : l ≤ 9223372036854775807) (w : World) (hT : Tab w) :
    Calls Tryd.prog 15 #[.int .i64 l] w fun e w' => e = .returned (.tuple #[.string (strOf ([34] ++ levList l ++ [34])), .bool true]) ∧ Below w.heap.size w w' := by
  have HA := Lib.hid (marshalJSON_any l h0 h1 w hT)
  obtain ⟨S, hS⟩ : ∃ S, S = strOf ([34] ++ levList l ++ [34]) := ⟨_, rfl⟩
  rw [← hS]
  have HS := Lib.hid hS
  clear hS
  go_enter Tryd.func15, Tryd.ntmps15
  go_wp2_with fail
  refine HA.out.mono ?_
  rintro e W1 ⟨v', rfl, hre, hb1⟩
  have hbk : ∀ n, (convert 31 9 v').run Tryd.prog (W1.drewN n) = .ok (.string S) (W1.drewN n) := fun n => by rw [HS.out]; exact hre.back n
  clear hre
  go_wp2_with fail
  go_quiet (fail)
  go_wp2_with fail
  go_ret2
  exact ⟨rfl, hb1.trans ⟨rfl, rfl, rfl, Nat.le_refl _, fun _ _ => rfl⟩⟩
end Go.Proofs.YtahmahdfjiojjaaDoor
