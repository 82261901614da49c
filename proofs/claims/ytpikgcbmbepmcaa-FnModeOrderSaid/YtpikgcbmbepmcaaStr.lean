/-
  What FileMode.String computes: plain functions on lists, and the contract of the library's text over this translation.
-/
import Derived.Test.YtpikgcbmbepmcaaHas
import Derived.Lib.OthersKept
import Derived.Laws.IdiomStrings
namespace Go.Proofs.Ytpikgcbmbepmcaa
open Go Go.RowKit

def lettersB : ByteArray := ⟨#[100, 97, 108, 84, 76, 68, 112, 83, 117, 103, 99, 116, 63]⟩
def rwxB : ByteArray := ⟨#[114, 119, 120, 114, 119, 120, 114, 119, 120]⟩
/-- The letter of bit 31 - k. -/
def letterAt (k : Nat) : UInt8 := lettersB.data.toList.getD k 0
/-- The letter of the permission 8 - k. -/
def rightAt (k : Nat) : UInt8 := rwxB.data.toList.getD k 0
/-- The letters of the first k of the thirteen highest bits that are set. -/
def front (x : BitVec 32) : Nat → List UInt8
  | 0 => []
  | k + 1 => front x k ++ (if bitOf x (31 - k) = true then [letterAt k] else [])
/-- The first k of the nine letters of the permissions. -/
def rights (x : BitVec 32) : Nat → List UInt8
  | 0 => []
  | k + 1 => rights x k ++ [if bitOf x (8 - k) = true then rightAt k else 45]
/-- What stands before the permissions. -/
def frontStr (x : BitVec 32) : List UInt8 := if (front x 13).length = 0 then [45] else front x 13
def modeList (x : BitVec 32) : List UInt8 := frontStr x ++ rights x 9
def modeStr (x : BitVec 32) : ByteArray := ⟨(modeList x).toArray⟩

theorem front_length (x : BitVec 32) (k : Nat) : (front x k).length ≤ k := by
  induction k with
  | zero => simp [front]
  | succ k ih =>
    rw [front, List.length_append]
    split
    · simp; omega
    · simp; omega
theorem rights_length (x : BitVec 32) (k : Nat) : (rights x k).length = k := by
  induction k with
  | zero => rfl
  | succ k ih => rw [rights, List.length_append, ih]; rfl

/-- The array's cells: the bytes that were written, then zeros. -/
def bufOf (l : List UInt8) : Array Value := (l.map (fun b => Value.int .u8 (b.toNat : Int)) ++ List.replicate (32 - l.length) (Value.int .u8 0)).toArray
theorem bufOf_size (l : List UInt8) (h : l.length ≤ 32) : (bufOf l).size = 32 := by simp [bufOf]; omega
theorem bufOf_at (l : List UInt8) (h : l.length < 32) : (bufOf l)[l.length]? = some (.int .u8 0) := by
  simp only [bufOf, List.getElem?_toArray]
  rw [List.getElem?_append_right (by simp)]
  simp only [List.length_map, Nat.sub_self]
  rw [List.getElem?_replicate, if_pos (by omega)]
theorem bufOf_snoc (l : List UInt8) (b : UInt8) (h : l.length < 32) : (bufOf l).setIfInBounds l.length (.int .u8 (b.toNat : Int)) = bufOf (l ++ [b]) := by
  simp only [bufOf, List.setIfInBounds_toArray, List.map_append, List.length_append]
  congr 1
  have e : 32 - l.length = (32 - (l.length + [b].length)) + 1 := by simp; omega
  rw [e, List.replicate_succ]
  have e2 : l.length = (List.map (fun b : UInt8 => Value.int .u8 (b.toNat : Int)) l).length := by simp
  rw [List.set_append_right _ _ (by simp)]
  simp

theorem letter_next (P : Program) (wr : World) (n k : Nat) (ty : TypeId) (hk : wr.heap[n]? = some (.stringIter lettersB k)) (h : k < 13) :
    (Instr.next (.pointer (some ⟨n, 0, none⟩)) true ty).run P wr = .ok (.tuple #[.bool true, .int .i64 (k : Int), .int .i32 ((letterAt k).toNat : Int)]) (wr.iterAt n lettersB (k + 1)) := by
  have hs : k < lettersB.size := h
  have e : lettersB[k]'hs = letterAt k := by
    have : ∀ j : Fin 13, lettersB[j.val]'(j.isLt) = letterAt j.val := by decide
    exact this ⟨k, h⟩
  have ha : (lettersB[k]'hs).toNat < 128 := by
    have : ∀ j : Fin 13, (lettersB[j.val]'(j.isLt)).toNat < 128 := by decide
    exact this ⟨k, h⟩
  rw [Lib.run_next_ascii_at wr n lettersB k ty hk hs ha, e]
theorem right_next (P : Program) (wr : World) (n k : Nat) (ty : TypeId) (hk : wr.heap[n]? = some (.stringIter rwxB k)) (h : k < 9) :
    (Instr.next (.pointer (some ⟨n, 0, none⟩)) true ty).run P wr = .ok (.tuple #[.bool true, .int .i64 (k : Int), .int .i32 ((rightAt k).toNat : Int)]) (wr.iterAt n rwxB (k + 1)) := by
  have hs : k < rwxB.size := h
  have e : rwxB[k]'hs = rightAt k := by
    have : ∀ j : Fin 9, rwxB[j.val]'(j.isLt) = rightAt j.val := by decide
    exact this ⟨k, h⟩
  have ha : (rwxB[k]'hs).toNat < 128 := by
    have : ∀ j : Fin 9, (rwxB[j.val]'(j.isLt)).toNat < 128 := by decide
    exact this ⟨k, h⟩
  rw [Lib.run_next_ascii_at wr n rwxB k ty hk hs ha, e]

/-- What lies in memory while the letters are written: the array, an iterator. -/
structure Buf (w wr : World) (l : List UInt8) (n : Nat) (s : ByteArray) (pos : Nat) : Prop where
  row : wr.heap[w.heap.size]? = some (.cells (bufOf l) 37 (0, 0))
  it : wr.heap[n]? = some (.stringIter s pos)
  big : w.heap.size < n
  below : Below w.heap.size w wr
theorem Buf.next {w wr : World} {l : List UInt8} {n : Nat} {s : ByteArray} {pos : Nat} (h : Buf w wr l n s pos) (pos' : Nat) : Buf w (wr.iterAt n s pos') l n s pos' :=
  ⟨by rw [Lib.iterAt_other _ _ _ _ _ (by have := h.big; omega)]; exact h.row, Lib.iterAt_heap _ _ _ _ _ h.it, h.big, Lib.below_iterAt h.below (by have := h.big; omega) _ _⟩
theorem Buf.store {w wr : World} {l : List UInt8} {n : Nat} {s : ByteArray} {pos : Nat} (h : Buf w wr l n s pos) (b : UInt8) (hl : l.length < 32) : Buf w (wr.setCell ⟨w.heap.size, l.length, none⟩ (.int .u8 (b.toNat : Int))) (l ++ [b]) n s pos :=
  ⟨by rw [heap_setCell_same _ _ _ _ _ _ h.row, bufOf_snoc l b hl], by rw [heap_setCell_other _ _ _ _ (by have := h.big; show n ≠ w.heap.size; omega)]; exact h.it, h.big, h.below.setCell (Nat.le_refl _) _⟩
theorem Buf.cell {w wr : World} {l : List UInt8} {n : Nat} {s : ByteArray} {pos : Nat} (h : Buf w wr l n s pos) (hl : l.length < 32) : wr.cell? ⟨w.heap.size, l.length, none⟩ = some (.int .u8 0) := by
  simp [World.cell?, h.row, bufOf_at l hl]
theorem Buf.free {w wr : World} {l : List UInt8} {n : Nat} {s : ByteArray} {pos : Nat} (h : Buf w wr l n s pos) (i : Nat) : wr.frozen? ⟨w.heap.size, i, none⟩ = false := by
  simp [World.frozen?, h.row]
theorem Buf.cellN {w wr : World} {l : List UInt8} {n j : Nat} {s : ByteArray} {pos : Nat} (h : Buf w wr l n s pos) (hj : j = l.length) (hl : l.length < 32) : wr.cell? ⟨w.heap.size, j, none⟩ = some (.int .u8 0) := by
  rw [hj]; exact h.cell hl
theorem Buf.storeN {w wr : World} {l : List UInt8} {n j : Nat} {s : ByteArray} {pos : Nat} (h : Buf w wr l n s pos) (b : UInt8) (hj : j = l.length) (hl : l.length < 32) : Buf w (wr.setCell ⟨w.heap.size, j, none⟩ (.int .u8 (b.toNat : Int))) (l ++ [b]) n s pos := by
  rw [hj]; exact h.store b hl
theorem Buf.pos {w wr : World} {l : List UInt8} {n : Nat} {s : ByteArray} {pos : Nat} (h : Buf w wr l n s pos) : wr.iterPos n = pos := by simp [World.iterPos, h.it]
theorem mask_bit (x : BitVec 32) (j : Nat) (hj : j < 32) : (bits .and .u32 (x.toNat : Int) ((2 : Int) ^ j % 4294967296) != 0) = bitOf x j := by
  have h2 : 2 ^ j < 2 ^ 32 := Nat.pow_lt_pow_right (by decide) hj
  have e : (2 : Int) ^ j % 4294967296 = ((2 ^ j : Nat) : Int) := by
    have h4 : ((2 ^ j : Nat) : Int) = (2 : Int) ^ j := by simp
    rw [← h4]
    exact Int.emod_eq_of_lt (Int.natCast_nonneg _) (Int.ofNat_lt.2 h2)
  rw [e, u32_and_nat _ _ x.isLt h2, nat_bit, bitOf, BitVec.getLsbD, Nat.testBit_eq_decide_div_mod_eq]
  have hp : 0 < 2 ^ j := Nat.two_pow_pos j
  by_cases h : x.toNat / 2 ^ j % 2 = 1
  · rw [h]; simp; omega
  · have h0 : x.toNat / 2 ^ j % 2 = 0 := by omega
    rw [h0]; simp
theorem front_set (x : BitVec 32) (k : Nat) (h : bitOf x (31 - k) = true) : front x (k + 1) = front x k ++ [letterAt k] := by rw [front, if_pos h]
theorem front_unset (x : BitVec 32) (k : Nat) (h : bitOf x (31 - k) = false) : front x (k + 1) = front x k := by rw [front, if_neg (by rw [h]; decide), List.append_nil]
theorem rights_set (x : BitVec 32) (k : Nat) (h : bitOf x (8 - k) = true) : rights x (k + 1) = rights x k ++ [rightAt k] := by rw [rights, if_pos h]
theorem rights_unset (x : BitVec 32) (k : Nat) (h : bitOf x (8 - k) = false) : rights x (k + 1) = rights x k ++ [45] := by rw [rights, if_neg (by rw [h]; decide)]

theorem frontStr_length (x : BitVec 32) : 1 ≤ (frontStr x).length ∧ (frontStr x).length ≤ 13 := by
  have := front_length x 13
  unfold frontStr
  split
  · simp
  · omega
theorem frontStr_of_zero (x : BitVec 32) (h : (front x 13).length = 0) : frontStr x = [45] := by rw [frontStr, if_pos h]
theorem Buf.start (w : World) : Buf w ((w.alloc (.cells #[Value.int IntKind.u8 0, Value.int IntKind.u8 0, Value.int IntKind.u8 0, Value.int IntKind.u8 0, Value.int IntKind.u8 0, Value.int IntKind.u8 0, Value.int IntKind.u8 0, Value.int IntKind.u8 0, Value.int IntKind.u8 0, Value.int IntKind.u8 0, Value.int IntKind.u8 0, Value.int IntKind.u8 0, Value.int IntKind.u8 0, Value.int IntKind.u8 0, Value.int IntKind.u8 0, Value.int IntKind.u8 0, Value.int IntKind.u8 0, Value.int IntKind.u8 0, Value.int IntKind.u8 0, Value.int IntKind.u8 0, Value.int IntKind.u8 0, Value.int IntKind.u8 0, Value.int IntKind.u8 0, Value.int IntKind.u8 0, Value.int IntKind.u8 0, Value.int IntKind.u8 0, Value.int IntKind.u8 0, Value.int IntKind.u8 0, Value.int IntKind.u8 0, Value.int IntKind.u8 0, Value.int IntKind.u8 0, Value.int IntKind.u8 0] 37)).iter lettersB 0) [] (w.heap.size + 1) lettersB 0 := by
  refine ⟨heap_alloc2_old _ _ _, heap_alloc2_new _ _ _, by omega, ((Below.refl _ _).alloc (Nat.le_refl _) _).alloc (by simp) _⟩
theorem Buf.again {w wr : World} {l : List UInt8} {n : Nat} {s : ByteArray} {pos : Nat} (h : Buf w wr l n s pos) (s' : ByteArray) (m : Nat) (hm : wr.heap.size = m) : Buf w (wr.iter s' 0) l m s' 0 := by
  subst hm
  have hlt : w.heap.size < wr.heap.size := lt_of_block h.row
  exact ⟨(heap_alloc_old _ _ hlt).trans h.row, heap_alloc_new _ _, hlt, h.below.alloc (by omega) _⟩
theorem arr_len : Try.prog.arrayLen 37 = 32 := by kernel_rfl
theorem arr_und : Try.prog.underlying 37 = some (.array (Try.prog.arrayLen 37) (Try.prog.elem 37)) := by kernel_rfl
theorem arr_elem (wr : World) : (sizeOf (Try.prog.elem 37)).run Try.prog wr = .ok 1 wr := by kernel_rfl
/-- The array sliced up to n. -/
theorem slice_buf (wr : World) (b n : Nat) (h : n ≤ 32) : (Instr.sliceAt 37 (.pointer (some ⟨b, 0, none⟩)) none (some (.int .i64 (n : Int))) none).run Try.prog wr = .ok (.slice (some ⟨b, 0, none⟩) n 32) wr := by
  rw [run_sliceAt_array_h wr _ _ arr_und .i64 (n : Int) (by omega) (by rw [arr_len]; omega), arr_elem]
  simp [slicedAt, arr_len, Addr.add, Result.andThen]
/-- The array's first bytes as a string. -/
theorem Buf.back {w wr : World} {l : List UInt8} {n j : Nat} {s : ByteArray} {pos : Nat} (h : Buf w wr l n s pos) (hj : j = l.length) : (convert 30 9 (.slice (some ⟨w.heap.size, 0, none⟩) j 32)).run Try.prog wr = .ok (.string ⟨l.toArray⟩) wr := by
  rw [hj]
  refine run_convert_bytes_back wr 30 9 5 _ 32 l Try.underlying30 Try.underlying5 Try.underlying9 ?_
  intro i hi
  have hplain : (⟨w.heap.size, 0, none⟩ : Addr).add i = ⟨w.heap.size, i, none⟩ := by unfold Addr.add; split <;> simp_all
  rw [hplain]
  simp [World.cell?, h.row, bufOf, List.getElem?_append_left, hi]

set_option maxHeartbeats 2000000 in
theorem string_any (x : BitVec 32) (w : World) : Calls Try.prog 27 #[.int .u32 (x.toNat : Int)] w fun e w' => e = .returned (.string (modeStr x)) ∧ Below w.heap.size w w' := by
  go_enter Try.func27, Try.ntmps27
  go_wp2
  go_loopw [4] (fun v wr => ∃ k n : Nat, k ≤ 13 ∧ v = .int .i64 (n : Int) ∧ Hid (n = (front x k).length) ∧ Buf w wr (front x k) (w.heap.size + 1) lettersB k) (fun _ wr => 13 - wr.iterPos (w.heap.size + 1))
  case atStart =>
    exact ⟨0, 0, by omega, rfl, rfl, Buf.start w⟩
  case round =>
    obtain ⟨k, n, hk, rfl, HN, hB⟩ := hrel
    have hpos0 := Lib.hid hB.pos
    have hln := front_length x k
    have hn13 : n ≤ 13 := by have := HN.out; omega
    by_cases hlt : k < 13
    · have hnx : ∀ ty, (Instr.next (.pointer (some ⟨w.heap.size + 1, 0, none⟩)) true ty).run Try.prog wr = _ := fun ty => letter_next Try.prog wr _ k ty hB.it hlt
      have hB1 := hB.next (k + 1)
      obtain ⟨W1, hW1⟩ : ∃ W1, W1 = wr.iterAt (w.heap.size + 1) lettersB (k + 1) := ⟨_, rfl⟩
      rw [← hW1] at hnx hB1
      have hl8 : ((letterAt k).toNat : Int) ≤ 255 := by have := (letterAt k).toNat_lt; omega
      have hc := hB1.cellN HN.out (by omega)
      have hf := hB1.free n
      have hmb := mask_bit x (31 - k) (by omega)
      clear hW1
      by_cases hb : bitOf x (31 - k) = true
      · have hB2 := hB1.storeN (letterAt k) HN.out (by omega)
        have HF := Lib.hid (front_set x k hb)
        rw [hb] at hmb
        clear hb
        go_wp2
        go_roundw
        case rel => exact ⟨k + 1, n + 1, by omega, by go_num, by rw [HF.out, List.length_append, ← HN.out]; rfl, by rw [HF.out]; exact hB2⟩
        case measure => rw [hpos0.out, hB2.pos]; omega
      · have hb' : bitOf x (31 - k) = false := by simpa using hb
        have HF := Lib.hid (front_unset x k hb')
        rw [hb'] at hmb
        clear hb hb'
        go_wp2
        go_roundw
        case rel => exact ⟨k + 1, n, by omega, by go_num, by rw [HF.out]; exact HN.out, by rw [HF.out]; exact hB1⟩
        case measure => rw [hpos0.out, hB1.pos]; omega
    · obtain rfl : k = 13 := by omega
      have hnx : ∀ ty, (Instr.next (.pointer (some ⟨w.heap.size + 1, 0, none⟩)) true ty).run Try.prog wr = _ := fun ty => Lib.run_next_end_at wr _ _ _ ty hB.it (by decide)
      obtain ⟨wo, rfl⟩ : ∃ wo : World, wo = wr := ⟨_, rfl⟩
      by_cases hn0 : n = 0
      · subst hn0
        have hc := hB.cellN HN.out (by omega)
        have hf := hB.free 0
        have hB2 := hB.storeN 45 HN.out (by omega)
        have hfr : front x 13 ++ [45] = frontStr x := by rw [frontStr, if_pos HN.out.symm, List.eq_nil_of_length_eq_zero HN.out.symm]; rfl
        have hB3 := hB2.again rwxB wo.heap.size (by simp)
        rw [hfr] at hB3
        have HL := Lib.hid (frontStr_of_zero x HN.out.symm)
        clear hfr hB2 HN
        go_wp2
        go_loopw [4] (fun v wr => ∃ k n : Nat, k ≤ 9 ∧ v = .int .i64 (n : Int) ∧ Hid (n = (frontStr x ++ rights x k).length) ∧ Buf w wr (frontStr x ++ rights x k) wo.heap.size rwxB k) (fun _ wr => 9 - wr.iterPos wo.heap.size)
        case atStart => exact ⟨0, 1, by omega, by go_num, by rw [HL.out]; rfl, by rw [rights, List.append_nil]; exact hB3⟩
        case round =>
          obtain ⟨k, n, hk, rfl, HN, hB⟩ := hrel
          have hpos0 := Lib.hid hB.pos
          have hln := rights_length x k
          have hfl := frontStr_length x
          have hn13 : n = (frontStr x).length + k := by have := HN.out; rw [List.length_append, hln] at this; exact this
          have hn22 : n ≤ 22 := by omega
          have hll : (frontStr x ++ rights x k).length < 32 := by rw [← HN.out]; omega
          have HQ := Lib.hid hn13
          clear hln hfl hn13
          by_cases hlt : k < 9
          · have hnx : ∀ ty, (Instr.next (.pointer (some ⟨wo.heap.size, 0, none⟩)) true ty).run Try.prog wr = _ := fun ty => right_next Try.prog wr _ k ty hB.it hlt
            have hB1 := hB.next (k + 1)
            obtain ⟨W1, hW1⟩ : ∃ W1, W1 = wr.iterAt wo.heap.size rwxB (k + 1) := ⟨_, rfl⟩
            rw [← hW1] at hnx hB1
            have hl8 : ((rightAt k).toNat : Int) ≤ 255 := by have := (rightAt k).toNat_lt; omega
            have hc := hB1.cellN HN.out hll
            have hf := hB1.free n
            have hmb := mask_bit x (8 - k) (by omega)
            clear hW1
            by_cases hb : bitOf x (8 - k) = true
            · have hB2 := hB1.storeN (rightAt k) HN.out hll
              have HF := Lib.hid (rights_set x k hb)
              rw [hb] at hmb
              clear hb hll
              go_wp2
              go_roundw
              case rel => exact ⟨k + 1, n + 1, by omega, by go_num, by rw [HF.out, ← List.append_assoc, List.length_append, ← HN.out]; rfl, by rw [HF.out, ← List.append_assoc]; exact hB2⟩
              case measure => rw [hpos0.out, hB2.pos]; omega
            · have hb' : bitOf x (8 - k) = false := by simpa using hb
              have hB2 := hB1.storeN 45 HN.out hll
              have HF := Lib.hid (rights_unset x k hb')
              rw [hb'] at hmb
              clear hb hb' hll
              go_wp2
              go_roundw
              case rel => exact ⟨k + 1, n + 1, by omega, by go_num, by rw [HF.out, ← List.append_assoc, List.length_append, ← HN.out]; rfl, by rw [HF.out, ← List.append_assoc]; exact hB2⟩
              case measure => rw [hpos0.out]; erw [hB2.pos]; omega
          · obtain rfl : k = 9 := by omega
            have hnx : ∀ ty, (Instr.next (.pointer (some ⟨wo.heap.size, 0, none⟩)) true ty).run Try.prog wr = _ := fun ty => Lib.run_next_end_at wr _ _ _ ty hB.it (by decide)
            have hsl := slice_buf wr w.heap.size n (by omega)
            have hcv := hB.back HN.out
            clear hll
            go_wp2
            go_ret
            exact ⟨rfl, hB.below⟩
      · have hB3 := hB.again rwxB wo.heap.size rfl
        have hn1 : (n : Int) ≠ 0 := by omega
        have hfr : front x 13 = frontStr x := by rw [frontStr, if_neg (by have := HN.out; omega)]
        rw [hfr] at hB3 HN
        clear hfr
        go_wp2
        go_loopw [4] (fun v wr => ∃ k n : Nat, k ≤ 9 ∧ v = .int .i64 (n : Int) ∧ Hid (n = (frontStr x ++ rights x k).length) ∧ Buf w wr (frontStr x ++ rights x k) wo.heap.size rwxB k) (fun _ wr => 9 - wr.iterPos wo.heap.size)
        case atStart => exact ⟨0, n, by omega, rfl, by rw [rights, List.append_nil]; exact HN.out, by rw [rights, List.append_nil]; exact hB3⟩
        case round =>
          obtain ⟨k, n, hk, rfl, HN, hB⟩ := hrel
          have hpos0 := Lib.hid hB.pos
          have hln := rights_length x k
          have hfl := frontStr_length x
          have hn13 : n = (frontStr x).length + k := by have := HN.out; rw [List.length_append, hln] at this; exact this
          have hn22 : n ≤ 22 := by omega
          have hll : (frontStr x ++ rights x k).length < 32 := by rw [← HN.out]; omega
          have HQ := Lib.hid hn13
          clear hln hfl hn13
          by_cases hlt : k < 9
          · have hnx : ∀ ty, (Instr.next (.pointer (some ⟨wo.heap.size, 0, none⟩)) true ty).run Try.prog wr = _ := fun ty => right_next Try.prog wr _ k ty hB.it hlt
            have hB1 := hB.next (k + 1)
            obtain ⟨W1, hW1⟩ : ∃ W1, W1 = wr.iterAt wo.heap.size rwxB (k + 1) := ⟨_, rfl⟩
            rw [← hW1] at hnx hB1
            have hl8 : ((rightAt k).toNat : Int) ≤ 255 := by have := (rightAt k).toNat_lt; omega
            have hc := hB1.cellN HN.out hll
            have hf := hB1.free n
            have hmb := mask_bit x (8 - k) (by omega)
            clear hW1
            by_cases hb : bitOf x (8 - k) = true
            · have hB2 := hB1.storeN (rightAt k) HN.out hll
              have HF := Lib.hid (rights_set x k hb)
              rw [hb] at hmb
              clear hb hll
              go_wp2
              go_roundw
              case rel => exact ⟨k + 1, n + 1, by omega, by go_num, by rw [HF.out, ← List.append_assoc, List.length_append, ← HN.out]; rfl, by rw [HF.out, ← List.append_assoc]; exact hB2⟩
              case measure => rw [hpos0.out, hB2.pos]; omega
            · have hb' : bitOf x (8 - k) = false := by simpa using hb
              have hB2 := hB1.storeN 45 HN.out hll
              have HF := Lib.hid (rights_unset x k hb')
              rw [hb'] at hmb
              clear hb hb' hll
              go_wp2
              go_roundw
              case rel => exact ⟨k + 1, n + 1, by omega, by go_num, by rw [HF.out, ← List.append_assoc, List.length_append, ← HN.out]; rfl, by rw [HF.out, ← List.append_assoc]; exact hB2⟩
              case measure => rw [hpos0.out]; erw [hB2.pos]; omega
          · obtain rfl : k = 9 := by omega
            have hnx : ∀ ty, (Instr.next (.pointer (some ⟨wo.heap.size, 0, none⟩)) true ty).run Try.prog wr = _ := fun ty => Lib.run_next_end_at wr _ _ _ ty hB.it (by decide)
            have hsl := slice_buf wr w.heap.size n (by omega)
            have hcv := hB.back HN.out
            clear hll
            go_wp2
            go_ret
            exact ⟨rfl, hB.below⟩

/-- Two worlds in a row. -/
theorem Below.then_ {w w1 w2 : World} (h : Below w.heap.size w w1) (k : Below w1.heap.size w1 w2) : Below w.heap.size w w2 := h.trans (k.mono h.size)
/-- What impl.ModeString returns. -/
theorem modeString_any (x : BitVec 32) (w : World) : Calls Try.prog 15 #[.int .u32 (x.toNat : Int)] w fun e w' => e = .returned (.string (modeStr x)) ∧ Below w.heap.size w w' := by
  go_enter Try.func15, Try.ntmps15
  go_wp2_with fail
  refine (string_any _ _).mono ?_
  rintro e w1 ⟨rfl, hb⟩
  go_wp2_with fail
  go_ret
  exact ⟨rfl, hb⟩

theorem modeStr_size (x : BitVec 32) : (modeStr x).size = (frontStr x).length + 9 := by
  have e : (modeStr x).size = (modeList x).length := by simp [modeStr, ByteArray.size]
  rw [e, modeList, List.length_append, rights_length]
theorem modeStr_small (x : BitVec 32) : 10 ≤ (modeStr x).size ∧ (modeStr x).size ≤ 22 := by
  rw [modeStr_size]
  have := frontStr_length x
  omega
/-- The bits from 9 to 18 are not shown. -/
theorem front_congr (x y : BitVec 32) (h : ∀ j, 19 ≤ j → bitOf x j = bitOf y j) : ∀ k, k ≤ 13 → front x k = front y k := by
  intro k
  induction k with
  | zero => intro _; rfl
  | succ k ih => intro hk; rw [front, front, ih (by omega), h (31 - k) (by omega)]
theorem rights_congr (x y : BitVec 32) (h : ∀ j, j < 9 → bitOf x j = bitOf y j) : ∀ k, k ≤ 9 → rights x k = rights y k := by
  intro k
  induction k with
  | zero => intro _; rfl
  | succ k ih => intro hk; rw [rights, rights, ih (by omega), h (8 - k) (by omega)]
theorem modeStr_congr (x y : BitVec 32) (h1 : ∀ j, 19 ≤ j → bitOf x j = bitOf y j) (h2 : ∀ j, j < 9 → bitOf x j = bitOf y j) : modeStr x = modeStr y := by
  rw [modeStr, modeStr, modeList, modeList, frontStr, frontStr, front_congr x y h1 13 (by omega), rights_congr x y h2 9 (by omega)]
end Go.Proofs.Ytpikgcbmbepmcaa
