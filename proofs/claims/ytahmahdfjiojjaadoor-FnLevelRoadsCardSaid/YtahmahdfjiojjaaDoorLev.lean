/-
  What Level.String computes: a plain function on lists, and the contracts of log/slog's text over this translation (strconv.Itoa by the kit's shelf, under the table of powers of ten that the row lists).
-/
import Derived.Test.YtahmahdfjiojjaaDoorRows
import Derived.Test.YtahmahdfjiojjaaDoorShelf
import Derived.WalkKit
import Derived.ProofKit
import Derived.WalkLawsBesides
import Derived.Lib.Hide
import Derived.Lib.SmallJoins
import Derived.Lib.ItoaLen
namespace Go.Proofs.YtahmahdfjiojjaaDoor
open Go Go.RowKit

theorem gPow : Tryd.prog.globalNamed "internal/strconv.uint64pow10" = some 7 := by kernel_rfl
/-- The table of powers of ten holds what its initialiser lays. -/
def Tab (w : World) : Prop := Lib.TabIs Tryd.prog w "internal/strconv.uint64pow10" .u64 Lib.pow10Tab
theorem Tab.stays {w w' : World} (h : Tab w) (hb : Below w.heap.size w w') : Tab w' := Joins.tab_stays gPow h hb (Nat.le_refl _)
theorem Below.then_ {w w1 w2 : World} (h : Below w.heap.size w w1) (k : Below w1.heap.size w1 w2) : Below w.heap.size w w2 := h.trans (k.mono h.size)
theorem below_grow (w : World) (k : Nat) (os : Array Obj) : Below w.heap.size w (Sort.grow (w.drewN k) os) :=
  ⟨rfl, rfl, rfl, by simp [Sort.grow], fun i hi => by
    show (w.heap ++ os)[i]? = w.heap[i]?
    rw [Array.getElem?_append_left hi]⟩

/-- A list of bytes as a string. -/
def strOf (l : List UInt8) : ByteArray := ⟨l.toArray⟩
theorem strOf_size (l : List UInt8) : (strOf l).size = l.length := by simp [strOf, ByteArray.size]
theorem strOf_data (l : List UInt8) : (strOf l).data.toList = l := rfl
theorem add_str (P : Program) (w : World) (l m : List UInt8) (h : l.length + m.length ≤ 1000) : (Op.stringOp .add (strOf l) (strOf m)).run P w = .ok (.string (strOf (l ++ m))) w :=
  run_string_add_lists w l m (by omega) (by omega)

/-- What stands behind a name: nothing, + and a number, - and a number. -/
def offS (v : Int) : List UInt8 := if v = 0 then [] else if 0 < v then 43 :: Lib.itoa v else Lib.itoa v
theorem offS_zero : offS 0 = [] := rfl
theorem offS_plus (v : Int) (n : Nat) (hv : v = (n : Int)) (h : 0 < v) : offS v = 43 :: Lib.decDigits n := by
  rw [offS, if_neg (by omega), if_pos h, hv, Lib.itoa_nonneg]
theorem offS_minus (v : Int) (n : Nat) (hv : v = -(n : Int)) (h : v < 0) : offS v = 45 :: Lib.decDigits n := by
  rw [offS, if_neg (by omega), if_neg (by omega), hv, Lib.itoa_neg n (by omega)]
theorem itoa_any (n : Int) (h0 : -9223372036854775808 ≤ n) (h1 : n ≤ 9223372036854775807) (w : World) (hT : Tab w) :
    Calls Tryd.prog 30 #[.int .i64 n] w fun e w' => e = .returned (.string (strOf (Lib.itoa n))) ∧ Below w.heap.size w w' :=
  (Tryd.strconv_Itoa n h0 h1 w hT).mono fun e w' ⟨he, k, os, hw⟩ => ⟨he, by rw [hw]; exact below_grow w k os⟩

set_option maxHeartbeats 400000 in
/-- The closure of Level.String. -/
theorem str_any (b : List UInt8) (v : Int) (h0 : -9223372036854775808 ≤ v) (h1 : v ≤ 9223372036854775807) (hb : b.length ≤ 10) (w : World) (hT : Tab w) :
    Calls Tryd.prog 29 #[.string (strOf b), .int .i64 v] w fun e w' => e = .returned (.string (strOf (b ++ offS v))) ∧ Below w.heap.size w w' := by
  have hi := itoa_any v h0 h1
  have hl := Lib.itoa_length_le v h0 h1
  unfold offS
  generalize Lib.itoa v = d at hi hl
  have HI := Lib.hid hi
  clear hi
  by_cases hz : v = 0
  · subst hz
    rw [if_pos rfl, List.append_nil]
    go_enter Tryd.func29, Tryd.ntmps29
    go_wp2_with fail
    go_ret
    exact ⟨rfl, Below.refl _ _⟩
  · rw [if_neg hz]
    have hz2 : (v == 0) = false := beq_false_of_ne hz
    by_cases hp : 0 < v
    · rw [if_pos hp]
      clear hz
      go_enter Tryd.func29, Tryd.ntmps29
      go_wp2_with fail
      refine (HI.out _ hT).mono ?_
      rintro e W1 ⟨rfl, hb1⟩
      have a1 : (Op.stringOp .add ⟨#[43]⟩ (strOf d)).run Tryd.prog W1 = .ok (.string (strOf (43 :: d))) W1 := add_str Tryd.prog W1 [43] d (by simp; omega)
      have a2 := add_str Tryd.prog W1 b (43 :: d) (by simp; omega)
      go_wp2_with fail
      go_ret
      exact ⟨rfl, hb1⟩
    · rw [if_neg hp]
      clear hz
      go_enter Tryd.func29, Tryd.ntmps29
      go_wp2_with fail
      refine (HI.out _ hT).mono ?_
      rintro e W1 ⟨rfl, hb1⟩
      have a2 := add_str Tryd.prog W1 b d (by omega)
      go_wp2_with fail
      go_ret
      exact ⟨rfl, hb1⟩

def nameD : List UInt8 := [68, 69, 66, 85, 71]
def nameI : List UInt8 := [73, 78, 70, 79]
def nameW : List UInt8 := [87, 65, 82, 78]
def nameE : List UInt8 := [69, 82, 82, 79, 82]
/-- A level's string, as a list of bytes. -/
def levList (l : Int) : List UInt8 := if l < 0 then nameD ++ offS (l + 4) else if l < 4 then nameI ++ offS l else if l < 8 then nameW ++ offS (l - 4) else nameE ++ offS (l - 8)
def levStr (l : Int) : ByteArray := strOf (levList l)

set_option maxHeartbeats 400000 in
theorem level_any (l : Int) (h0 : -9223372036854775808 ≤ l) (h1 : l ≤ 9223372036854775807) (w : World) (hT : Tab w) :
    Calls Tryd.prog 22 #[.int .i64 l] w fun e w' => e = .returned (.string (levStr l)) ∧ Below w.heap.size w w' := by
  unfold levStr levList
  by_cases a1 : l < 0
  · rw [if_pos a1]
    go_enter Tryd.func22, Tryd.ntmps22
    go_wp2_with fail
    refine (str_any nameD (l + 4) (by omega) (by omega) (by decide) _ hT).mono ?_
    rintro e W1 ⟨rfl, hb1⟩
    go_wp2_with fail
    go_ret
    exact ⟨rfl, hb1⟩
  · rw [if_neg a1]
    by_cases a2 : l < 4
    · rw [if_pos a2]
      go_enter Tryd.func22, Tryd.ntmps22
      go_wp2_with fail
      refine (str_any nameI (l) (by omega) (by omega) (by decide) _ hT).mono ?_
      rintro e W1 ⟨rfl, hb1⟩
      go_wp2_with fail
      go_ret
      exact ⟨rfl, hb1⟩
    · rw [if_neg a2]
      by_cases a3 : l < 8
      · rw [if_pos a3]
        go_enter Tryd.func22, Tryd.ntmps22
        go_wp2_with fail
        refine (str_any nameW (l - 4) (by omega) (by omega) (by decide) _ hT).mono ?_
        rintro e W1 ⟨rfl, hb1⟩
        go_wp2_with fail
        go_ret
        exact ⟨rfl, hb1⟩
      · rw [if_neg a3]
        go_enter Tryd.func22, Tryd.ntmps22
        go_wp2_with fail
        refine (str_any nameE (l - 8) (by omega) (by omega) (by decide) _ hT).mono ?_
        rintro e W1 ⟨rfl, hb1⟩
        go_wp2_with fail
        go_ret
        exact ⟨rfl, hb1⟩

theorem levelString_any (l : Int) (h0 : -9223372036854775808 ≤ l) (h1 : l ≤ 9223372036854775807) (w : World) (hT : Tab w) :
    Calls Tryd.prog 16 #[.int .i64 l] w fun e w' => e = .returned (.string (levStr l)) ∧ Below w.heap.size w w' := by
  have HL := Lib.hid (level_any l h0 h1)
  go_enter Tryd.func16, Tryd.ntmps16
  go_wp2_with fail
  refine (HL.out _ hT).mono ?_
  rintro e W1 ⟨rfl, hb1⟩
  go_wp2_with fail
  go_ret
  exact ⟨rfl, hb1⟩
end Go.Proofs.YtahmahdfjiojjaaDoor
