/-
  What spec.Has computes: its contract over this translation.
-/
import Derived.Test.YthnidaaenolndaaDoorRows
import Derived.WalkKit
import Derived.ProofKit
import Derived.WalkLawsBesides
import Derived.Lib.Hide
namespace Go.Proofs.YthnidaaenolndaaDoor
open Go Go.RowKit

/-- Is the byte c in the list? -/
def hasI (l : List UInt8) (c : Int) : Bool := l.any fun b => (b.toNat : Int) == c
theorem hasI_snoc (l : List UInt8) (b : UInt8) (c : Int) : hasI (l ++ [b]) c = (hasI l c || ((b.toNat : Int) == c)) := by
  simp [hasI]
theorem take_snoc (s : ByteArray) (k : Nat) (h : k < s.size) : s.data.toList.take (k + 1) = s.data.toList.take k ++ [s[k]] := by
  rw [List.take_succ_eq_append_getElem (by simpa using h)]; rfl
theorem hasI_of_take (s : ByteArray) (k : Nat) (c : Int) (h : k < s.size) (hc : ((s[k].toNat : Int) == c) = true) : hasI s.data.toList c = true := by
  have e : hasI (s.data.toList.take (k + 1)) c = true := by rw [take_snoc s k h, hasI_snoc, hc]; simp
  unfold hasI at *
  rw [List.any_eq_true] at *
  obtain ⟨b, hb, h2⟩ := e
  exact ⟨b, List.mem_of_mem_take hb, h2⟩

set_option maxHeartbeats 400000 in
theorem has_any (s : ByteArray) (c : Int) (w : World) (hs : s.size ≤ maxLen) :
    Calls Tryd.prog 14 #[.string s, .int .u8 c] w fun e w' => e = .returned (.bool (hasI s.data.toList c)) ∧ w = w' := by
  unfold maxLen at hs
  go_enter Tryd.func14, Tryd.ntmps14
  go_wp2
  go_loop [8] (fun i => ∃ k : Nat, k ≤ s.size ∧ i = .int .i64 k ∧ hasI (s.data.toList.take k) c = false) (fun i => s.size - (intOf i).toNat)
  case atStart => exact ⟨0, Nat.zero_le _, rfl, rfl⟩
  case round =>
    obtain ⟨k, hk, rfl, hf⟩ := hrel
    have HF := Lib.hid hf
    clear hf
    by_cases hlt : k < s.size
    · by_cases hc : ((s[k].toNat : Int) == c) = true
      · have hres := hasI_of_take s k c hlt hc
        have HR := Lib.hid hres
        clear hres
        go_wp2
        go_ret
        rw [HR.out]
        exact ⟨rfl, rfl⟩
      · have hc' : ((s[k].toNat : Int) == c) = false := by simpa using hc
        have hres : hasI (s.data.toList.take (k + 1)) c = false := by rw [take_snoc s k hlt, hasI_snoc, HF.out, hc']; rfl
        have HR := Lib.hid hres
        clear hres hc HF
        go_wp2
        go_round
        case rel => exact ⟨k + 1, by omega, by go_num, HR.out⟩
        case measure => simp [intOf]; omega
    · have hres : hasI s.data.toList c = false := by
        have := HF.out
        rw [List.take_of_length_le (by simp; omega)] at this
        exact this
      have HR := Lib.hid hres
      clear hres HF
      go_wp2
      go_ret
      rw [HR.out]
      exact ⟨rfl, rfl⟩

end Go.Proofs.YthnidaaenolndaaDoor
