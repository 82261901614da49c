/-
  Bit operations on uint32 as the walk writes them, held against Lean's bit vectors. Plain Lean: no program in sight.
-/
import Derived.WalkKit
import Derived.ProofKit
import Derived.OpenShut
namespace Go.Proofs.Ytpikgcbmbepmcaa
open Go

theorem bvOf (m : Int) (h : (Lit.int .u32 m).wf = true) : ∃ x : BitVec 32, m = (x.toNat : Int) := by
  have hb : 0 ≤ m ∧ m < 4294967296 := by
    have := (Go.bounds_u32 h)
    omega
  refine ⟨BitVec.ofNat 32 m.toNat, ?_⟩
  rw [BitVec.toNat_ofNat]
  have : m.toNat % 2 ^ 32 = m.toNat := Nat.mod_eq_of_lt (by omega)
  omega

theorem band (x y : BitVec 32) : bits .and .u32 (x.toNat : Int) (y.toNat : Int) = ((x &&& y).toNat : Int) := by
  rw [u32_and_nat _ _ x.isLt y.isLt, BitVec.toNat_and]
theorem bor (x y : BitVec 32) : bits .or .u32 (x.toNat : Int) (y.toNat : Int) = ((x ||| y).toNat : Int) := by
  rw [u32_or_nat _ _ x.isLt y.isLt, BitVec.toNat_or]
theorem bxor (x y : BitVec 32) : bits .xor .u32 (x.toNat : Int) (y.toNat : Int) = ((x ^^^ y).toNat : Int) := by
  rw [u32_xor_nat _ _ x.isLt y.isLt, BitVec.toNat_xor]
theorem bandNot (x y : BitVec 32) : bits .andNot .u32 (x.toNat : Int) (y.toNat : Int) = ((x &&& ~~~y).toNat : Int) := by
  rw [u32_andNot_nat _ _ x.isLt y.isLt, BitVec.toNat_and, BitVec.toNat_not]

/-- What a mask keeps of 'or', 'and', 'xor'. -/
theorem mask_or (x y c : BitVec 32) : bits .and .u32 (bits .or .u32 (x.toNat : Int) (y.toNat : Int)) (c.toNat : Int) = bits .or .u32 (bits .and .u32 (x.toNat : Int) (c.toNat : Int)) (bits .and .u32 (y.toNat : Int) (c.toNat : Int)) := by
  simp only [band, bor]; congr 2; ext i; simp [Bool.and_or_distrib_right]
theorem mask_and (x y c : BitVec 32) : bits .and .u32 (bits .and .u32 (x.toNat : Int) (y.toNat : Int)) (c.toNat : Int) = bits .and .u32 (bits .and .u32 (x.toNat : Int) (c.toNat : Int)) (bits .and .u32 (y.toNat : Int) (c.toNat : Int)) := by
  simp only [band]; congr 2; ext i hi; simp; cases x[i] <;> cases y[i] <;> cases c[i] <;> first | rfl | simp
theorem mask_xor (x y c : BitVec 32) : bits .and .u32 (bits .xor .u32 (x.toNat : Int) (y.toNat : Int)) (c.toNat : Int) = bits .xor .u32 (bits .and .u32 (x.toNat : Int) (c.toNat : Int)) (bits .and .u32 (y.toNat : Int) (c.toNat : Int)) := by
  simp only [band, bxor]; congr 2; ext i hi; simp; cases x[i] <;> cases y[i] <;> cases c[i] <;> first | rfl | simp
theorem mask_twice (x c : BitVec 32) : bits .and .u32 (bits .and .u32 (x.toNat : Int) (c.toNat : Int)) (c.toNat : Int) = bits .and .u32 (x.toNat : Int) (c.toNat : Int) := by
  simp only [band]; congr 2; ext i hi; simp
/-- A number under one mask, then under another that has nothing in common with it. -/
theorem mask_apart (x c d : BitVec 32) (h : c &&& d = 0#32) : bits .and .u32 (bits .and .u32 (x.toNat : Int) (c.toNat : Int)) (d.toNat : Int) = 0 := by
  simp only [band]
  have e : x &&& c &&& d = 0#32 := by rw [BitVec.and_assoc, h]; simp
  rw [e]; rfl
/-- What lies outside a mask has nothing under it. -/
theorem mask_gone (x c : BitVec 32) : bits .and .u32 (bits .andNot .u32 (x.toNat : Int) (c.toNat : Int)) (c.toNat : Int) = 0 := by
  simp only [band, bandNot]
  have e : x &&& ~~~c &&& c = 0#32 := by ext i hi; simp
  rw [e]; rfl
/-- A number under two masks that have nothing in common. -/
theorem masks_apart (x y c d : BitVec 32) (h : c &&& d = 0#32) : bits .and .u32 (bits .and .u32 (x.toNat : Int) (c.toNat : Int)) (bits .and .u32 (y.toNat : Int) (d.toNat : Int)) = 0 := by
  simp only [band]
  have e : x &&& c &&& (y &&& d) = 0#32 := by
    have : x &&& c &&& (y &&& d) = (x &&& y) &&& (c &&& d) := by ext i hi; simp; cases x[i] <;> cases y[i] <;> cases c[i] <;> cases d[i] <;> first | rfl | simp
    rw [this, h]; simp
  rw [e]; rfl
/-- What a mask keeps of a number to which a bit of the mask was added, but for the number: that bit at most. -/
theorem mask_new (x b c : BitVec 32) : bits .and .u32 (bits .andNot .u32 (bits .and .u32 (bits .or .u32 (x.toNat : Int) (b.toNat : Int)) (c.toNat : Int)) (x.toNat : Int)) (b.toNat : Int) = bits .andNot .u32 (bits .and .u32 (bits .or .u32 (x.toNat : Int) (b.toNat : Int)) (c.toNat : Int)) (x.toNat : Int) := by
  simp only [band, bor, bandNot]; congr 2; ext i hi; simp; cases x[i] <;> cases b[i] <;> cases c[i] <;> first | rfl | simp
/-- A bit of the mask that was set is kept. -/
theorem mask_keeps (x b c : BitVec 32) (hb : b ≠ 0#32) (h : b &&& c = b) : bits .and .u32 (bits .or .u32 (x.toNat : Int) (b.toNat : Int)) (c.toNat : Int) ≠ 0 := by
  simp only [band, bor]
  intro e
  have e1 : (x ||| b) &&& c = 0#32 := BitVec.eq_of_toNat_eq (by simpa using e)
  apply hb
  have e2 : b = b &&& ((x ||| b) &&& c) := by
    rw [← h]; ext i hi; simp; cases x[i] <;> cases b[i] <;> cases c[i] <;> first | rfl | simp
  rw [e2, e1]; simp
theorem perm_mod (x : BitVec 32) : bits .and .u32 (x.toNat : Int) 511 = (x.toNat : Int) % 512 := by
  rw [show (511 : Int) = ((511 : Nat) : Int) from rfl, u32_and_nat _ _ x.isLt (by decide), nat_mask9]
  omega
theorem perm_one (x : BitVec 32) : bits .and .u32 (bits .or .u32 (x.toNat : Int) 1) 511 = bits .or .u32 ((x.toNat : Int) % 512) 1 := by
  rw [← perm_mod]
  exact mask_or x 1#32 511#32
theorem top_ge (x : BitVec 32) : (bits .and .u32 (x.toNat : Int) 2147483648 != 0) = decide (2147483648 ≤ (x.toNat : Int)) := by
  rw [show (2147483648 : Int) = ((2 ^ 31 : Nat) : Int) from rfl, u32_and_nat _ _ x.isLt (by decide), nat_bit]
  have := x.isLt
  by_cases h : 2147483648 ≤ x.toNat
  · have e : x.toNat / 2 ^ 31 % 2 = 1 := by omega
    rw [e]; simp; omega
  · have e : x.toNat / 2 ^ 31 % 2 = 0 := by omega
    rw [e]; simp; omega
theorem top_set (x : BitVec 32) : bits .and .u32 (bits .or .u32 (x.toNat : Int) 2147483648) 2147483648 = 2147483648 := by
  show bits .and .u32 (bits .or .u32 (x.toNat : Int) ((2147483648#32).toNat : Int)) ((2147483648#32).toNat : Int) = ((2147483648#32).toNat : Int)
  rw [bor, band]; congr 2; ext i hi; simp; cases x[i] <;> cases (2147483648#32)[i] <;> first | rfl | simp
theorem top_clear (x : BitVec 32) : bits .and .u32 (bits .and .u32 (x.toNat : Int) 2147483647) 2147483648 = 0 :=
  mask_apart x 2147483647#32 2147483648#32 (by decide)
end Go.Proofs.Ytpikgcbmbepmcaa
