/-
  Plain facts: two levels have one string just if they are one level.
-/
import Derived.Test.YtahmahdfjiojjaaDoorLevP
namespace Go.Proofs.YtahmahdfjiojjaaDoor
open Go Go.RowKit

/-- Does s begin with t? -/
def pre (t s : List UInt8) : Bool := t.isPrefixOf s
theorem pre_append (t s : List UInt8) : pre t (t ++ s) = true := by
  unfold pre; rw [List.isPrefixOf_iff_prefix]; exact List.prefix_append t s
theorem pre_take (t s : List UInt8) : pre t s = (s.take t.length == t) := by
  unfold pre
  rw [Bool.eq_iff_iff, List.isPrefixOf_iff_prefix, beq_iff_eq, List.prefix_iff_eq_take]
  exact eq_comm
def nmAt (i : Nat) : List UInt8 := if i = 0 then nameD else if i = 1 then nameI else if i = 2 then nameW else nameE
theorem nm_len (i : Nat) : 4 ≤ (nmAt i).length ∧ (nmAt i).length ≤ 5 := by
  unfold nmAt
  split
  · decide
  · split
    · decide
    · split <;> decide
theorem nm_apart (i q : Nat) (hi : i < 4) (hq : q < 4) (h : i ≠ q) (R : List UInt8) : pre (nmAt i) (nmAt q ++ R) = false := by
  have hd : i = 0 ∨ i = 1 ∨ i = 2 ∨ i = 3 := by omega
  have he : q = 0 ∨ q = 1 ∨ q = 2 ∨ q = 3 := by omega
  rcases hd with rfl | rfl | rfl | rfl <;> rcases he with rfl | rfl | rfl | rfl <;> first | exact absurd rfl h | rfl
/-- A level is a name's place and how far it is from it. -/
theorem level_parts (l : Int) : ∃ (q : Nat) (v : Int), q < 4 ∧ l = 4 * (q : Int) - 4 + v ∧ levList l = nmAt q ++ offS v ∧ v = levOff l ∧ (q = 0 ∨ 0 ≤ v) := by
  rw [levList_eq]
  unfold levName levOff
  by_cases a : l < 0
  · exact ⟨0, l + 4, by omega, by omega, by rw [if_pos a, if_pos a]; rfl, by rw [if_pos a], .inl rfl⟩
  · by_cases b : l < 4
    · exact ⟨1, l, by omega, by omega, by rw [if_neg a, if_neg a, if_pos b, if_pos b]; rfl, by rw [if_neg a, if_pos b], .inr (by omega)⟩
    · by_cases c : l < 8
      · exact ⟨2, l - 4, by omega, by omega, by rw [if_neg a, if_neg a, if_neg b, if_neg b, if_pos c, if_pos c]; rfl, by rw [if_neg a, if_neg b, if_pos c], .inr (by omega)⟩
      · exact ⟨3, l - 8, by omega, by omega, by rw [if_neg a, if_neg a, if_neg b, if_neg b, if_neg c, if_neg c]; rfl, by rw [if_neg a, if_neg b, if_neg c], .inr (by omega)⟩
/-- One byte more: a digit counts, another byte does not. -/
def stepV (n : Nat) (b : UInt8) : Nat := if 48 ≤ b.toNat ∧ b.toNat ≤ 57 then 10 * n + (b.toNat - 48) else n
def valV (l : List UInt8) : Nat := l.foldl stepV 0
theorem stepV_ge (n : Nat) (b : UInt8) : n ≤ stepV n b := by unfold stepV; split <;> omega
theorem fold_ge (l : List UInt8) (n : Nat) : n ≤ l.foldl stepV n := by
  induction l generalizing n with
  | nil => exact Nat.le_refl _
  | cons b l ih => exact Nat.le_trans (stepV_ge n b) (ih _)
theorem valV_snoc (l : List UInt8) (b : UInt8) : valV (l ++ [b]) = stepV (valV l) b := by simp [valV]
theorem valV_take (l : List UInt8) (k : Nat) : valV (l.take k) ≤ valV l := by
  have : valV l = (l.drop k).foldl stepV (valV (l.take k)) := by
    rw [valV, valV, ← List.foldl_append, List.take_append_drop]
  rw [this]; exact fold_ge _ _
theorem valV_dec (m : Nat) : valV (Lib.decDigits m) = m := by
  induction m using Nat.strongRecOn with
  | _ m ih =>
    by_cases h : m < 10
    · rw [Lib.decDigits_one h]
      have e : (UInt8.ofNat (48 + m)).toNat = 48 + m := by rw [UInt8.toNat_ofNat']; exact Nat.mod_eq_of_lt (by omega)
      show stepV 0 _ = m
      unfold stepV
      rw [e, if_pos (by omega)]; omega
    · rw [Lib.decDigits, dif_neg h, valV_snoc, ih (m / 10) (by omega)]
      have e : (UInt8.ofNat (48 + m % 10)).toNat = 48 + m % 10 := by rw [UInt8.toNat_ofNat']; exact Nat.mod_eq_of_lt (by omega)
      unfold stepV
      rw [e, if_pos (by omega)]; omega
theorem valV_sign (c : UInt8) (l : List UInt8) (h : c.toNat < 48) : valV (c :: l) = valV l := by
  show l.foldl stepV (stepV 0 c) = _
  have : stepV 0 c = 0 := by unfold stepV; rw [if_neg (by omega)]
  rw [this]; rfl

theorem dec_inj (m k : Nat) (h : Lib.decDigits m = Lib.decDigits k) : m = k := by
  rw [← valV_dec m, ← valV_dec k, h]
theorem offS_inj (v u : Int) (h : offS v = offS u) : v = u := by
  by_cases v0 : v = 0
  · by_cases u0 : u = 0
    · omega
    · rw [v0, offS_zero] at h
      by_cases u1 : 0 < u
      · rw [offS_plus u u.toNat (by omega) u1] at h; cases h
      · rw [offS_minus u (-u).toNat (by omega) (by omega)] at h; cases h
  · by_cases v1 : 0 < v
    · rw [offS_plus v v.toNat (by omega) v1] at h
      by_cases u0 : u = 0
      · rw [u0, offS_zero] at h; cases h
      · by_cases u1 : 0 < u
        · rw [offS_plus u u.toNat (by omega) u1] at h
          have := dec_inj _ _ (List.cons.inj h).2
          omega
        · rw [offS_minus u (-u).toNat (by omega) (by omega)] at h
          exact absurd (List.cons.inj h).1 (by decide)
    · rw [offS_minus v (-v).toNat (by omega) (by omega)] at h
      by_cases u0 : u = 0
      · rw [u0, offS_zero] at h; cases h
      · by_cases u1 : 0 < u
        · rw [offS_plus u u.toNat (by omega) u1] at h
          exact absurd (List.cons.inj h).1 (by decide)
        · rw [offS_minus u (-u).toNat (by omega) (by omega)] at h
          have := dec_inj _ _ (List.cons.inj h).2
          omega
theorem lev_inj (a b : Int) (h : levList a = levList b) : a = b := by
  obtain ⟨q, v, hq, ha, hL, _, _⟩ := level_parts a
  obtain ⟨p, u, hp, hb, hM, _, _⟩ := level_parts b
  rw [hL, hM] at h
  have e : q = p := by
    apply Classical.byContradiction
    intro hne
    have h1 := nm_apart q p hq hp hne (offS u)
    rw [← h, pre_append] at h1
    cases h1
  subst e
  have := offS_inj v u (List.append_cancel_left h)
  omega
theorem lev_apart (a b : Int) : ((strOf (levList a)).toList == (strOf (levList b)).toList) = (a == b) := by
  rw [ByteArray.toList_eq, ByteArray.toList_eq, Bool.eq_iff_iff, beq_iff_eq, beq_iff_eq]
  exact ⟨fun h => lev_inj a b h, fun h => by rw [h]⟩
end Go.Proofs.YtahmahdfjiojjaaDoor
