/-
  What Level.AppendText and MarshalText, and the thin package's LevelText and LevelAppend compute: their contracts over this translation. The law on 'append' of a string to a slice of bytes that may bear the mark of a conversion.
-/
import Derived.Test.YtahmahdfjiojjaaDoorLevP
import Derived.Lib.AppendStr
import Derived.Laws.IdiomStrings
import Derived.Laws.IdiomCopy
import Derived.Deep.QuietTactic
import Derived.BigQuiet
namespace Go.Proofs.YtahmahdfjiojjaaDoor
open Go Go.RowKit

/-- The slice v holds the bytes l, in a block from B on. -/
def Reads (w : World) (B : Nat) (v : Value) (l : List UInt8) : Prop :=
  ∃ g cap, v = .slice (some ⟨g, 0, none⟩) l.length cap ∧ B ≤ g ∧ ∀ j b, l[j]? = some b → w.cell? ⟨g, j, none⟩ = some (.int .u8 (b.toNat : Int))
/-- The slice v holds the bytes l, and can be written behind them up to its capacity. -/
def Room (w : World) (B : Nat) (v : Value) (l : List UInt8) : Prop :=
  (v = .slice none 0 0 ∧ l = []) ∨
  ∃ g cap, v = .slice (some ⟨g, 0, none⟩) l.length cap ∧ B ≤ g ∧ g < w.heap.size ∧ (∀ j b, l[j]? = some b → w.cell? ⟨g, j, none⟩ = some (.int .u8 (b.toNat : Int))) ∧
    (∀ j, j < cap → (w.cell? ⟨g, j, none⟩).isSome = true) ∧ (∀ j, j < cap → w.frozen? ⟨g, j, none⟩ = false)
theorem Room.stays {w w' : World} {B : Nat} {v : Value} {l : List UInt8} (h : Room w B v l) (hb : Below w.heap.size w w') : Room w' B v l := by
  rcases h with h | ⟨g, cap, rfl, h1, h2, h3, h4, h5⟩
  · exact .inl h
  · refine .inr ⟨g, cap, rfl, h1, Nat.lt_of_lt_of_le h2 hb.size, ?_, ?_, ?_⟩
    · intro j b hj; rw [hb.cell (p := ⟨g, j, none⟩) h2]; exact h3 j b hj
    · intro j hj; rw [hb.cell (p := ⟨g, j, none⟩) h2]; exact h4 j hj
    · intro j hj; rw [hb.frozen (p := ⟨g, j, none⟩) h2]; exact h5 j hj
theorem below_setCells {w : World} {B g : Nat} (h : B ≤ g) (vs : List Value) : ∀ (o : Nat) (w0 : World), Below B w w0 → Below B w (w0.setCells g o vs) := by
  induction vs with
  | nil => intro o w0 hb; exact hb
  | cons x vs ih => intro o w0 hb; exact ih (o + 1) _ (hb.setCell h _)
theorem infoU8 : (Tryd.prog.info? 5).map (fun i => (i.zero, i.size, i.bytes)) = some (some (.int .u8 0), 1, 1) := by kernel_rfl
theorem plain_add (g j : Nat) : (⟨g, 0, none⟩ : Addr).add j = ⟨g, j, none⟩ := by unfold Addr.add; split <;> simp_all
theorem cells_get (l : List UInt8) (j : Nat) (u : Value) (h : (Lib.strCells (strOf l))[j]? = some u) : ∃ b, l[j]? = some b ∧ u = .int .u8 (b.toNat : Int) := by
  have : Lib.strCells (strOf l) = l.map fun b => Value.int .u8 (b.toNat : Int) := rfl
  rw [this, List.getElem?_map] at h
  cases hj : l[j]? with
  | none => rw [hj] at h; cases h
  | some b => rw [hj] at h; exact ⟨b, rfl, (Option.some.inj h).symm⟩
theorem get_cells (l : List UInt8) (j : Nat) (b : UInt8) (h : l[j]? = some b) : (Lib.strCells (strOf l))[j]? = some (.int .u8 (b.toNat : Int)) := by
  have : Lib.strCells (strOf l) = l.map fun b => Value.int .u8 (b.toNat : Int) := rfl
  rw [this, List.getElem?_map, h]; rfl

/-- 'append(v, s...)', s a string. -/
theorem app_law (w : World) (B : Nat) (v : Value) (l s : List UInt8) (ty : TypeId) (hR : Room w B v l) (hs : 0 < s.length) (hlen : l.length + s.length ≤ 140737488355328) (hB : B ≤ w.heap.size) :
    ∃ v' w', (Builtin.append_ #[31, 9] ty #[v, .string (strOf s)]).run Tryd.prog w = .ok v' w' ∧ Reads w' B v' (l ++ s) ∧ Below B w w' := by
  obtain ⟨i0, hi, hz0, hz1, hz2⟩ := info_parts infoU8
  have hsz := strOf_size s
  rcases hR with ⟨rfl, rfl⟩ | ⟨g, cap, rfl, h1, h2, h3, h4, h5⟩
  · obtain ⟨v', w', hr, hown, hgrow, hnil⟩ := Lib.run_append_own_string (P := Tryd.prog) w B 31 9 ty 5 i0 Tryd.underlying31 Tryd.underlying9 hi hz0 hz1 hz2 (.slice none 0 0) 0 [] (World.ownsRow_nil _ _ _ _) (strOf s) (by unfold maxLen; omega) (by omega) hB
    refine ⟨v', w', hr, ?_, (Below.refl _ _).grown hgrow hB (fun k hk => by simp [Value.ownBlock] at hk)⟩
    rcases hown.2 with ⟨hv, hn⟩ | ⟨g, cap, cur, hv, hg, _⟩
    · omega
    · refine ⟨g, cap, by rw [hv, hsz]; simp, hg, ?_⟩
      intro j b hj
      have := hown.cells (g := g) (by rw [hv]; rfl) j (.int .u8 (b.toNat : Int)) (get_cells s j b (by simpa using hj))
      rw [plain_add] at this
      exact this
  · have hcl := Lib.strCells_length (strOf s)
    by_cases hroom : l.length + s.length ≤ cap
    · have hst := run_storeCells_cells (P := Tryd.prog) g l.length (Lib.strCells (strOf s)) 0 w (fun j hj => h4 _ (by omega)) (fun j hj => h5 _ (by omega)) (Lib.strCells_oneCell _)
      have hf := Lib.run_firstCells_string (P := Tryd.prog) w 1 (strOf s)
      have hroom' : l.length + (strOf s).size ≤ cap := by omega
      simp only [Nat.add_zero] at hst
      refine ⟨.slice (some ⟨g, 0, none⟩) (l.length + (strOf s).size) cap, w.setCells g l.length (Lib.strCells (strOf s)), ?_, ?_, below_setCells h1 _ _ _ (Below.refl _ _)⟩
      · simp [Builtin.append_, run_underlying Tryd.underlying31, run_underlying Tryd.underlying9, sizeOf, typeInfo, hi, hz1, Builtin.lenOf, hroom', hf, Addr.add_lit, hst]
      · refine ⟨g, cap, by rw [List.length_append, hsz], h1, ?_⟩
        intro j b hj
        by_cases hjl : j < l.length
        · rw [List.getElem?_append_left hjl] at hj
          rw [World.cell?_setCells_out _ _ _ _ _ (fun _ _ => .inl hjl)]
          exact h3 j b hj
        · rw [List.getElem?_append_right (by omega)] at hj
          obtain ⟨k, rfl⟩ : ∃ k, j = l.length + k := ⟨j - l.length, by omega⟩
          have e : l.length + k - l.length = k := by omega
          rw [e] at hj
          have hg := get_cells s k b hj
          obtain ⟨hk, he⟩ := List.getElem?_eq_some_iff.1 hg
          rw [World.cell?_setCells_in g _ l.length w (fun i hi => h4 _ (by omega)) k hk, he]
    · have hr := Lib.run_append_grow_string (P := Tryd.prog) w 31 9 ty 5 i0 (.int .u8 0) Tryd.underlying31 Tryd.underlying9 hi hz0 ⟨g, 0, none⟩ l.length cap (Lib.strCells (strOf l)) (by rw [hz1, Lib.strCells_length, strOf_size, Nat.mul_one])
        (fun j u hj => by obtain ⟨b, hb, rfl⟩ := cells_get l j u hj; rw [plain_add]; exact h3 j b hb) (strOf s) (by omega) (by omega) (by rw [hz2]; exact growslice_fits (by omega) (by omega))
      refine ⟨_, _, hr, ?_, (Below.drew (Below.refl _ _)).alloc hB _⟩
      refine ⟨w.heap.size, _, by rw [List.length_append, hsz], hB, ?_⟩
      intro j b hj
      refine (World.cell?_alloc_at _ _ _ _ rfl).trans ?_
      have hjl : j < (l ++ s).length := (List.getElem?_eq_some_iff.1 hj).1
      have hlen2 : ((Lib.strCells (strOf l)).toArray ++ (Lib.strCells (strOf s)).toArray).size = (l ++ s).length := by
        simp [Lib.strCells_length, strOf_size]
      rw [Array.getElem?_append_left (by omega), ← Array.getElem?_toList]
      have hal : ((Lib.strCells (strOf l)).toArray ++ (Lib.strCells (strOf s)).toArray).toList = Lib.strCells (strOf (l ++ s)) := by
        simp [Lib.strCells, strOf]
      rw [hal]
      exact get_cells (l ++ s) j b hj

/-- The operation, for the walk: 'append' whose run is known. -/
theorem wpList_append_run {P : Program} {w : World} {ops : Array Oper} {rest : List Oper} {o : Oper} {a : Act} {Q : Exit → Act → World → Prop} (hgd : o.guard = none) (sl x : Operand) (t u : TypeId)
    (ho : o.op = .call { callee := .builtin .append, args := #[sl, x], argTypes := #[t, u] }) (v s : Value) (hs : a.eval sl = v) (hx : a.eval x = s) (v' : Value) (w' : World)
    (hr : (Builtin.append_ #[t, u] o.type #[v, s]).run P w = .ok v' w') (h : wpList P ops Q rest (a.put o.dst v') w') : wpList P ops Q (o :: rest) a w := by
  refine wpList_plain hgd fun K hK => ?_
  unfold Oper.wp execOp
  simp only [ho, resolve, invoke, builtin, Sem.run_bind, Sem.run_pure, Result.andThen_ok, List.map_toArray, List.map_cons, List.map_nil, hs, hx, hr]
  exact hK _ _ h

set_option maxHeartbeats 400000 in
/-- Level.AppendText. -/
theorem appendText_any (l : Int) (h0 : -9223372036854775808 ≤ l) (h1 : l ≤ 9223372036854775807) (v : Value) (B : Nat) (d : List UInt8) (w : World) (hT : Tab w) (hR : Room w B v d) (hd : d.length ≤ 140737488354000) (hB : B ≤ w.heap.size) :
    Calls Tryd.prog 24 #[.int .i64 l, v] w fun e w' => ∃ v', e = .returned (.tuple #[v', .nilIface]) ∧ Reads w' B v' (d ++ levList l) ∧ Below B w w' := by
  have HL := Lib.hid (show ∀ w, Tab w → Calls Tryd.prog 22 #[.int .i64 l] w fun e w' => e = .returned (.string (strOf (levList l))) ∧ Below w.heap.size w w' from fun w hT => level_any l h0 h1 w hT)
  have hl := levList_len l h0 h1
  generalize levList l = L at HL hl ⊢
  go_enter Tryd.func24, Tryd.ntmps24
  go_wp2_with fail
  refine (HL.out _ hT).mono ?_
  rintro e W1 ⟨rfl, hb1⟩
  have hRW := hR.stays hb1
  have hBW : B ≤ W1.heap.size := Nat.le_trans hB hb1.size
  obtain ⟨v', W2, hr, hre, hb2⟩ := app_law W1 B v d L 31 hRW (by omega) (by omega) hBW
  go_wp2_with (at_builtin; refine wpList_append_run rfl _ _ _ _ rfl _ _ rfl rfl v' W2 hr ?_)
  go_ret2
  exact ⟨v', rfl, hre, (hb1.mono hB).trans hb2⟩

set_option maxHeartbeats 400000 in
/-- Level.MarshalText. -/
theorem marshalText_any (l : Int) (h0 : -9223372036854775808 ≤ l) (h1 : l ≤ 9223372036854775807) (w : World) (hT : Tab w) :
    Calls Tryd.prog 23 #[.int .i64 l] w fun e w' => ∃ v', e = .returned (.tuple #[v', .nilIface]) ∧ Reads w' w.heap.size v' (levList l) ∧ Below w.heap.size w w' := by
  have HA := Lib.hid (appendText_any l h0 h1 (.slice none 0 0) w.heap.size [] w hT (.inl ⟨rfl, rfl⟩) (by simp) (Nat.le_refl _))
  go_enter Tryd.func23, Tryd.ntmps23
  go_wp2_with fail
  refine HA.out.mono ?_
  rintro e W1 ⟨v', rfl, hre, hb1⟩
  go_wp2_with fail
  go_ret2
  exact ⟨v', rfl, hre, hb1⟩

/-- A slice's bytes as a string, behind whatever draws. -/
theorem Reads.back {w : World} {B : Nat} {v : Value} {l : List UInt8} (h : Reads w B v l) (n : Nat) : (convert 31 9 v).run Tryd.prog (w.drewN n) = .ok (.string (strOf l)) (w.drewN n) := by
  obtain ⟨g, cap, rfl, hB, hc⟩ := h
  refine run_convert_bytes_back (w.drewN n) 31 9 5 _ cap l Tryd.underlying31 Tryd.underlying5 Tryd.underlying9 ?_
  intro j hj
  rw [plain_add]
  exact hc j l[j] (List.getElem?_eq_getElem hj)

set_option maxHeartbeats 400000 in
/-- impl.LevelText. -/
theorem levelText_any (l : Int) (h0 : -9223372036854775808 ≤ l) (h1 : l ≤ 9223372036854775807) (w : World) (hT : Tab w) :
    Calls Tryd.prog 17 #[.int .i64 l] w fun e w' => e = .returned (.tuple #[.string (strOf (levList l)), .bool true]) ∧ Below w.heap.size w w' := by
  have HA := Lib.hid (marshalText_any l h0 h1 w hT)
  obtain ⟨S, hS⟩ : ∃ S, S = strOf (levList l) := ⟨_, rfl⟩
  rw [← hS]
  have HS := Lib.hid hS
  clear hS
  go_enter Tryd.func17, Tryd.ntmps17
  go_wp2_with fail
  refine HA.out.mono ?_
  rintro e W1 ⟨v', rfl, hre, hb1⟩
  have hbk : ∀ n, (convert 31 9 v').run Tryd.prog (W1.drewN n) = .ok (.string S) (W1.drewN n) := fun n => by rw [HS.out]; exact hre.back n
  clear hre
  go_wp2_with fail
  go_quiet (fail)
  go_wp2_with fail
  go_ret2
  exact ⟨rfl, hb1.trans ⟨rfl, rfl, rfl, Nat.le_refl _, fun _ _ => rfl⟩⟩

/-- '[]byte(s)'. -/
theorem bytes_room (w : World) (l : List UInt8) : ∃ (v : Value) (W2 : World), (convert 9 31 (.string (strOf l))).run Tryd.prog w = .ok v W2 ∧ Below w.heap.size w W2 ∧ Room W2 w.heap.size v l := by
  have h := run_bytes_of_string (P := Tryd.prog) w 9 31 5 (strOf l) Tryd.underlying9 Tryd.underlying31 Tryd.underlying5
  have hsz := strOf_size l
  have hge := grownCap_ge w (strOf l).size 0 5
  have hrow : (bytesRow (strOf l) (grownCap w (strOf l).size 0 5)).size = grownCap w (strOf l).size 0 5 := by
    rw [bytesRow, Array.size_append, Array.size_map, Array.size_replicate]
    have : (strOf l).data.size = (strOf l).size := rfl
    omega
  generalize grownCap w (strOf l).size 0 5 = cap at h hge hrow
  refine ⟨_, _, h, (Below.drew (Below.refl _ _)).alloc (Nat.le_refl _) _, .inr ⟨w.heap.size, cap, by rw [hsz], Nat.le_refl _, by simp, ?_, ?_, ?_⟩⟩
  · intro j b hb
    have hj : j < l.length := (List.getElem?_eq_some_iff.1 hb).1
    refine (World.cell?_alloc_mark w.drew _ _ _ j).trans ?_
    have hs : (strOf l).data.toList = l := rfl
    rw [bytesRow, Array.getElem?_append_left (by simp [strOf]; exact hj)]
    rw [Array.getElem?_map, ← Array.getElem?_toList, hs, hb]
    rfl
  · intro j hj
    have := World.cell?_alloc_mark w.drew (bytesRow (strOf l) cap) 5 ((bytesRow (strOf l) cap).size, (bytesRow (strOf l) cap).size + 1) j
    refine (congrArg Option.isSome this).trans ?_
    rw [Array.getElem?_eq_getElem (by omega)]; rfl
  · intro j hj
    have hb : (w.drew.alloc (.cells (bytesRow (strOf l) cap) 5 ((bytesRow (strOf l) cap).size, (bytesRow (strOf l) cap).size + 1))).heap[w.heap.size]? = some (.cells (bytesRow (strOf l) cap) 5 ((bytesRow (strOf l) cap).size, (bytesRow (strOf l) cap).size + 1)) := heap_alloc_new w.drew _
    simp only [World.frozen?, hb, Bool.and_eq_false_iff, decide_eq_false_iff_not]
    left
    omega

theorem strOf_eta (s : ByteArray) : strOf s.data.toList = s := by
  cases s; simp [strOf]
theorem add_big (P : Program) (w : World) (s : ByteArray) (m : List UInt8) (h : s.size ≤ 140737488355328) (hm : m.length ≤ 1000) : (Op.stringOp .add s (strOf m)).run P w = .ok (.string (strOf (s.data.toList ++ m))) w := by
  have hz := strOf_size m
  rw [run_string_add_sum w s (strOf m) (by omega)]
  congr 2
set_option maxHeartbeats 400000 in
/-- impl.LevelAppend. -/
theorem levelAppend_any (d : List UInt8) (hd : d.length ≤ 140737488354000) (l : Int) (h0 : -9223372036854775808 ≤ l) (h1 : l ≤ 9223372036854775807) (w : World) (hT : Tab w) :
    Calls Tryd.prog 18 #[.string (strOf d), .int .i64 l] w fun e w' => e = .returned (.tuple #[.string (strOf (d ++ levList l)), .bool true]) ∧ Below w.heap.size w w' := by
  obtain ⟨v, W1, hcv, hb1, hR⟩ := bytes_room w d
  have HA := Lib.hid (appendText_any l h0 h1 v w.heap.size d W1 (hT.stays hb1) hR hd hb1.size)
  generalize strOf d = S at hcv ⊢
  obtain ⟨S', hS⟩ : ∃ S', S' = strOf (d ++ levList l) := ⟨_, rfl⟩
  rw [← hS]
  have HS := Lib.hid hS
  clear hS
  go_enter Tryd.func18, Tryd.ntmps18
  go_wp2_with fail
  refine HA.out.mono ?_
  rintro e W2 ⟨v', rfl, hre, hb2⟩
  have hbk : ∀ n, (convert 31 9 v').run Tryd.prog (W2.drewN n) = .ok (.string S') (W2.drewN n) := fun n => by rw [HS.out]; exact hre.back n
  clear hre
  go_wp2_with fail
  go_quiet (fail)
  go_wp2_with fail
  go_ret2
  exact ⟨rfl, (hb1.trans hb2).trans ⟨rfl, rfl, rfl, Nat.le_refl _, fun _ _ => rfl⟩⟩
end Go.Proofs.YtahmahdfjiojjaaDoor
