import Derived.Test.Qxb6605320aDoorUint
namespace Go.Proofs.Qxb6605320aDoor
open Go.ChangeShapes Go.WideShapes Go.ChangeAt Go.RowKit Go.Lib Go.Sort
set_option linter.unusedVariables false

/-- The slice v is the call's own (from block B on) and holds the bytes L. -/
def Own (w : World) (B : Nat) (v : Value) (L : List Int) : Prop := w.ownsRow B 5 1 v L.length (Cz L)
/-- L' is L and D behind it. -/
def Plus (L' L D : List Int) : Prop := L' = L ++ D

theorem own_mk {w : World} {B n : Nat} {v : Value} {L D : List Int} (h : w.ownsRow B 5 1 v (L.length + n) (Cz L ++ Cz D)) (hn : D.length = n) : Own w B v (L ++ D) := by
  unfold Own
  rw [Cz_append, List.length_append, hn]
  exact h

theorem entry_any (slot seq until_ tm : Int) (client op remove add : ByteArray) (isMain : Bool) (w : World) :
    Calls Tryd.prog 7 #[.int .u64 slot, .string client, .int .u64 seq, .string op, .int .u64 until_, .int .u64 tm, .string remove, .string add, .bool isMain] w fun e w' =>
      e = .returned (.agg #[.int .u64 slot, .string client, .int .u64 seq, .string op, .slice none 0 0, .int .u64 until_, .string remove, .string add, .bool isMain, .slice none 0 0, .int .u64 tm]) ∧ Below w.heap.size w w' := by
  go_enter Tryd.func7, Tryd.ntmps7
  go_wp2
  exact bodyPost_ret (v := .agg #[.int .u64 slot, .string client, .int .u64 seq, .string op, .slice none 0 0, .int .u64 until_, .string remove, .string add, .bool isMain, .slice none 0 0, .int .u64 tm]) (by simp [results, Tryd.results7, go_sem]) rfl ⟨rfl, (Below.refl _ _).alloc (Nat.le_refl _) _⟩


/-- the first AppendUint: onto nil, or onto a slice that is full. -/
theorem uint_first (ao : Option Addr) (zs : List Int) (u : Nat) (w : World) (hu64 : u < 18446744073709551616) (hnone : ao = none → zs = []) (hc : ∀ x, ao = some x → ∀ j v, (Cz zs)[j]? = some v → w.cell? (x.add j) = some v) (hx : ∀ x, ao = some x → 0 < zs.length → x.block < w.heap.size) (hn : zs.length ≤ 1048576)
    (htab : Lib.TabIs Tryd.prog w "internal/strconv.uint64pow10" .u64 Lib.pow10Tab) :
    Calls Tryd.prog 13 #[.slice ao zs.length zs.length, .int .u64 u, .int .i64 10] w fun e w' => ∃ v' L', e = .returned v' ∧ Plus L' zs (digI u) ∧ L'.length ≤ zs.length + 20 ∧ Own w' w.heap.size v' L' ∧ Below w.heap.size w w' := by
  have hd := nDigits_20 u hu64
  cases ao with
  | none =>
    obtain rfl := hnone rfl
    refine (uint_own w.heap.size 0 u hu64 (.slice none 0 0) [] w (World.ownsRow_nil _ _ _ _) (Nat.le_refl _) (by omega) htab).mono ?_
    rintro e w1 ⟨v', rfl, ho, hb⟩
    exact ⟨v', _, rfl, rfl, by simp [digI_length]; omega, own_mk (L := []) ho (digI_length u), hb⟩
  | some x =>
    refine (uint_full x zs.length u (Cz zs) w hu64 (Cz_length _) (hc x rfl) (hx x rfl) (Cz_one _) hn htab).mono ?_
    rintro e w1 ⟨v', rfl, ho, hb⟩
    exact ⟨v', _, rfl, rfl, by simp [digI_length]; omega, own_mk ho (digI_length u), hb⟩

theorem uint_next (B u : Nat) (hu64 : u < 18446744073709551616) (sv : Value) (L : List Int) (w : World) (hown : Own w B sv L) (hBw : B ≤ w.heap.size) (hlim : L.length ≤ 100000000)
    (htab : Lib.TabBelow Tryd.prog B w "internal/strconv.uint64pow10" .u64 Lib.pow10Tab) :
    Calls Tryd.prog 13 #[sv, .int .u64 u, .int .i64 10] w fun e w' => ∃ v' L', e = .returned v' ∧ Plus L' L (digI u) ∧ L'.length ≤ L.length + 20 ∧ Own w' B v' L' ∧ Below B w w' := by
  have hd := nDigits_20 u hu64
  refine (uint_own B L.length u hu64 sv (Cz L) w hown hBw (by omega) htab.here).mono ?_
  rintro e w1 ⟨v', rfl, ho, hb⟩
  exact ⟨v', _, rfl, rfl, by simp [digI_length]; omega, own_mk ho (digI_length u), hb⟩

theorem int_next (B m : Nat) (hm : m ≤ 1048576) (sv : Value) (L : List Int) (w : World) (hown : Own w B sv L) (hBw : B ≤ w.heap.size) (hlim : L.length ≤ 100000000)
    (htab : Lib.TabBelow Tryd.prog B w "internal/strconv.uint64pow10" .u64 Lib.pow10Tab) :
    Calls Tryd.prog 14 #[sv, .int .i64 m, .int .i64 10] w fun e w' => ∃ v' L', e = .returned v' ∧ Plus L' L (digI m) ∧ L'.length ≤ L.length + 20 ∧ Own w' B v' L' ∧ Below B w w' := by
  have hd := nDigits_20 m (by omega)
  refine (Tryd.strconv_AppendInt_10 B L.length (m : Int) (by omega) (by omega) sv (Cz L) w hown hBw (by omega) htab).mono ?_
  rintro e w1 ⟨v', rfl, ho, hb, -⟩
  rw [itoa_nonneg, byteCells_dig, decDigits_length] at ho
  exact ⟨v', _, rfl, rfl, by simp [digI_length]; omega, own_mk ho (digI_length m), hb⟩

/-- 'append(b, c)', one byte. -/
theorem wp_byte {ops : Array Oper} {rest : List Oper} {o : Oper} {a : Act} {Q : Exit → Act → World → Prop} (w : World)
    (hg : o.guard = none) (s x : Operand) (hop : o.op = Op.call { callee := Callee.builtin Builtin.append, args := #[s, x], argTypes := #[22, 22] })
    (B : Nat) (v : Value) (L : List Int) (hs : a.eval s = v) (hown : Own w B v L) (c : Int) (hx : a.eval x = .slice (some ⟨w.heap.size, 0, none⟩) 1 1)
    (hlim : L.length ≤ 100000000) (hB : B ≤ w.heap.size)
    (hK : ∀ v' L' w', Plus L' L [c] → L'.length ≤ L.length + 1 → Own w' B v' L' → Below B w w' → wpList Tryd.prog ops Q rest (a.put o.dst v') w') :
    wpList Tryd.prog ops Q (o :: rest) a (w.alloc (.cells #[.int .u8 c] 5)) := by
  obtain ⟨i0, hi, hz0, hz1, hz2⟩ := info_parts info5
  refine wpList_append_own _ hg s x 22 hop B 5 i0 (.int .u8 0) 1 1 Tryd.underlying22 hi hz0 hz1 hz2 rfl (by decide) v L.length (Cz L) hs (hown.alloc _) ⟨w.heap.size, 0, none⟩ 1 1 [.int .u8 c] hx rfl (cell_one_new _ _ _) (ints_oneCell .u8 [c]) (by unfold maxLen; omega) (by omega) (by simp; omega) ?_
  intro v' w1 hown' hgrow _
  refine hK v' _ w1 rfl (by simp) (own_mk (D := [c]) hown' rfl) ?_
  have h1 : Below B w (w.alloc (.cells #[.int .u8 c] 5)) := (Below.refl _ _).alloc hB _
  exact h1.grown hgrow (by simp; omega) (fun k hk => (hown.lt k hk).1)

/-- 'append(b, s...)', s a string. -/
theorem wp_str {ops : Array Oper} {rest : List Oper} {o : Oper} {a : Act} {Q : Exit → Act → World → Prop} (w : World)
    (hg : o.guard = none) (sl x : Operand) (hop : o.op = Op.call { callee := Callee.builtin Builtin.append, args := #[sl, x], argTypes := #[22, 9] })
    (B : Nat) (v : Value) (L : List Int) (hs : a.eval sl = v) (hown : Own w B v L) (s : ByteArray) (hx : a.eval x = .string s)
    (hlim : L.length ≤ 100000000) (hs2 : s.size ≤ 1048576) (hB : B ≤ w.heap.size)
    (hK : ∀ v' L' w', Plus L' L (strI s) → L'.length ≤ L.length + s.size → Own w' B v' L' → Below B w w' → wpList Tryd.prog ops Q rest (a.put o.dst v') w') :
    wpList Tryd.prog ops Q (o :: rest) a w := by
  obtain ⟨i0, hi, hz0, hz1, hz2⟩ := info_parts info5
  refine Lib.wpList_append_own_string _ hg sl x 22 9 hop B 5 i0 Tryd.underlying22 Tryd.underlying9 hi hz0 hz1 hz2 v L.length (Cz L) hs hown s hx (by unfold maxLen; omega) (by omega) hB ?_
  intro v' w1 hown' hgrow _
  rw [strCells_str] at hown'
  exact hK v' _ w1 rfl (by simp [strI_length]) (own_mk hown' (strI_length s)) ((Below.refl _ _).grown hgrow hB (fun k hk => (hown.lt k hk).1))
end Go.Proofs.Qxb6605320aDoor
