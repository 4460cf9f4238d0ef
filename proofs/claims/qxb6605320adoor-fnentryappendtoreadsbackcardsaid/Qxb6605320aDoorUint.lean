import Derived.Test.Qxb6605320aDoorBase
namespace Go.Proofs.Qxb6605320aDoor
open Go.ChangeShapes Go.WideShapes Go.ChangeAt Go.RowKit Go.Lib Go.Sort
set_option linter.unusedVariables false

/-- 'append(b, s...)', s a string, onto a slice without room: a new row; nothing that was there has turned. -/
theorem wpList_append_grow_str {P : Program} (w : World) {ops : Array Oper} {rest : List Oper} {o : Oper} {a : Act} {Q : Exit → Act → World → Prop} (hgd : o.guard = none) (sl x : Operand) (t u : TypeId)
    (ho : o.op = .call { callee := .builtin .append, args := #[sl, x], argTypes := #[t, u] })
    (e : TypeId) (i : TypeInfo) (ht : P.underlying t = some (.slice e)) (hu : P.underlying u = some .string) (hi : P.info? e = some i) (hz : i.zero = some (.int .u8 0))
    (hsize : i.size = 1) (hby : i.bytes = 1)
    (b : Addr) (n : Nat) (xs : List Value) (hs : a.eval sl = .slice (some b) n n) (hxl : xs.length = n) (holds : ∀ j v, xs[j]? = some v → w.cell? (b.add j) = some v) (s : ByteArray) (hx : a.eval x = .string s) (hs0 : 0 < s.size)
    (hbytes : n + s.size ≤ 140737488355328)
    (h : ∀ v' w', w'.ownsRow w.heap.size e 1 v' (n + s.size) (xs ++ strCells s) → w.grownBy w' none → wpList P ops Q rest (a.put o.dst v') w') : wpList P ops Q (o :: rest) a w := by
  refine wpList_plain hgd fun K hK => ?_
  have h63 : n + s.size ≤ maxLen := by unfold maxLen; omega
  have hr := run_append_grow_string (P := P) w t u o.type e i (.int .u8 0) ht hu hi hz b n n xs (by rw [hsize]; simpa using hxl) holds s (by omega) (by omega) (by rw [hby]; exact growslice_fits (by omega) (by omega))
  have hlen : (xs ++ strCells s).length = (n + s.size) * 1 := by rw [List.length_append, hxl, strCells_length, Nat.mul_one]
  have hge := grownCap_ge w (n + s.size) n e
  have hcm : grownCap w (n + s.size) n e ≤ maxLen := grownCap_le_maxLen w (n + s.size) n e h63
  unfold Oper.wp execOp
  simp only [ho, resolve, invoke, builtin, Sem.run_bind, Sem.run_pure, Result.andThen_ok, List.map_toArray, List.map_cons, List.map_nil, hs, hx, hr]
  refine hK _ _ (h _ _ ⟨hlen, .inr ⟨w.heap.size, _, _, rfl, Nat.le_refl _, heap_alloc_new w.drew _, hge, hcm, ?_, ?_⟩⟩ ⟨rfl, rfl, rfl, by simp, fun k hk _ => Below.heap_alloc w.drew _ k hk⟩)
  · have hz1 : (Value.int IntKind.u8 0).cells.size = 1 := rfl
    simp only [Array.size_append, List.size_toArray, size_zeroCells, hz1, hxl, strCells_length]
    omega
  · simp only [Array.toList_append, List.append_assoc]
    rw [← List.append_assoc, ← hlen]
    exact List.take_left

/-- A number's digits, as the bytes' numbers. -/
def digI (u : Nat) : List Int := (decDigits u).map fun b => (b.toNat : Int)
def strI (s : ByteArray) : List Int := s.data.toList.map fun b => (b.toNat : Int)
theorem byteCells_dig (u : Nat) : byteCells (decDigits u) = Cz (digI u) := by simp [byteCells, Cz, digI, Function.comp_def]
theorem strCells_str (s : ByteArray) : strCells s = Cz (strI s) := by simp [strCells, Cz, strI, Function.comp_def]
theorem digI_length (u : Nat) : (digI u).length = nDigits u := by simp [digI, decDigits_length]
theorem strI_length (s : ByteArray) : (strI s).length = s.size := by simp [strI]
theorem nDigits_20 (u : Nat) (h : u < 18446744073709551616) : nDigits u ≤ 20 := by
  rcases Nat.eq_zero_or_pos u with rfl | h1
  · rw [nDigits_small (by omega)]; omega
  · have := numDigits_eq u h1 h
    split at this <;> omega

theorem uint_small (x : Addr) (n u : Nat) (xs : List Value) (w : World) (hu : u < 100) (hxl : xs.length = n) (hc : ∀ j v, xs[j]? = some v → w.cell? (x.add j) = some v) (hn : n ≤ 1048576) :
    Calls Tryd.prog 17 #[.slice (some x) n n, .int .u64 u, .int .i64 10] w fun e w' => ∃ v', e = .returned v' ∧ w'.ownsRow w.heap.size 5 1 v' (n + nDigits u) (xs ++ Cz (digI u)) ∧ Below w.heap.size w w' := by
  obtain ⟨i0, hi, hz0, hz1, hz2⟩ := info_parts info5
  have hlen := nDigits_20 u (by omega)
  have hpos := nDigits_pos u
  have hsz : (⟨(decDigits u).toArray⟩ : ByteArray).size = nDigits u := by simp [ByteArray.size, decDigits_length]
  have HC := hide hc
  have HX := hide hxl
  have HS := hide hsz
  clear hc hxl hsz
  go_enter Tryd.func17, Tryd.ntmps17
  go_wp2_with (first
    | (go_at_call 19; refine (Tryd.internal_strconv_small u hu _).mono ?_; rintro e w' ⟨rfl, rfl⟩)
    | (at_builtin; refine wpList_append_grow_str _ rfl _ _ 22 9 rfl 5 i0 Tryd.underlying22 Tryd.underlying9 hi hz0 hz1 hz2 x n xs rfl (unhide HX) (unhide HC) ⟨(decDigits u).toArray⟩ rfl (by rw [unhide HS]; omega) (by rw [unhide HS]; omega) ?_))
  intro v' w1 hown' hgrow
  go_wp2
  go_ret
  refine ⟨v', rfl, ?_, (Below.refl _ _).grown hgrow (Nat.le_refl _) (fun k hk => by cases hk)⟩
  rw [decDigits_length] at hown'
  have e1 : strCells ⟨(decDigits u).toArray⟩ = Cz (digI u) := by simp [strCells, Cz, digI, Function.comp_def]
  rw [e1] at hown'
  exact hown'

theorem ownsRow_mono {w : World} {B B' e size : Nat} {v : Value} {n : Nat} {xs : List Value} (h : w.ownsRow B e size v n xs) (hB : B' ≤ B) : w.ownsRow B' e size v n xs := by
  refine ⟨h.1, h.2.imp id ?_⟩
  rintro ⟨g, cap, cur, h1, h2, h3⟩
  exact ⟨g, cap, cur, h1, Nat.le_trans hB h2, h3⟩

set_option maxHeartbeats 4000000 in
theorem uint_big (x : Addr) (n u : Nat) (xs : List Value) (w : World) (hu : 100 ≤ u) (hu64 : u < 18446744073709551616) (hxl : xs.length = n) (hc : ∀ j v, xs[j]? = some v → w.cell? (x.add j) = some v) (hx : 0 < n → x.block < w.heap.size) (h1c : ∀ v ∈ xs, v.oneCell' = true) (hn : n ≤ 1048576)
    (htab : Lib.TabIs Tryd.prog w "internal/strconv.uint64pow10" .u64 Lib.pow10Tab) :
    Calls Tryd.prog 17 #[.slice (some x) n n, .int .u64 u, .int .i64 10] w fun e w' => ∃ v', e = .returned v' ∧ w'.ownsRow w.heap.size 5 1 v' (n + nDigits u) (xs ++ Cz (digI u)) ∧ Below w.heap.size w w' := by
  obtain ⟨i0, hi, hz0, hz1, hz2⟩ := info_parts info5
  have hu1 : 1 ≤ u := by omega
  have hnd20 : nDigits u ≤ 20 := nDigits_20 u hu64
  have hpos := nDigits_pos u
  have hal : Tryd.prog.arrayLen 47 = 24 := by kernel_rfl
  have hsl : ∀ W, (Instr.sliceAt 47 (.pointer (some ⟨w.heap.size, 0, none⟩)) none (some (.int .i64 (Lib.nDigits u : Int))) none).run Tryd.prog W = .ok (.slice (some ⟨w.heap.size, 0, none⟩) (Lib.nDigits u) 24) W := fun W => by
    rw [run_sliceAt_array_h W 47 ⟨w.heap.size, 0, none⟩ (by simp [Program.arrayLen, Program.elem, Tryd.underlying47]) .i64 (Lib.nDigits u : Int) (by omega) (by rw [hal]; omega)]
    go_simp
  have hH0 := Lib.holds_zero0 w 47 (Lib.nDigits u) (by omega)
  have hfmt := Tryd.internal_strconv_formatBase10 w.heap.size 0 24 u (Array.replicate (Lib.nDigits u) 0) (w.alloc (.cells Lib.zeros24 47)) hH0 (by rw [Array.size_replicate]; exact Lib.lt_pow_nDigits u) hu64 (by rw [Array.size_replicate]; omega)
  rw [Array.size_replicate] at hfmt
  have HH0 := hide hH0
  have HF := hide hfmt
  have HC := hide hc
  have HX := hide hxl
  have HB := hide hx
  have iu : (100 : Int) ≤ (u : Int) := by omega
  clear hH0 hal hfmt hc hxl hx
  go_enter Tryd.func17, Tryd.ntmps17
  go_wp2_with (first
    | (go_at_call 20; refine (Tryd.internal_strconv_numDigits u hu1 hu64 _ (Lib.tabIs_alloc htab _)).mono ?_; rintro e w' ⟨rfl, rfl⟩)
    | fail)
  refine (unhide HF).mono ?_
  rintro e w' ⟨rfl, k, v', dk, rfl, hF⟩
  have hcells : ∀ j u', (Cz (digI u))[j]? = some u' → ((putRow (fun (b : UInt8) => Value.int .u8 (b.toNat : Int)) (w.alloc (.cells Lib.zeros24 47)) w.heap.size 0 dk).drewN k).cell? ((⟨w.heap.size, 0, none⟩ : Addr).add j) = some u' := by
    intro j u' hj
    rw [← byteCells_dig] at hj
    have hjl : j < (Lib.decDigits u).length := by
      have h5 := (List.getElem?_eq_some_iff.1 hj).1
      rwa [Lib.byteCells_length] at h5
    have e5 : (Lib.byteCells (Lib.decDigits u))[j]? = some (Value.int .u8 ((Lib.decDigits u)[j].toNat : Int)) := by simp [Lib.byteCells, hjl]
    rw [e5] at hj
    cases hj
    rw [Lib.row_is_numeral hF j hjl, Lib.add_plain, World.cell?_drewN]
    exact cell?_putRow (fun (b : UInt8) => Value.int .u8 (b.toNat : Int)) _ w.heap.size 0 _ dk (unhide HH0) (by rw [hF.size, Array.size_replicate]) j (by rw [hF.size]; rw [Lib.decDigits_length] at hjl; exact hjl)
  obtain ⟨os, eo⟩ := Lib.fin_at w (.cells Lib.zeros24 47) dk k 0
  have hnx2 : Below w.heap.size w ((putRow (fun (b : UInt8) => Value.int .u8 (b.toNat : Int)) (w.alloc (.cells Lib.zeros24 47)) w.heap.size 0 dk).drewN k) := by rw [eo]; exact Lib.below_grow w.heap.size w (Nat.le_refl _) k os
  generalize (putRow (fun (b : UInt8) => Value.int .u8 (b.toNat : Int)) (w.alloc (.cells Lib.zeros24 47)) w.heap.size 0 dk).drewN k = W2 at hcells hnx2 ⊢
  have holds2 : ∀ b, some x = some b → ∀ j v, xs[j]? = some v → W2.cell? (b.add j) = some v := fun b hb j v hj => by
    obtain rfl := Option.some.inj hb
    have hj' := (List.getElem?_eq_some_iff.1 hj).1
    rw [unhide HX] at hj'
    exact (hnx2.cell (p := x.add j) (by rw [add_block]; exact unhide HB (by omega))).trans (unhide HC j v hj)
  have H2 := hide holds2
  have H3 := hide hcells
  clear eo HH0 HF hcells holds2 hF
  go_wp2_with (at_builtin; refine wpList_append_grows _ rfl _ _ 22 rfl 5 i0 (.int .u8 0) 1 1 Tryd.underlying22 hi hz0 hz1 hz2 rfl (by decide) (some x) n n xs rfl (fun h => by cases h) (by rw [Nat.mul_one]; exact unhide HX) (unhide H2) ⟨w.heap.size, 0, none⟩ (Lib.nDigits u) 24 (Cz (digI u)) rfl ?c0 (unhide H3) (Cz_one _) ?c3 ?c4 ?c5 ?_)
  case c0 => rw [Cz_length, digI_length, Nat.mul_one]
  case c3 => omega
  case c4 => unfold maxLen; omega
  case c5 => omega
  intro v2 w3 hown' hgrow
  go_wp2
  go_ret
  refine ⟨v2, rfl, ?_, hnx2.trans (((Below.refl _ _).grown hgrow (Nat.le_refl _) (fun k hk => by cases hk)).mono hnx2.size)⟩
  exact ownsRow_mono hown' hnx2.size

/-- strconv.AppendUint(dst, u, 10) onto a slice that is full: a new row; nothing that was there has turned. -/
theorem uint_full (x : Addr) (n u : Nat) (xs : List Value) (w : World) (hu64 : u < 18446744073709551616) (hxl : xs.length = n) (hc : ∀ j v, xs[j]? = some v → w.cell? (x.add j) = some v) (hx : 0 < n → x.block < w.heap.size) (h1c : ∀ v ∈ xs, v.oneCell' = true) (hn : n ≤ 1048576)
    (htab : Lib.TabIs Tryd.prog w "internal/strconv.uint64pow10" .u64 Lib.pow10Tab) :
    Calls Tryd.prog 13 #[.slice (some x) n n, .int .u64 u, .int .i64 10] w fun e w' => ∃ v', e = .returned v' ∧ w'.ownsRow w.heap.size 5 1 v' (n + nDigits u) (xs ++ Cz (digI u)) ∧ Below w.heap.size w w' := by
  have HC := hide hc
  have HX := hide hxl
  have HB := hide hx
  have H1 := hide h1c
  clear hc hxl hx h1c
  go_enter Tryd.func13, Tryd.ntmps13
  go_wp2_with fail
  have key : Calls Tryd.prog 17 #[.slice (some x) n n, .int .u64 u, .int .i64 10] w fun e w' => ∃ v', e = .returned v' ∧ w'.ownsRow w.heap.size 5 1 v' (n + nDigits u) (xs ++ Cz (digI u)) ∧ Below w.heap.size w w' := by
    by_cases h : u < 100
    · exact uint_small x n u xs w h (unhide HX) (unhide HC) hn
    · exact uint_big x n u xs w (by omega) hu64 (unhide HX) (unhide HC) (unhide HB) (unhide H1) hn htab
  refine key.mono ?_
  rintro e w1 ⟨v', rfl, ho, hb⟩
  go_wp2
  go_ret
  exact ⟨v', rfl, ho, hb⟩

/-- strconv.AppendUint(dst, u, 10) onto a slice of the call's own. -/
theorem uint_own (B n u : Nat) (hu64 : u < 18446744073709551616) (sv : Value) (xs : List Value) (w : World) (hown : w.ownsRow B 5 1 sv n xs) (hBw : B ≤ w.heap.size) (hlim : n + 20 ≤ 140737488355328)
    (htab : Lib.TabIs Tryd.prog w "internal/strconv.uint64pow10" .u64 Lib.pow10Tab) :
    Calls Tryd.prog 13 #[sv, .int .u64 u, .int .i64 10] w fun e w' => ∃ v', e = .returned v' ∧ w'.ownsRow B 5 1 v' (n + nDigits u) (xs ++ Cz (digI u)) ∧ Below B w w' := by
  go_enter Tryd.func13, Tryd.ntmps13
  go_wp2_with fail
  refine (Tryd.internal_strconv_AppendUint_10 B n u hu64 sv xs w hown hBw hlim htab).mono ?_
  rintro e w1 ⟨v', rfl, ho, hb, -⟩
  go_wp2
  go_ret
  rw [byteCells_dig, decDigits_length] at ho
  exact ⟨v', rfl, ho, hb⟩
end Go.Proofs.Qxb6605320aDoor
