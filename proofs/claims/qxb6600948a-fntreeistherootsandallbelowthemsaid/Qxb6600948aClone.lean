import Derived.Test.Qxb6600948aLiving
namespace Go.Proofs.Qxb6600948a
open Go.ChangeShapes Go.WideShapes Go.ChangeAt Go.RowKit
set_option linter.unusedVariables false

/-- A run of integers in memory. -/
def Rd (k : IntKind) (w : World) (b off : Nat) (zs : List Int) : Prop := ∀ i, i < zs.length → w.cell? ⟨b, off + i, none⟩ = some (.int k (zs.getD i 0))
theorem Rd.below {k : IntKind} {w w' : World} {b off B : Nat} {zs : List Int} (h : Rd k w b off zs) (hb : Below B w w') (hB : b < B) : Rd k w' b off zs :=
  fun i hi => (hb.cell (p := ⟨b, off + i, none⟩) hB).trans (h i hi)
theorem Rd.grown {k : IntKind} {w w' : World} {b off : Nat} {row : Option Nat} {zs : List Int} (h : Rd k w b off zs) (hg : w.grownBy w' row) (h1 : b < w.heap.size) (h2 : some b ≠ row) : Rd k w' b off zs :=
  fun i hi => (World.cell?_of_block (a := ⟨b, off + i, none⟩) (hg.block b h1 h2)).trans (h i hi)
theorem Rd.drewN {k : IntKind} {w : World} {b off : Nat} {zs : List Int} (h : Rd k w b off zs) (q : Nat) : Rd k (w.drewN q) b off zs := h

theorem below_up {a b c : World} (h : Below a.heap.size a b) (k : Below b.heap.size b c) : Below a.heap.size a c := h.trans (k.mono h.size)
theorem own_lt {w : World} {base e size g n cap m : Nat} {xs : List Value} (h : w.ownsRow base e size (.slice (some ⟨g, 0, none⟩) n cap) m xs) : g < w.heap.size := by
  rcases h.2 with ⟨h', _⟩ | ⟨g', cap', cur, h', _, hg, _⟩
  · simp at h'
  · simp only [Value.slice.injEq, Option.some.injEq, Addr.mk.injEq, and_true] at h'
    obtain ⟨⟨rfl, _⟩, rfl, rfl⟩ := h'
    exact (Array.getElem?_eq_some_iff.1 hg).1
theorem info3 : (Try.prog.info? 3).map (fun i => (i.zero, i.size, i.bytes)) = some (some (.int .i64 0), 1, 8) := by kernel_rfl
theorem info5 : (Try.prog.info? 5).map (fun i => (i.zero, i.size, i.bytes)) = some (some (.int .u8 0), 1, 1) := by kernel_rfl

theorem eql_nil9 (w : World) (a : Option Addr) (n c n' c' : Nat) : (binOp .eql 22 (.slice a n c) (.slice none n' c')).run Try.prog w = .ok (.bool a.isNone) w :=
  Lib.run_eql_slice_nil w _ _ a n c n' c' Try.underlying22

theorem clone0_9 (a : Option Addr) (c : Nat) (w : World) (hc : a = none → c = 0) :
    Calls Try.prog 9 #[.slice a 0 c] w fun e w' => ∃ a', e = .returned (.slice a' 0 0) ∧ Below w.heap.size w w' := by
  cases a with
  | none =>
    obtain rfl := hc rfl
    have q := eql_nil9
    go_enter Try.func9, Try.ntmps9
    go_wp2
    go_ret
    refine ⟨?_, Below.refl _ _⟩
    first | rfl | exact ⟨_, rfl⟩ | simp
  | some x =>
    clear hc
    obtain ⟨i0, hi, hz0, hz1, hz2⟩ := info_parts info3
    have q := eql_nil9
    go_enter Try.func9, Try.ntmps9
    go_wp2_with (at_make; refine wpList_make_full _ rfl _ _ 22 rfl w.heap.size 3 i0 (.int .i64 0) 1 Try.underlying22 hi hz0 hz1 .i64 .i64 _ _ 0 rfl rfl rfl rfl (by rw [hz2]; omega) (by unfold maxLen; omega) (Nat.le_refl _) ?_; intro w1 hown1 hg1)
    refine wp_loop_rounds 1 ?_
    rw [rounds_succ]
    go_wp2
    go_ret
    exact ⟨_, rfl, (Below.refl w.heap.size w).grown hg1 (Nat.le_refl _) (fun k hk => by cases hk)⟩

theorem clone_9 (b off n c : Nat) (zs : List Int) (w : World) (hl : zs.length = n) (h : Rd .i64 w b off zs) (hn : n ≤ 4096) (hb : b < w.heap.size) :
    Calls Try.prog 9 #[.slice (some ⟨b, off, none⟩) n c] w fun e w' => e = .returned (.slice (some ⟨w.heap.size, 0, none⟩) n n) ∧ Rd .i64 w' w.heap.size 0 zs ∧ Below w.heap.size w w' ∧ w.heap.size < w'.heap.size := by
  obtain ⟨i0, hi, hz0, hz1, hz2⟩ := info_parts info3
  have q := eql_nil9
  have HL := hide hl
  have HC := hide h
  clear hl h
  go_enter Try.func9, Try.ntmps9
  go_wp2_with (at_make; refine wpList_make_full _ rfl _ _ 22 rfl w.heap.size 3 i0 (.int .i64 0) 1 Try.underlying22 hi hz0 hz1 .i64 .i64 _ _ n rfl rfl rfl rfl (by rw [hz2]; omega) (by unfold maxLen; omega) (Nat.le_refl _) ?_; intro w1 hown1 hg1)
  have hsz : w.heap.size < w1.heap.size := own_lt hown1
  have hbel := (Below.refl w.heap.size w).grown hg1 (Nat.le_refl _) (fun k hk => by cases hk)
  clear hg1
  go_loopw [4] (fun i wr => ∃ k : Nat, ∃ xs : List Value, k ≤ n ∧ i = .int .i64 k ∧ wr.ownsRow w.heap.size 3 1 (.slice (some ⟨w.heap.size, 0, none⟩) n n) n xs ∧ (∀ j, j < k → xs[j]? = some (.int .i64 (zs.getD j 0))) ∧ Below w.heap.size w wr ∧ w.heap.size < wr.heap.size)
    (fun i _ => n - (intOf i).toNat)
  case atStart => exact ⟨0, _, Nat.zero_le _, rfl, hown1, fun j hj => absurd hj (Nat.not_lt_zero _), hbel, hsz⟩
  case round =>
    obtain ⟨k, xs, hk, rfl, hown, hxs, hbl, hws⟩ := hrel
    by_cases hlt : k < n
    · obtain ⟨z, hz⟩ : ∃ z, z = zs.getD k 0 := ⟨_, rfl⟩
      have hcx : wr.cell? ⟨b, off + k, none⟩ = some (.int .i64 z) := by rw [hz]; exact (hbl.cell (p := ⟨b, off + k, none⟩) hb).trans (unhide HC k (by rw [unhide HL]; exact hlt))
      obtain ⟨x0, hx0⟩ : ∃ x0, wr.cell? ⟨w.heap.size, k, none⟩ = some x0 := by
        rw [hown.cellAt k (by omega)]
        have := hown.1
        exact ⟨_, List.getElem?_eq_getElem (by omega)⟩
      have hfz := hown.frozenAt k
      have HX : Hid (∀ j, j < k → xs[j]? = some (.int .i64 (zs.getD j 0))) := hxs
      have hst := hown.stored k (.int .i64 z)
      have hR : (∀ j, j < k + 1 → (xs.set k (.int .i64 z))[j]? = some (.int .i64 (zs.getD j 0))) := by
        intro j hj
        have hxl := hown.1
        by_cases hjk : j = k
        · subst hjk
          rw [List.getElem?_set_self (by omega), hz]
        · rw [List.getElem?_set_ne (by omega)]
          exact HX.out j (by omega)
      have HR := hide (And.intro hst hR)
      clear hst hR hz hxs
      go_wp2
      go_roundw
      case rel =>
        obtain ⟨⟨ho', hg'⟩, hR⟩ := unhide HR
        exact ⟨k + 1, _, by omega, by go_num, ho', hR, hbl.setCell (Nat.le_refl _) _, by simpa using hws⟩
      case measure => simp [intOf]; omega
    · go_wp2
      go_ret
      refine ⟨rfl, fun i hi => ?_, hbl, hws⟩
      rw [unhide HL] at hi
      rw [Nat.zero_add, hown.cellAt i (by omega)]
      exact hxs i (by omega)

theorem eql_nil15 (w : World) (a : Option Addr) (n c n' c' : Nat) : (binOp .eql 32 (.slice a n c) (.slice none n' c')).run Try.prog w = .ok (.bool a.isNone) w :=
  Lib.run_eql_slice_nil w _ _ a n c n' c' Try.underlying32

theorem clone0_15 (a : Option Addr) (c : Nat) (w : World) (hc : a = none → c = 0) :
    Calls Try.prog 15 #[.slice a 0 c] w fun e w' => ∃ a', e = .returned (.slice a' 0 0) ∧ Below w.heap.size w w' := by
  cases a with
  | none =>
    obtain rfl := hc rfl
    have q := eql_nil15
    go_enter Try.func15, Try.ntmps15
    go_wp2
    go_ret
    refine ⟨?_, Below.refl _ _⟩
    first | rfl | exact ⟨_, rfl⟩ | simp
  | some x =>
    clear hc
    obtain ⟨i0, hi, hz0, hz1, hz2⟩ := info_parts info5
    have q := eql_nil15
    go_enter Try.func15, Try.ntmps15
    go_wp2_with (at_make; refine wpList_make_full _ rfl _ _ 32 rfl w.heap.size 5 i0 (.int .u8 0) 1 Try.underlying32 hi hz0 hz1 .i64 .i64 _ _ 0 rfl rfl rfl rfl (by rw [hz2]; omega) (by unfold maxLen; omega) (Nat.le_refl _) ?_; intro w1 hown1 hg1)
    refine wp_loop_rounds 1 ?_
    rw [rounds_succ]
    go_wp2
    go_ret
    exact ⟨_, rfl, (Below.refl w.heap.size w).grown hg1 (Nat.le_refl _) (fun k hk => by cases hk)⟩

theorem clone_15 (b off n c : Nat) (zs : List Int) (w : World) (hl : zs.length = n) (h : Rd .u8 w b off zs) (hn : n ≤ 4096) (hb : b < w.heap.size) :
    Calls Try.prog 15 #[.slice (some ⟨b, off, none⟩) n c] w fun e w' => e = .returned (.slice (some ⟨w.heap.size, 0, none⟩) n n) ∧ Rd .u8 w' w.heap.size 0 zs ∧ Below w.heap.size w w' ∧ w.heap.size < w'.heap.size := by
  obtain ⟨i0, hi, hz0, hz1, hz2⟩ := info_parts info5
  have q := eql_nil15
  have HL := hide hl
  have HC := hide h
  clear hl h
  go_enter Try.func15, Try.ntmps15
  go_wp2_with (at_make; refine wpList_make_full _ rfl _ _ 32 rfl w.heap.size 5 i0 (.int .u8 0) 1 Try.underlying32 hi hz0 hz1 .i64 .i64 _ _ n rfl rfl rfl rfl (by rw [hz2]; omega) (by unfold maxLen; omega) (Nat.le_refl _) ?_; intro w1 hown1 hg1)
  have hsz : w.heap.size < w1.heap.size := own_lt hown1
  have hbel := (Below.refl w.heap.size w).grown hg1 (Nat.le_refl _) (fun k hk => by cases hk)
  clear hg1
  go_loopw [4] (fun i wr => ∃ k : Nat, ∃ xs : List Value, k ≤ n ∧ i = .int .i64 k ∧ wr.ownsRow w.heap.size 5 1 (.slice (some ⟨w.heap.size, 0, none⟩) n n) n xs ∧ (∀ j, j < k → xs[j]? = some (.int .u8 (zs.getD j 0))) ∧ Below w.heap.size w wr ∧ w.heap.size < wr.heap.size)
    (fun i _ => n - (intOf i).toNat)
  case atStart => exact ⟨0, _, Nat.zero_le _, rfl, hown1, fun j hj => absurd hj (Nat.not_lt_zero _), hbel, hsz⟩
  case round =>
    obtain ⟨k, xs, hk, rfl, hown, hxs, hbl, hws⟩ := hrel
    by_cases hlt : k < n
    · obtain ⟨z, hz⟩ : ∃ z, z = zs.getD k 0 := ⟨_, rfl⟩
      have hcx : wr.cell? ⟨b, off + k, none⟩ = some (.int .u8 z) := by rw [hz]; exact (hbl.cell (p := ⟨b, off + k, none⟩) hb).trans (unhide HC k (by rw [unhide HL]; exact hlt))
      obtain ⟨x0, hx0⟩ : ∃ x0, wr.cell? ⟨w.heap.size, k, none⟩ = some x0 := by
        rw [hown.cellAt k (by omega)]
        have := hown.1
        exact ⟨_, List.getElem?_eq_getElem (by omega)⟩
      have hfz := hown.frozenAt k
      have HX : Hid (∀ j, j < k → xs[j]? = some (.int .u8 (zs.getD j 0))) := hxs
      have hst := hown.stored k (.int .u8 z)
      have hR : (∀ j, j < k + 1 → (xs.set k (.int .u8 z))[j]? = some (.int .u8 (zs.getD j 0))) := by
        intro j hj
        have hxl := hown.1
        by_cases hjk : j = k
        · subst hjk
          rw [List.getElem?_set_self (by omega), hz]
        · rw [List.getElem?_set_ne (by omega)]
          exact HX.out j (by omega)
      have HR := hide (And.intro hst hR)
      clear hst hR hz hxs
      go_wp2
      go_roundw
      case rel =>
        obtain ⟨⟨ho', hg'⟩, hR⟩ := unhide HR
        exact ⟨k + 1, _, by omega, by go_num, ho', hR, hbl.setCell (Nat.le_refl _) _, by simpa using hws⟩
      case measure => simp [intOf]; omega
    · go_wp2
      go_ret
      refine ⟨rfl, fun i hi => ?_, hbl, hws⟩
      rw [unhide HL] at hi
      rw [Nat.zero_add, hown.cellAt i (by omega)]
      exact hxs i (by omega)

theorem bytes14 (a0 a1 a2 : Option Addr) (n0 c0 n1 c1 n2 c2 : Nat) (h0 : n0 ≤ maxLen) (h1 : n1 ≤ maxLen) (h2 : n2 ≤ maxLen) (w : World) :
    Calls Try.prog 14 #[.slice a0 n0 c0, .slice a1 n1 c1, .slice a2 n2 c2] w fun e w' => ∃ r, e = .returned (.bool r) ∧ w = w' := by
  unfold maxLen at h0 h1 h2
  go_enter Try.func14, Try.ntmps14
  go_wp2
  all_goals
    go_ret
    exact ⟨_, rfl, rfl⟩
end Go.Proofs.Qxb6600948a
