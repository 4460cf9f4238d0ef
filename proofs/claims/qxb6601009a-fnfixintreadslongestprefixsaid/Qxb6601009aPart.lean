import Derived.Test.Qxb6601009aFixed
namespace Go.Proofs.Qxb6601009a
open Go.ChangeShapes Go.WideShapes Go.ChangeAt Go.RowKit
set_option linter.unusedVariables false

theorem copy_zero (x : Addr) (c : Nat) (w : World) :
    Calls Try.prog 7 #[.slice (some x) 0 c] w fun e w' => e = .returned (.slice (some ⟨w.heap.size, 0, none⟩) 0 0) ∧ Below w.heap.size w w' := by
  obtain ⟨i0, hi, hz0, hz1, hz2⟩ := info_parts Try.info5
  have q := eql_nil
  go_enter Try.func7, Try.ntmps7
  go_wp2_with (at_make; refine wpList_make_full _ rfl _ _ 22 rfl w.heap.size 5 i0 (.int .u8 0) 1 Try.underlying22 hi hz0 hz1 .i64 .i64 _ _ 0 rfl rfl rfl rfl (by rw [hz2]; omega) (by unfold maxLen; omega) (Nat.le_refl _) ?_; intro w1 hown1 hg1)
  refine wp_loop_rounds 1 ?_
  rw [rounds_succ]
  go_wp2
  go_ret
  exact ⟨rfl, (Below.refl w.heap.size w).grown hg1 (Nat.le_refl _) (fun k hk => by cases hk)⟩

theorem part_big (a : Option Addr) (n c : Nat) (hn : n ≤ maxLen) (hb : ¬ n ≤ 1048576) (w : World) :
    Calls Try.prog 5 #[.slice a n c] w fun e w' => e = .returned (.bool true) ∧ Below w.heap.size w w' := by
  have hd : decide (n ≤ 1048576) = false := decide_eq_false hb
  go_enter Try.func5, Try.ntmps5
  go_wp2_with (go_at_call 12; refine (bytes12 a n c hn _).mono ?_; rintro e w' ⟨rfl, rfl⟩)
  go_ret
  exact ⟨rfl, Below.refl _ _⟩

theorem below_up {a b c : World} (h : Below a.heap.size a b) (k : Below b.heap.size b c) : Below a.heap.size a c := h.trans (k.mono h.size)

theorem part_nil (w : World) :
    Calls Try.prog 5 #[.slice none 0 0] w fun e w' => e = .returned (.bool true) ∧ Below w.heap.size w w' := by
  go_enter Try.func5, Try.ntmps5
  go_wp2_with (first
    | (go_at_call 12; refine (bytes12 none 0 0 (by unfold maxLen; omega) _).mono ?_; rintro e w' ⟨rfl, rfl⟩)
    | (go_at_call 7; refine (copy_nil _).mono ?_; rintro e w' ⟨rfl, rfl⟩)
    | fail)
  refine (zzfixint_empty none 0 _).mono ?_
  rintro e w1 ⟨rfl, hb1⟩
  go_wp2_with fail
  refine (zzfixed_empty none 0 _ _).mono ?_
  rintro e w2 ⟨rfl, hb2⟩
  go_wp2_with fail
  refine (zzfixed_empty none 0 _ _).mono ?_
  rintro e w3 ⟨rfl, hb3⟩
  go_wp2
  go_ret
  exact ⟨rfl, below_up (below_up hb1 hb2) hb3⟩

theorem part_zero (x : Addr) (c : Nat) (w : World) :
    Calls Try.prog 5 #[.slice (some x) 0 c] w fun e w' => e = .returned (.bool true) ∧ Below w.heap.size w w' := by
  go_enter Try.func5, Try.ntmps5
  go_wp2_with (first
    | (go_at_call 12; refine (bytes12 (some x) 0 c (by unfold maxLen; omega) _).mono ?_; rintro e w' ⟨rfl, rfl⟩)
    | fail)
  refine (copy_zero x c _).mono ?_
  rintro e w0 ⟨rfl, hb0⟩
  go_wp2_with fail
  refine (zzfixint_empty _ 0 _).mono ?_
  rintro e w1 ⟨rfl, hb1⟩
  go_wp2_with fail
  refine (zzfixed_empty _ 0 _ _).mono ?_
  rintro e w2 ⟨rfl, hb2⟩
  go_wp2_with fail
  refine (zzfixed_empty _ 0 _ _).mono ?_
  rintro e w3 ⟨rfl, hb3⟩
  go_wp2
  go_ret
  exact ⟨rfl, below_up (below_up (below_up hb0 hb1) hb2) hb3⟩

theorem part_some (b off n c : Nat) (zs : List Int) (w : World) (h : Rd w b off n zs) (hn0 : 0 < n) (hn : n ≤ 1048576) (hb : b < w.heap.size) :
    Calls Try.prog 5 #[.slice (some ⟨b, off, none⟩) n c] w fun e w' => e = .returned (.bool true) ∧ Below w.heap.size w w' := by
  obtain ⟨z, hzd⟩ : ∃ z, z = zs.getD 0 0 := ⟨_, rfl⟩
  have hz0 : 0 ≤ z := by rw [hzd]; exact (h.2.2 0 hn0).1
  have hz1 : z ≤ 255 := by rw [hzd]; exact (h.2.2 0 hn0).2
  have HZ := hide hzd
  clear hzd
  have h4 := hide (hi4 z hz0 hz1)
  have hd : decide (n ≤ 1048576) = true := decide_eq_true hn
  go_enter Try.func5, Try.ntmps5
  go_wp2_with (first
    | (go_at_call 12; refine (bytes12 _ n c (by unfold maxLen; omega) _).mono ?_; rintro e w' ⟨rfl, rfl⟩)
    | fail)
  refine (copy_some b off n c zs _ h hn hb).mono ?_
  rintro e w0 ⟨rfl, hrd, hb0, hs0⟩
  have c0 : w0.cell? ⟨w.heap.size, 0, none⟩ = some (.int .u8 z) := by rw [unhide HZ]; exact hrd.2.1 0 hn0
  clear hrd h HZ
  go_wp2_with fail
  by_cases l1 : z ≤ 127
  · refine (zzfixint_low _ _ n n z _ hn0 (Nat.le_refl _) hs0 c0 hz0 l1).mono ?_
    rintro e w1 ⟨a1, rfl, -, hb1⟩
    have s1 : w.heap.size < w1.heap.size := Nat.lt_of_lt_of_le hs0 hb1.size
    have c1 : w1.cell? ⟨w.heap.size, 0, none⟩ = some (.int .u8 z) := (hb1.cell (p := ⟨w.heap.size, 0, none⟩) hs0).trans c0
    go_wp2_with fail
    refine (zzfixed_no _ _ n n z _ _ hn0 s1 c1 (by rw [unhide h4]; simp; omega)).mono ?_
    rintro e w2 ⟨rfl, hb2⟩
    have s2 : w.heap.size < w2.heap.size := Nat.lt_of_lt_of_le s1 hb2.size
    have c2 : w2.cell? ⟨w.heap.size, 0, none⟩ = some (.int .u8 z) := (hb2.cell (p := ⟨w.heap.size, 0, none⟩) s1).trans c1
    go_wp2_with fail
    refine (zzfixed_no _ _ n n z _ _ hn0 s2 c2 (by rw [unhide h4]; simp; omega)).mono ?_
    rintro e w3 ⟨rfl, hb3⟩
    have c3 : w3.cell? ⟨w.heap.size, 0, none⟩ = some (.int .u8 z) := (hb3.cell (p := ⟨w.heap.size, 0, none⟩) s2).trans c2
    go_wp2
    go_ret
    exact ⟨rfl, below_up (below_up (below_up hb0 hb1) hb2) hb3⟩
  · refine (zzfixint_high _ _ n n z _ hn0 hs0 c0 (by omega)).mono ?_
    rintro e w1 ⟨rfl, hb1⟩
    have s1 : w.heap.size < w1.heap.size := Nat.lt_of_lt_of_le hs0 hb1.size
    have c1 : w1.cell? ⟨w.heap.size, 0, none⟩ = some (.int .u8 z) := (hb1.cell (p := ⟨w.heap.size, 0, none⟩) hs0).trans c0
    go_wp2_with fail
    by_cases l2 : z ≤ 143
    · refine (zzfixed_yes _ _ n n z _ _ hn0 (Nat.le_refl _) s1 c1 hz0 hz1 (by rw [unhide h4]; simp; omega)).mono ?_
      rintro e w2 ⟨a2, rfl, hb2⟩
      have s2 : w.heap.size < w2.heap.size := Nat.lt_of_lt_of_le s1 hb2.size
      have c2 : w2.cell? ⟨w.heap.size, 0, none⟩ = some (.int .u8 z) := (hb2.cell (p := ⟨w.heap.size, 0, none⟩) s1).trans c1
      go_wp2_with fail
      refine (zzfixed_no _ _ n n z _ _ hn0 s2 c2 (by rw [unhide h4]; simp; omega)).mono ?_
      rintro e w3 ⟨rfl, hb3⟩
      have c3 : w3.cell? ⟨w.heap.size, 0, none⟩ = some (.int .u8 z) := (hb3.cell (p := ⟨w.heap.size, 0, none⟩) s2).trans c2
      go_wp2
      go_ret
      exact ⟨rfl, below_up (below_up (below_up hb0 hb1) hb2) hb3⟩
    · refine (zzfixed_no _ _ n n z _ _ hn0 s1 c1 (by rw [unhide h4]; simp; omega)).mono ?_
      rintro e w2 ⟨rfl, hb2⟩
      have s2 : w.heap.size < w2.heap.size := Nat.lt_of_lt_of_le s1 hb2.size
      have c2 : w2.cell? ⟨w.heap.size, 0, none⟩ = some (.int .u8 z) := (hb2.cell (p := ⟨w.heap.size, 0, none⟩) s1).trans c1
      go_wp2_with fail
      by_cases l3 : z ≤ 159
      · refine (zzfixed_yes _ _ n n z _ _ hn0 (Nat.le_refl _) s2 c2 hz0 hz1 (by rw [unhide h4]; simp; omega)).mono ?_
        rintro e w3 ⟨a3, rfl, hb3⟩
        have c3 : w3.cell? ⟨w.heap.size, 0, none⟩ = some (.int .u8 z) := (hb3.cell (p := ⟨w.heap.size, 0, none⟩) s2).trans c2
        go_wp2
        go_ret
        exact ⟨rfl, below_up (below_up (below_up hb0 hb1) hb2) hb3⟩
      · refine (zzfixed_no _ _ n n z _ _ hn0 s2 c2 (by rw [unhide h4]; simp; omega)).mono ?_
        rintro e w3 ⟨rfl, hb3⟩
        have c3 : w3.cell? ⟨w.heap.size, 0, none⟩ = some (.int .u8 z) := (hb3.cell (p := ⟨w.heap.size, 0, none⟩) s2).trans c2
        go_wp2
        go_ret
        exact ⟨rfl, below_up (below_up (below_up hb0 hb1) hb2) hb3⟩
end Go.Proofs.Qxb6601009a
