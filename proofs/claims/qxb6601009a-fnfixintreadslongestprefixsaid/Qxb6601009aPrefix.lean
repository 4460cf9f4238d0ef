import Derived.Test.Qxb6601009aPart
namespace Go.Proofs.Qxb6601009a
open Go.ChangeShapes Go.WideShapes Go.ChangeAt Go.RowKit
set_option linter.unusedVariables false

/-- Two slices of one length over the same cells are equal. -/
theorem eq_same (a1 a2 : Option Addr) (m c1 c2 b off : Nat) (zs : List Int) (w : World) (hm : m ≤ 1048576) (h1 : 0 < m → a1 = some ⟨b, off, none⟩) (h2 : 0 < m → a2 = some ⟨b, off, none⟩) (hr : Rd w b off m zs) :
    Calls Try.prog 9 #[.slice a1 m c1, .slice a2 m c2] w fun e w' => e = .returned (.bool true) ∧ Below w.heap.size w w' := by
  by_cases h0 : m = 0
  · subst h0
    go_enter Try.func9, Try.ntmps9
    go_wp2
    refine wp_loop_rounds 1 ?_
    rw [rounds_succ]
    go_wp2
    go_ret
    exact ⟨rfl, Below.refl _ _⟩
  · have h1 := h1 (by omega)
    have h2 := h2 (by omega)
    subst h1 h2
    obtain ⟨hl, hc, hb⟩ := hr
    go_enter Try.func9, Try.ntmps9
    go_wp2
    go_loopw [5] (fun i wr => ∃ k : Nat, k ≤ m ∧ i = .int .i64 k ∧ ∃ q, wr = w.drewN q) (fun i _ => m - (intOf i).toNat)
    case atStart => exact ⟨0, Nat.zero_le _, rfl, 0, rfl⟩
    case round =>
      obtain ⟨k, hk, rfl, q, rfl⟩ := hrel
      by_cases hlt : k < m
      · obtain ⟨z, hz⟩ : ∃ z, z = zs.getD k 0 := ⟨_, rfl⟩
        have hcx : w.cell? ⟨b, off + k, none⟩ = some (.int .u8 z) := by rw [hz]; exact hc k hlt
        clear hz hc hb
        have hki : (k : Int) < (m : Int) := by omega
        go_wp2
        go_quiet (fail)
        go_wp2
        go_roundw
        case rel => exact ⟨k + 1, by omega, by go_num, _, rfl⟩
        case measure => simp [intOf]; omega
      · go_wp2
        go_ret
        exact ⟨rfl, below_drewN (Below.refl _ _) _⟩

theorem eq_same2 (a1 a2 : Option Addr) (m m2 c1 c2 b off : Nat) (zs : List Int) (w : World) (he : m2 = m) (hm : m ≤ 1048576) (h1 : 0 < m → a1 = some ⟨b, off, none⟩) (h2 : 0 < m → a2 = some ⟨b, off, none⟩) (hr : Rd w b off m zs) :
    Calls Try.prog 9 #[.slice a1 m c1, .slice a2 m2 c2] w fun e w' => e = .returned (.bool true) ∧ Below w.heap.size w w' := by
  subst he
  exact eq_same a1 a2 _ c1 c2 b off zs w hm h1 h2 hr

theorem zzfixint_stop (a : Option Addr) (m c : Nat) (w : World) (h : 0 < m → ∃ b off z, a = some ⟨b, off, none⟩ ∧ b < w.heap.size ∧ w.cell? ⟨b, off, none⟩ = some (.int .u8 z) ∧ 127 < z) :
    Calls Try.prog 8 #[.slice a m c] w fun e w' => e = .returned (.tuple #[.int .u64 0, .bool false, .slice a m c]) ∧ Below w.heap.size w w' := by
  by_cases h0 : m = 0
  · subst h0
    exact zzfixint_empty a c w
  · obtain ⟨b, off, z, rfl, hb, hz, hi⟩ := h (by omega)
    exact zzfixint_high b off m c z w (by omega) hb hz hi

theorem top1 (z : Int) (h0 : 0 ≤ z) (h1 : z ≤ 255) : (bits BinOp.and IntKind.u8 z 128 == 0) = decide (z ≤ 127) := by
  obtain ⟨m, rfl⟩ := Int.eq_ofNat_of_zero_le h0
  have : m < 256 := by omega
  have key : ∀ m : Fin 256, (bits BinOp.and IntKind.u8 ((m.val : Nat) : Int) 128 == 0) = decide (((m.val : Nat) : Int) ≤ 127) := by decide +kernel
  exact key ⟨m, this⟩

theorem pre_some (b off n c : Nat) (zs : List Int) (w : World) (h : Rd w b off n zs) (hn : n ≤ 1048576) (hb : b < w.heap.size) :
    Calls Try.prog 3 #[.slice (some ⟨b, off, none⟩) n c] w fun e w' => e = .returned (.bool true) ∧ Below w.heap.size w w' := by
  have hd : decide (n ≤ 1048576) = true := decide_eq_true hn
  go_enter Try.func3, Try.ntmps3
  go_wp2_with (first
    | (go_at_call 6; refine (bytes6 _ n c (by unfold maxLen; omega) _).mono ?_; rintro e w' ⟨rfl, rfl⟩)
    | fail)
  refine (copy_some b off n c zs _ h hn hb).mono ?_
  rintro e w0 ⟨rfl, hrd, hb0, hs0⟩
  have HRD := hide hrd
  clear hrd h
  go_wp2_with fail
  obtain ⟨B, hB⟩ : ∃ B, B = w.heap.size := ⟨_, rfl⟩
  have hs0' : B < w0.heap.size := by omega
  rw [← hB]
  rw [← hB] at HRD hs0
  have HB := hide hB
  clear hB hs0'
  go_loopw [3, 4, 5, 6] (fun r ct st i wr => ∃ k m : Nat, ∃ a : Option Addr, Hid (k + m = n) ∧ i = .int .i64 k ∧ ct = .int .i64 k ∧ st = .bool false ∧ r = .slice a m m ∧ (0 < m → a = some ⟨B, k, none⟩) ∧ Hid (∀ j, j < k → zs.getD j 0 ≤ 127) ∧ Below w0.heap.size w0 wr)
    (fun _ _ _ i _ => n + 1 - (intOf i).toNat)
  case atStart => exact ⟨0, n, _, hide (Nat.zero_add _), rfl, rfl, rfl, rfl, fun _ => rfl, fun j hj => absurd hj (Nat.not_lt_zero _), Below.refl _ _⟩
  case round =>
    obtain ⟨k, m, a, hkm, rfl, rfl, rfl, rfl, ha, hlow, hbl⟩ := hrel
    have hk : k ≤ n := by have := unhide hkm; omega
    have hm : m ≤ n := by have := unhide hkm; omega
    have hcell : ∀ j, j < n → wr.cell? ⟨B, j, none⟩ = some (.int .u8 (zs.getD j 0)) := fun j hj => (hbl.cell (p := ⟨B, j, none⟩) hs0).trans (by have := (unhide HRD).2.1 j hj; rwa [Nat.zero_add] at this)
    have hwr : B < wr.heap.size := Nat.lt_of_lt_of_le hs0 hbl.size
    by_cases hgo : 0 < m ∧ zs.getD k 0 ≤ 127
    · obtain ⟨hlt, hz1⟩ := hgo
      obtain rfl := ha hlt
      obtain ⟨m, rfl⟩ : ∃ m', m = m' + 1 := ⟨m - 1, by omega⟩
      have hkn : k < n := by have := unhide hkm; omega
      obtain ⟨z, hz⟩ : ∃ z, z = zs.getD k 0 := ⟨_, rfl⟩
      have hz0 : 0 ≤ z := by rw [hz]; exact ((unhide HRD).2.2 k hkn).1
      have hcz : wr.cell? ⟨B, k, none⟩ = some (.int .u8 z) := by rw [hz]; exact hcell k hkn
      rw [← hz] at hz1
      have HZ := hide hz
      clear hz hcell
      go_wp2_with fail
      refine (zzfixint_low B k (m + 1) (m + 1) z _ (by omega) (Nat.le_refl _) hwr hcz hz0 hz1).mono ?_
      rintro e w1 ⟨a', rfl, ha', hb1⟩
      have HA := hide ha'
      clear ha'
      have hc1 : w1.cell? ⟨B, k, none⟩ = some (.int .u8 z) := (hb1.cell (p := ⟨B, k, none⟩) hwr).trans hcz
      go_wp2
      go_roundw
      case rel =>
        refine ⟨k + 1, m, a', ?_, by go_num, by go_num, rfl, rfl, fun h => unhide HA (by omega), ?_, below_up hbl hb1⟩
        · have := unhide hkm
          exact hide (by omega)
        · refine hide (fun j hj => ?_)
          by_cases hjk : j = k
          · subst hjk
            rw [← unhide HZ]
            exact hz1
          · exact unhide hlow j (by omega)
      case measure => simp [intOf]; omega
    · have hstop : 0 < m → ∃ b off z, a = some ⟨b, off, none⟩ ∧ b < wr.heap.size ∧ wr.cell? ⟨b, off, none⟩ = some (.int .u8 z) ∧ 127 < z := fun h => ⟨B, k, _, ha h, hwr, hcell k (by have := unhide hkm; omega), by omega⟩
      have HC := hide hcell
      clear hcell
      go_wp2_with fail
      refine (zzfixint_stop a m m _ hstop).mono ?_
      rintro e w1 ⟨rfl, hb1⟩
      have HG := hide hgo
      clear hstop hgo
      go_wp2
      have hcell1 : ∀ j, j < n → w1.cell? ⟨B, j, none⟩ = some (.int .u8 (zs.getD j 0)) := fun j hj => (hb1.cell (p := ⟨B, j, none⟩) hwr).trans (unhide HC j hj)
      have HC1 := hide hcell1
      have HRr : Hid (Rd w1 B k m (zs.drop k)) := by
        have hh := unhide hkm
        have hl := (unhide HRD).1
        have hg : ∀ i, (zs.drop k).getD i 0 = zs.getD (k + i) 0 := fun i => by simp only [List.getD_eq_getElem?_getD, List.getElem?_drop]
        refine ⟨by simp; omega, fun i hi => ?_, fun i hi => ?_⟩
        · rw [hg]; exact hcell1 (k + i) (by omega)
        · rw [hg]; exact (unhide HRD).2.2 (k + i) (by omega)
      have HA := hide ha
      have hbw := below_up hb0 (below_up hbl hb1)
      clear HC hcell1 ha hbl hb0 hb1
      go_loop [10] (fun i => ∃ p : Nat, p ≤ k ∧ i = .int .i64 p) (fun i => k - (intOf i).toNat)
      case atStart => exact ⟨0, Nat.zero_le _, rfl⟩
      case round =>
        obtain ⟨p, hp, rfl⟩ := hrel
        by_cases hpk : p < k
        · obtain ⟨z, hz⟩ : ∃ z, z = zs.getD p 0 := ⟨_, rfl⟩
          have hpn : p < n := by omega
          have hcz : w1.cell? ⟨B, p, none⟩ = some (.int .u8 z) := by rw [hz]; exact unhide HC1 p hpn
          have ht : (bits BinOp.and IntKind.u8 z 128 == 0) = true := by
            rw [hz, top1 _ ((unhide HRD).2.2 p hpn).1 ((unhide HRD).2.2 p hpn).2]
            exact decide_eq_true (unhide hlow p hpk)
          clear hz
          go_wp2
          go_round
          case rel => exact ⟨p + 1, by omega, by go_num⟩
          case measure => simp [intOf]; omega
        · obtain rfl : p = k := by omega
          by_cases hm0 : m = 0
          · subst hm0
            obtain rfl : p = n := by have := unhide hkm; omega
            go_wp2_with fail
            refine (eq_same a _ 0 _ _ B p _ _ (by omega) (fun h => absurd h (Nat.lt_irrefl _)) (fun h => absurd h (Nat.lt_irrefl _)) (unhide HRr)).mono ?_
            rintro e w2 ⟨rfl, hb2⟩
            go_wp2
            go_ret
            exact ⟨rfl, below_up hbw hb2⟩
          · have hpn : p < n := by have := unhide hkm; omega
            obtain ⟨z, hz⟩ : ∃ z, z = zs.getD p 0 := ⟨_, rfl⟩
            have hcz : w1.cell? ⟨B, p, none⟩ = some (.int .u8 z) := by rw [hz]; exact unhide HC1 p hpn
            have ht : (bits BinOp.and IntKind.u8 z 128 == 0) = false := by
              rw [hz, top1 _ ((unhide HRD).2.2 p hpn).1 ((unhide HRD).2.2 p hpn).2]
              exact decide_eq_false (fun h => unhide HG ⟨by omega, h⟩)
            clear hz
            go_wp2_with fail
            refine (eq_same2 a _ m _ _ _ B p _ _ (by have := unhide hkm; omega) (by omega) (unhide HA) (fun _ => rfl) (unhide HRr)).mono ?_
            rintro e w2 ⟨rfl, hb2⟩
            go_wp2
            go_ret
            exact ⟨rfl, below_up hbw hb2⟩

theorem pre_big (a : Option Addr) (n c : Nat) (hn : n ≤ maxLen) (hb : ¬ n ≤ 1048576) (w : World) :
    Calls Try.prog 3 #[.slice a n c] w fun e w' => e = .returned (.bool true) ∧ Below w.heap.size w w' := by
  have hd : decide (n ≤ 1048576) = false := decide_eq_false hb
  go_enter Try.func3, Try.ntmps3
  go_wp2_with (go_at_call 6; refine (bytes6 a n c hn _).mono ?_; rintro e w' ⟨rfl, rfl⟩)
  go_ret
  exact ⟨rfl, Below.refl _ _⟩

theorem pre_nil (w : World) :
    Calls Try.prog 3 #[.slice none 0 0] w fun e w' => e = .returned (.bool true) ∧ Below w.heap.size w w' := by
  go_enter Try.func3, Try.ntmps3
  go_wp2_with (first
    | (go_at_call 6; refine (bytes6 none 0 0 (by unfold maxLen; omega) _).mono ?_; rintro e w' ⟨rfl, rfl⟩)
    | (go_at_call 7; refine (copy_nil _).mono ?_; rintro e w' ⟨rfl, rfl⟩)
    | fail)
  refine wp_loop_rounds 1 ?_
  rw [rounds_succ]
  go_wp2_with fail
  refine (zzfixint_empty none 0 _).mono ?_
  rintro e w1 ⟨rfl, hb1⟩
  go_wp2
  refine wp_loop_rounds 1 ?_
  rw [rounds_succ]
  go_wp2_with fail
  refine (eq_same none none 0 _ _ 0 0 [] _ (by omega) (fun h => absurd h (Nat.lt_irrefl _)) (fun h => absurd h (Nat.lt_irrefl _)) ⟨rfl, fun i hi => absurd hi (Nat.not_lt_zero _), fun i hi => absurd hi (Nat.not_lt_zero _)⟩).mono ?_
  rintro e w2 ⟨rfl, hb2⟩
  go_wp2
  go_ret
  exact ⟨rfl, below_up hb1 hb2⟩

theorem pre_zero (x : Addr) (c : Nat) (w : World) :
    Calls Try.prog 3 #[.slice (some x) 0 c] w fun e w' => e = .returned (.bool true) ∧ Below w.heap.size w w' := by
  go_enter Try.func3, Try.ntmps3
  go_wp2_with (first
    | (go_at_call 6; refine (bytes6 (some x) 0 c (by unfold maxLen; omega) _).mono ?_; rintro e w' ⟨rfl, rfl⟩)
    | fail)
  refine (copy_zero x c _).mono ?_
  rintro e w0 ⟨rfl, hb0⟩
  go_wp2_with fail
  refine wp_loop_rounds 1 ?_
  rw [rounds_succ]
  go_wp2_with fail
  refine (zzfixint_empty _ 0 _).mono ?_
  rintro e w1 ⟨rfl, hb1⟩
  go_wp2
  refine wp_loop_rounds 1 ?_
  rw [rounds_succ]
  go_wp2_with fail
  refine (eq_same _ _ 0 _ _ 0 0 [] _ (by omega) (fun h => absurd h (Nat.lt_irrefl _)) (fun h => absurd h (Nat.lt_irrefl _)) ⟨rfl, fun i hi => absurd hi (Nat.not_lt_zero _), fun i hi => absurd hi (Nat.not_lt_zero _)⟩).mono ?_
  rintro e w2 ⟨rfl, hb2⟩
  go_wp2
  go_ret
  exact ⟨rfl, below_up (below_up hb0 hb1) hb2⟩
end Go.Proofs.Qxb6601009a
