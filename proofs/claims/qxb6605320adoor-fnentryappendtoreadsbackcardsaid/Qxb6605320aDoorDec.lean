import Derived.Test.Qxb6605320aDoorApp
namespace Go.Proofs.Qxb6605320aDoor
open Go.ChangeShapes Go.WideShapes Go.ChangeAt Go.RowKit Go.Lib Go.Sort
set_option linter.unusedVariables false

theorem dig_get (u k : Nat) (h : k < nDigits u) : (digI u).getD k 0 = 48 + ((u / 10 ^ (nDigits u - 1 - k) % 10 : Nat) : Int) := by
  have hl : k < (decDigits u).length := by rw [decDigits_length]; exact h
  have e : (decDigits u)[k]? = some (dg u (nDigits u - 1 - k)) := by
    rw [decDigits_eq]
    simp [h]
  have hlt : u / 10 ^ (nDigits u - 1 - k) % 10 < 10 := Nat.mod_lt _ (by omega)
  simp only [digI, List.getD_eq_getElem?_getD, List.getElem?_map, e, Option.map_some, Option.getD_some]
  unfold dg
  generalize u / 10 ^ (nDigits u - 1 - k) % 10 = d at hlt ⊢
  simp [UInt8.toNat_ofNat]
  omega

/-- The number that the first k digits spell. -/
def pre (u k : Nat) : Nat := u / 10 ^ (nDigits u - k)
theorem pre_zero (u : Nat) : pre u 0 = 0 := Nat.div_eq_of_lt (by rw [Nat.sub_zero]; exact lt_pow_nDigits u)
theorem pre_all (u : Nat) : pre u (nDigits u) = u := by simp [pre]
theorem pre_le (u k : Nat) : pre u k ≤ u := Nat.div_le_self _ _
theorem pre_succ (u k : Nat) (h : k < nDigits u) : pre u k = pre u (k + 1) / 10 ∧ (digI u).getD k 0 = 48 + ((pre u (k + 1) % 10 : Nat) : Int) := by
  refine ⟨?_, ?_⟩
  · unfold pre
    rw [Nat.div_div_eq_div_mul, ← Nat.pow_succ]
    congr 2
    omega
  · rw [dig_get u k h]
    unfold pre
    rw [show nDigits u - 1 - k = nDigits u - (k + 1) from by omega]
theorem pow_le_of (u : Nat) : 1 < nDigits u → 10 ^ (nDigits u - 1) ≤ u := by
  induction u using Nat.strongRecOn with
  | _ u ih =>
    intro h1
    by_cases h : u < 10
    · rw [nDigits_small h] at h1; omega
    · rw [nDigits_big h] at h1 ⊢
      by_cases h2 : 1 < nDigits (u / 10)
      · have := ih (u / 10) (by omega) h2
        rw [Nat.add_sub_cancel]
        have e : nDigits (u / 10) = nDigits (u / 10) - 1 + 1 := by omega
        rw [e, Nat.pow_succ]
        omega
      · have e : nDigits (u / 10) = 1 := by have := nDigits_pos (u / 10); omega
        rw [e]
        simp
        omega
theorem pre_one (u : Nat) (h : 1 < nDigits u) : 1 ≤ pre u 1 ∧ pre u 1 < 10 := by
  have h0 := pre_zero u
  have hs := (pre_succ u 0 (by omega)).1
  rw [h0, Nat.zero_add] at hs
  refine ⟨?_, by omega⟩
  unfold pre
  exact (Nat.one_le_div_iff (Nat.pow_pos (by omega))).2 (pow_le_of u h)
/-- The first digit is no nought where there is a second. -/
theorem first_dig (u : Nat) (h : 1 < nDigits u) : (digI u).getD 0 0 ≠ 48 := by
  have h1 := pre_one u h
  have h2 := (pre_succ u 0 (by omega)).2
  rw [Nat.zero_add] at h2
  rw [h2]
  omega

/-- What stands in L from place i on. -/
def At (L : List Int) (i : Nat) (D : List Int) : Prop := i + D.length ≤ L.length ∧ ∀ k, k < D.length → L.getD (i + k) 0 = D.getD k 0

theorem at_mid (A D E : List Int) : At (A ++ D ++ E) A.length D := by
  refine ⟨by simp, fun k hk => ?_⟩
  simp only [List.getD_eq_getElem?_getD, List.append_assoc]
  rw [List.getElem?_append_right (by omega), Nat.add_sub_cancel_left, List.getElem?_append_left hk]

theorem At.byte {L : List Int} {i : Nat} {c : Int} (h : At L i [c]) : i < L.length ∧ L.getD i 0 = c := ⟨by have := h.1; simp at this; omega, by simpa using h.2 0 (by simp)⟩

theorem rd_cell {w : World} {g : Nat} {L : List Int} (h : Rd w g 0 L) {i : Nat} (hi : i < L.length) {z : Int} (hz : L.getD i 0 = z) : w.cell? ⟨g, i, none⟩ = some (.int .u8 z) := by
  have := h i hi
  rwa [Nat.zero_add, hz] at this

theorem expect_yes (g cap N i : Nat) (c : Int) (w : World) (hi : i < N) (hN : N ≤ 100000000) (hc : w.cell? ⟨g, i, none⟩ = some (.int .u8 c)) :
    Calls Tryd.prog 16 #[.slice (some ⟨g, 0, none⟩) N cap, .int .i64 i, .int .u8 c] w fun e w' => e = .returned (.bool true) ∧ w = w' := by
  go_enter Tryd.func16, Tryd.ntmps16
  go_wp2
  go_ret
  exact ⟨by simp, rfl⟩

theorem dec_any (g cap : Nat) (L : List Int) (i u : Nat) (w : World) (hr : Rd w g 0 L) (hu : u < 18446744073709551616) (hN : L.length ≤ 100000000) (hd : At L i (digI u)) (hs : At L (i + nDigits u) [32]) :
    Calls Tryd.prog 15 #[.slice (some ⟨g, 0, none⟩) L.length cap, .int .i64 i] w fun e w' => e = .returned (.tuple #[.int .u64 u, .int .i64 ((i + nDigits u : Nat) : Int), .bool true]) ∧ w = w' := by
  have hm0 := nDigits_pos u
  have hm1 := nDigits_20 u hu
  obtain ⟨hs1, hs2⟩ := hs.byte
  obtain ⟨hd1, hd2⟩ := hd
  rw [digI_length] at hd1 hd2
  obtain ⟨N, hNe⟩ : ∃ N, N = L.length := ⟨_, rfl⟩
  have hcs : w.cell? ⟨g, i + nDigits u, none⟩ = some (.int .u8 32) := rd_cell hr hs1 hs2
  have hcd : ∀ k, k < nDigits u → w.cell? ⟨g, i + k, none⟩ = some (.int .u8 ((digI u).getD k 0)) := fun k hk => rd_cell hr (by omega) (hd2 k hk)
  rw [← hNe]
  rw [← hNe] at hs1 hd1 hN
  have HCS := hide hcs
  have HCD := hide hcd
  obtain ⟨m, hm⟩ : ∃ m, m = nDigits u := ⟨_, rfl⟩
  rw [← hm] at hs1 hd1 hm0 hm1 HCS HCD ⊢
  have HM := hide hm
  clear hm hNe hr hs2 hd2 hcs hcd hs
  go_enter Tryd.func15, Tryd.ntmps15
  go_wp2
  go_loop [7, 8] (fun j v => ∃ k : Nat, ∃ q : Int, k ≤ m ∧ j = .int .i64 ((i : Int) + (k : Int)) ∧ v = .int .u64 q ∧ Hid (q = (pre u k : Nat)) ∧ 0 ≤ q ∧ q ≤ 18446744073709551615) (fun j _ => (i + m - (RowKit.intOf j).toNat))
  case atStart => exact ⟨0, 0, Nat.zero_le _, by simp, rfl, by rw [pre_zero]; exact hide rfl, by omega, by omega⟩
  case round =>
    obtain ⟨k, q, hk, rfl, rfl, hq, hq0, hq1⟩ := hrel
    by_cases hlt : k < m
    · have hps := pre_succ u k (by rw [← unhide HM]; exact hlt)
      have hpl := pre_le u (k + 1)
      obtain ⟨q2, hq2⟩ : ∃ q2 : Int, q2 = (pre u (k + 1) : Nat) := ⟨_, rfl⟩
      obtain ⟨z, hz⟩ : ∃ z : Int, z = (digI u).getD k 0 := ⟨_, rfl⟩
      have hcz : w.cell? ⟨g, i + k, none⟩ = some (.int .u8 z) := by rw [hz]; exact unhide HCD k hlt
      have b1 : 0 ≤ q2 ∧ q2 ≤ 18446744073709551615 := by omega
      have b2 : q = q2 / 10 := by rw [unhide hq, hps.1, hq2]; omega
      have b3 : z = 48 + q2 % 10 := by rw [hz, hps.2, hq2]; omega
      obtain ⟨b4, b5⟩ := b1
      have z1 : 48 ≤ z := by omega
      have z2 : z ≤ 57 := by omega
      have ht : q ≤ (18446744073709551615 - (z - 48)) / 10 := by omega
      have hv : q * 10 + (z - 48) ≤ 18446744073709551615 := by omega
      have hv2 : Hid (q * 10 + (z - 48) = q2) := hide (by omega)
      have HQ2 := hide hq2
      clear hps hz b2 b3 hq2 hpl
      go_wp2
      go_round
      case rel =>
        refine ⟨k + 1, q2, by omega, by go_num, ?_, unhide HQ2, b4, b5⟩
        rw [← unhide hv2]
      case measure => simp [RowKit.intOf]; omega
    · obtain rfl : k = m := by omega
      have hce := unhide HCS
      obtain ⟨z, hz⟩ : ∃ z : Int, z = (digI u).getD 0 0 := ⟨_, rfl⟩
      have hcz : w.cell? ⟨g, i, none⟩ = some (.int .u8 z) := by rw [hz]; exact unhide HCD 0 (by omega)
      have hqu : q = (u : Int) := by rw [unhide hq, unhide HM, pre_all]
      have HQ := hide hqu
      by_cases hm : 1 < k
      · have hzn : (z == 48) = false := by
          have := first_dig u (by rw [← unhide HM]; exact hm)
          rw [← hz] at this
          simpa using this
        clear hz hqu
        go_wp2
        go_ret3
        refine ⟨?_, rfl⟩
        rw [← unhide HQ]
        simp
      · obtain rfl : k = 1 := by omega
        clear hz hqu
        by_cases hzn : z = 48
        · subst hzn
          go_wp2
          go_ret3
          refine ⟨?_, rfl⟩
          rw [← unhide HQ]
          simp
        · have hzn' : (z == 48) = false := by simpa using hzn
          go_wp2
          go_ret3
          refine ⟨?_, rfl⟩
          rw [← unhide HQ]
          simp
end Go.Proofs.Qxb6605320aDoor
