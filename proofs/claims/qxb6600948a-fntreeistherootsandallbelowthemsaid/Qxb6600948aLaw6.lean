import Derived.Test.Qxb6600948aPlain
namespace Go.Proofs.Qxb6600948a
open Go.ChangeShapes Go.WideShapes Go.ChangeAt Go.RowKit
set_option linter.unusedVariables false

theorem makeMap25 (n : Nat) (w : World) (hn : n ≤ 4096) : (Instr.makeMap 25 (some (.int .i64 n))).run Try.prog w = .ok (.map (some w.heap.size)) (w.alloc (.map #[] 0)) := by
  simp [Instr.makeMap, go_sem]

set_option maxRecDepth 100000 in
set_option maxHeartbeats 2000000 in
theorem law6_out (a0 a1 a2 : Option Addr) (n0 c0 n1 c1 n2 c2 : Nat) (h0 : n0 ≤ maxLen) (h1 : n1 ≤ maxLen) (h2 : n2 ≤ maxLen) (w : World) (h : ¬ (n0 ≤ 4096 ∧ n1 ≤ 4096 ∧ n2 ≤ 4096 ∧ n1 = n0 ∧ n2 = n0)) :
    Calls Try.prog 6 #[.slice a0 n0 c0, .slice a1 n1 c1, .slice a2 n2 c2] w fun e w' => e = .returned (.bool true) ∧ Below w.heap.size w w' := by
  have h0' := h0
  have h1' := h1
  have h2' := h2
  unfold maxLen at h0' h1' h2'
  by_cases b0 : n0 ≤ 4096
  · by_cases b1 : n1 ≤ 4096
    · by_cases b2 : n2 ≤ 4096
      · by_cases e1 : n1 = n0
        · have e2 : ¬ n2 = n0 := fun e2 => h ⟨b0, b1, b2, e1, e2⟩
          subst e1
          have e2' : ((n2 : Int) != (n1 : Int)) = true := by simp; omega
          go_enter Try.func6, Try.ntmps6
          go_wp2_with (go_at_call 14; refine (bytes14 _ _ _ _ _ _ _ _ _ h0 h1 h2 _).mono ?_; rintro e w' ⟨r, rfl, rfl⟩; cases r)
          all_goals
            go_ret
            exact ⟨rfl, Below.refl _ _⟩
        · have e2' : ((n1 : Int) != (n0 : Int)) = true := by simp; omega
          go_enter Try.func6, Try.ntmps6
          go_wp2_with (go_at_call 14; refine (bytes14 _ _ _ _ _ _ _ _ _ h0 h1 h2 _).mono ?_; rintro e w' ⟨r, rfl, rfl⟩; cases r)
          all_goals
            go_ret
            exact ⟨rfl, Below.refl _ _⟩
      · go_enter Try.func6, Try.ntmps6
        go_wp2_with (go_at_call 14; refine (bytes14 _ _ _ _ _ _ _ _ _ h0 h1 h2 _).mono ?_; rintro e w' ⟨r, rfl, rfl⟩; cases r)
        all_goals
          go_ret
          exact ⟨rfl, Below.refl _ _⟩
    · go_enter Try.func6, Try.ntmps6
      go_wp2_with (go_at_call 14; refine (bytes14 _ _ _ _ _ _ _ _ _ h0 h1 h2 _).mono ?_; rintro e w' ⟨r, rfl, rfl⟩; cases r)
      all_goals
        go_ret
        exact ⟨rfl, Below.refl _ _⟩
  · go_enter Try.func6, Try.ntmps6
    go_wp2_with (go_at_call 14; refine (bytes14 _ _ _ _ _ _ _ _ _ h0 h1 h2 _).mono ?_; rintro e w' ⟨r, rfl, rfl⟩; cases r)
    all_goals
      go_ret
      exact ⟨rfl, Below.refl _ _⟩

theorem wp_len26 {α : Type} {E : El α} (w : World) {ops : Array Oper} {rest : List Oper} {o : Oper} {a : Act} {Q : Exit → Act → World → Prop} (hg : o.guard = none) (m : Operand) (hop : o.op = Op.call { callee := Callee.builtin Builtin.len, args := #[m], argTypes := #[26] })
    (b n sz : Nat) (f : Int → Option α) (hm : a.eval m = .map (some b)) (hown : FM E w b n f sz) (hK : wpList Try.prog ops Q rest (a.put o.dst (.int .i64 sz)) w) :
    wpList Try.prog ops Q (o :: rest) a w := by
  refine wpList_plain hg fun K' hK' => ?_
  unfold Oper.wp
  simp [execOp, hop, resolve, invoke, builtin, hm, hown.len Try.underlying26 o.type, Result.andThen]
  exact hK' _ _ hK

set_option maxRecDepth 100000 in
set_option maxHeartbeats 2000000 in
theorem law6_zero (a0 a1 a2 : Option Addr) (c0 c1 c2 : Nat) (h0 : a0 = none → c0 = 0) (h1 : a1 = none → c1 = 0) (h2 : a2 = none → c2 = 0) (w : World) :
    Calls Try.prog 6 #[.slice a0 0 c0, .slice a1 0 c1, .slice a2 0 c2] w fun e w' => e = .returned (.bool true) ∧ Below w.heap.size w w' := by
  have hmk := fun w => makeMap25 0 w (by omega)
  simp only [Int.ofNat_zero] at hmk
  have H0 := hide h0
  have H1 := hide h1
  have H2 := hide h2
  clear h0 h1 h2
  go_enter Try.func6, Try.ntmps6
  go_wp2_with fail
  refine (bytes14 _ _ _ _ _ _ _ _ _ (Nat.zero_le _) (Nat.zero_le _) (Nat.zero_le _) _).mono ?_
  rintro e w' ⟨r, rfl, rfl⟩
  cases r
  · go_wp2
    go_ret
    exact ⟨rfl, Below.refl _ _⟩
  · go_wp2_with fail
    refine (clone0_9 _ _ _ (unhide H0)).mono ?_
    rintro e w1 ⟨b0, rfl, hb1⟩
    go_wp2_with fail
    refine (clone0_9 _ _ _ (unhide H1)).mono ?_
    rintro e w2 ⟨b1, rfl, hb2⟩
    go_wp2_with fail
    refine (clone0_15 _ _ _ (unhide H2)).mono ?_
    rintro e w3 ⟨b2, rfl, hb3⟩
    go_wp2
    refine wp_loop_rounds 1 ?_
    rw [rounds_succ]
    go_wp2_with fail
    refine (zzgroups0 _ _ _ _).mono ?_
    rintro e w4 ⟨B, g, rfl, hB, hfm, hb4⟩
    have HFM := hide hfm
    clear hfm
    go_wp2
    refine wp_loop_rounds 1 ?_
    rw [rounds_succ]
    go_wp2_with (at_len; refine wp_len26 (E := boolE) _ rfl _ rfl B 0 0 g rfl (unhide HFM) ?_)
    go_wp2
    go_ret
    refine ⟨rfl, below_up (below_up (below_up hb1 hb2) hb3) (((Below.refl _ _).alloc (Nat.le_refl _) _).trans (hb4.mono (by simp)))⟩
end Go.Proofs.Qxb6600948a
