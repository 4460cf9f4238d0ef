import Derived.Test.Qxb6600948aZZTree
import Derived.Test.Qxb6600948aLaw6
namespace Go.Proofs.Qxb6600948a
open Go.ChangeShapes Go.WideShapes Go.ChangeAt Go.RowKit
set_option linter.unusedVariables false

/-! ### Plain -/
theorem dr_mem_aux (t : Int → Option Int) : ∀ (l acc : List Int), (∀ x, x ∈ acc → (t x).isSome = true) → ∀ x, x ∈ l.foldl (addR t) acc ↔ x ∈ acc ∨ (x ∈ l ∧ (t x).isSome = true)
  | [], acc, _, x => by simp
  | r :: l, acc, h, x => by
    rw [List.foldl_cons]
    have h' : ∀ y, y ∈ addR t acc r → (t y).isSome = true := fun y hy => by
      unfold addR at hy
      split at hy
      · rename_i hc
        rcases List.mem_append.1 hy with hy | hy
        · exact h y hy
        · simp at hy
          subst hy
          exact hc.1
      · exact h y hy
    rw [dr_mem_aux t l _ h' x]
    have hm : x ∈ addR t acc r ↔ x ∈ acc ∨ (x = r ∧ (t x).isSome = true) := by
      unfold addR
      split
      · rename_i hc
        rw [List.mem_append, List.mem_singleton]
        constructor
        · rintro (h1 | rfl)
          · exact .inl h1
          · exact .inr ⟨rfl, hc.1⟩
        · rintro (h1 | ⟨rfl, _⟩)
          · exact .inl h1
          · exact .inr rfl
      · rename_i hc
        constructor
        · exact .inl
        · rintro (h1 | ⟨rfl, h2⟩)
          · exact h1
          · by_cases hx : x ∈ acc
            · exact hx
            · exact absurd ⟨h2, hx⟩ hc
    rw [hm, List.mem_cons]
    constructor
    · rintro ((h1 | ⟨h1, h2⟩) | ⟨h1, h2⟩)
      · exact .inl h1
      · exact .inr ⟨.inl h1, h2⟩
      · exact .inr ⟨.inr h1, h2⟩
    · rintro (h1 | ⟨h1 | h1, h2⟩)
      · exact .inl (.inl h1)
      · exact .inl (.inr ⟨h1, h2⟩)
      · exact .inr ⟨h1, h2⟩
theorem dr_mem (t : Int → Option Int) (l : List Int) (x : Int) : x ∈ Dr t l ↔ x ∈ l ∧ (t x).isSome = true := by
  unfold Dr
  rw [dr_mem_aux t l [] (fun x h => by cases h) x]
  simp
theorem addR_pre (t : Int → Option Int) (acc : List Int) (r : Int) : acc <+: addR t acc r := by
  unfold addR
  split
  · exact List.prefix_append _ _
  · exact List.prefix_refl _
theorem dr_pre_aux (t : Int → Option Int) : ∀ (l acc : List Int), acc <+: l.foldl (addR t) acc
  | [], acc => List.prefix_refl _
  | r :: l, acc => by
    rw [List.foldl_cons]
    exact (addR_pre t acc r).trans (dr_pre_aux t l _)
theorem dr_pre (t : Int → Option Int) (l : List Int) (i : Nat) : Dr t (l.take i) <+: Dr t l := by
  have h : Dr t l = (l.drop i).foldl (addR t) (Dr t (l.take i)) := by
    unfold Dr
    rw [← List.foldl_append, List.take_append_drop]
  rw [h]
  exact dr_pre_aux t _ _

theorem take_snoc (l : List Int) (i : Nat) (hi : i < l.length) : l.take (i + 1) = l.take i ++ [nth l i] := by
  rw [List.take_succ_eq_append_getElem hi]
  simp [nth, List.getD, List.getElem?_eq_getElem hi]
theorem nth_get (l : List Int) (i : Nat) (hi : i < l.length) : nth l i = l[i] := by simp [nth, List.getD, List.getElem?_eq_getElem hi]
theorem nth_mem (l : List Int) (i : Nat) (hi : i < l.length) : nth l i ∈ l := by rw [nth_get l i hi]; exact List.getElem_mem hi
theorem sn_take {g : Int → Option Bool} {l : List Int} {i : Nat} (h : Sn g (l.take i)) (hi : i < l.length) : Sn (upd g (nth l i) true) (l.take (i + 1)) := by
  rw [take_snoc l i hi]
  exact sn_upd h _
theorem sn_old {g : Int → Option Bool} {l : List Int} {i : Nat} (h : Sn g (l.take i)) (hi : i < l.length) (ho : nth l i ∈ l.take i) : Sn g (l.take (i + 1)) := fun y => by
  rw [h y, take_snoc l i hi]
  by_cases hy : y ∈ l.take i
  · simp [hy]
  · have : y ≠ nth l i := fun e => hy (e ▸ ho)
    simp [hy, this]
theorem nodup_new {l : List Int} (h : l.Nodup) {i : Nat} (hi : i < l.length) : nth l i ∉ l.take i := by
  have : (l.take (i + 1)).Nodup := h.sublist (List.take_sublist _ _)
  rw [take_snoc l i hi] at this
  intro hm
  exact (List.nodup_append.1 this).2.2 _ hm _ (by simp) rfl

/-- Loop 5's state: k of the roots' first mentions have been met. -/
theorem first_old {t : Int → Option Int} {rs : List Int} {i : Nat} (hi : i < rs.length) (h : nth rs i ∈ rs.take i ∨ t (nth rs i) = none) : Dr t (rs.take (i + 1)) = Dr t (rs.take i) := by
  rw [dr_take_succ t rs i hi, addR, if_neg]
  rintro ⟨h1, h2⟩
  rw [← nth_get rs i hi] at h1 h2
  rcases h with h | h
  · exact h2 ((dr_mem t _ _).2 ⟨h, h1⟩)
  · rw [h] at h1
    cases h1
theorem first_new {t : Int → Option Int} {rs L : List Int} {i : Nat} (hp : Dr t rs <+: L) (hi : i < rs.length) (h1 : nth rs i ∉ rs.take i) (h2 : (t (nth rs i)).isSome = true) :
    (Dr t (rs.take i)).length < L.length ∧ nth L (Dr t (rs.take i)).length = nth rs i ∧ (Dr t (rs.take (i + 1))).length = (Dr t (rs.take i)).length + 1 := by
  have e : Dr t (rs.take (i + 1)) = Dr t (rs.take i) ++ [nth rs i] := by
    rw [dr_take_succ t rs i hi, addR, if_pos]
    · rw [nth_get rs i hi]
    · rw [← nth_get rs i hi]
      exact ⟨h2, fun hm => h1 ((dr_mem t _ _).1 hm).1⟩
  have hpre : Dr t (rs.take i) ++ [nth rs i] <+: L := by
    rw [← e]
    exact (dr_pre t rs (i + 1)).trans hp
  obtain ⟨s, hs⟩ := hpre
  refine ⟨?_, ?_, by rw [e]; simp⟩
  · rw [← hs]
    simp
  · rw [← hs]
    simp [nth, List.getD]

/-! ### The slices as they come in -/
structure Rw (w : World) (a : Option Addr) (n c : Nat) (zs : List Int) : Prop where
  len : zs.length = n
  nil : a = none → c = 0
  at_ : 0 < n → ∃ b off, a = some ⟨b, off, none⟩ ∧ b < w.heap.size ∧ Rd .i64 w b off zs
  ok : ∀ j, j < n → I64 (nth zs j)
theorem Rw.below {w w' : World} {a : Option Addr} {n c : Nat} {zs : List Int} (h : Rw w a n c zs) (hb : Below w.heap.size w w') : Rw w' a n c zs :=
  ⟨h.len, h.nil, fun hn => by
    obtain ⟨b, off, h1, h2, h3⟩ := h.at_ hn
    exact ⟨b, off, h1, Nat.lt_of_lt_of_le h2 hb.size, h3.below hb h2⟩, h.ok⟩
theorem clone_any (a : Option Addr) (n c : Nat) (zs : List Int) (w : World) (h : Rw w a n c zs) (hn : n ≤ 4096) :
    Calls Try.prog 9 #[.slice a n c] w fun e w' => ∃ a', e = .returned (.slice a' n n) ∧ Ra w' a' n zs ∧ Below w.heap.size w w' := by
  rcases Nat.eq_zero_or_pos n with h0 | h0
  · subst h0
    refine (clone0_9 a c w h.nil).mono ?_
    rintro e w' ⟨a', rfl, hb⟩
    exact ⟨a', rfl, ⟨h.len, (fun h => absurd h (Nat.lt_irrefl _)), h.ok⟩, hb⟩
  · obtain ⟨b, off, rfl, hb, hrd⟩ := h.at_ h0
    refine (clone_9 b off n c zs w h.len hrd hn hb).mono ?_
    rintro e w' ⟨rfl, h1, h2, h3⟩
    exact ⟨_, rfl, ⟨h.len, fun _ => ⟨_, rfl, h3, h1⟩, h.ok⟩, h2⟩

theorem bytes8 (a0 a1 a2 : Option Addr) (n0 c0 n1 c1 n2 c2 : Nat) (h0 : n0 ≤ maxLen) (h1 : n1 ≤ maxLen) (h2 : n2 ≤ maxLen) (w : World) :
    Calls Try.prog 8 #[.slice a0 n0 c0, .slice a1 n1 c1, .slice a2 n2 c2] w fun e w' => ∃ r, e = .returned (.bool r) ∧ w = w' := by
  unfold maxLen at h0 h1 h2
  go_enter Try.func8, Try.ntmps8
  go_wp2
  all_goals
    go_ret
    exact ⟨_, rfl, rfl⟩

set_option maxRecDepth 100000 in
set_option maxHeartbeats 2000000 in
theorem law3_out (a0 a1 a2 : Option Addr) (n0 c0 n1 c1 n2 c2 : Nat) (h0 : n0 ≤ maxLen) (h1 : n1 ≤ maxLen) (h2 : n2 ≤ maxLen) (w : World) (h : ¬ (n0 ≤ 4096 ∧ n1 ≤ 4096 ∧ n2 ≤ 4096 ∧ n1 = n0)) :
    Calls Try.prog 3 #[.slice a0 n0 c0, .slice a1 n1 c1, .slice a2 n2 c2] w fun e w' => e = .returned (.bool true) ∧ Below w.heap.size w w' := by
  have h0' := h0
  have h1' := h1
  have h2' := h2
  unfold maxLen at h0' h1' h2'
  by_cases b0 : n0 ≤ 4096
  · by_cases b1 : n1 ≤ 4096
    · by_cases b2 : n2 ≤ 4096
      · have e1 : ¬ n1 = n0 := fun e1 => h ⟨b0, b1, b2, e1⟩
        have e2' : ((n0 : Int) != (n1 : Int)) = true := by simp; omega
        go_enter Try.func3, Try.ntmps3
        go_wp2_with (go_at_call 8; refine (bytes8 _ _ _ _ _ _ _ _ _ h0 h1 h2 _).mono ?_; rintro e w' ⟨r, rfl, rfl⟩; cases r)
        all_goals
          go_ret
          exact ⟨rfl, Below.refl _ _⟩
      · go_enter Try.func3, Try.ntmps3
        go_wp2_with (go_at_call 8; refine (bytes8 _ _ _ _ _ _ _ _ _ h0 h1 h2 _).mono ?_; rintro e w' ⟨r, rfl, rfl⟩; cases r)
        all_goals
          go_ret
          exact ⟨rfl, Below.refl _ _⟩
    · go_enter Try.func3, Try.ntmps3
      go_wp2_with (go_at_call 8; refine (bytes8 _ _ _ _ _ _ _ _ _ h0 h1 h2 _).mono ?_; rintro e w' ⟨r, rfl, rfl⟩; cases r)
      all_goals
        go_ret
        exact ⟨rfl, Below.refl _ _⟩
  · go_enter Try.func3, Try.ntmps3
    go_wp2_with (go_at_call 8; refine (bytes8 _ _ _ _ _ _ _ _ _ h0 h1 h2 _).mono ?_; rintro e w' ⟨r, rfl, rfl⟩; cases r)
    all_goals
      go_ret
      exact ⟨rfl, Below.refl _ _⟩
end Go.Proofs.Qxb6600948a
