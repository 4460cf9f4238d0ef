import Derived.Test.Qxb6600948aKids
namespace Go.Proofs.Qxb6600948a
open Go.RowKit
set_option linter.unusedVariables false

/-- The walk up from x, inside the table, meets a root. -/
inductive Reach (t : Int → Option Int) (rs : List Int) : Int → Prop
  | root {x y : Int} : t x = some y → x ∈ rs → Reach t rs x
  | up {x y : Int} : t x = some y → Reach t rs y → Reach t rs x

theorem Reach.some {t : Int → Option Int} {rs : List Int} {x : Int} (h : Reach t rs x) : ∃ y, t x = some y := by
  cases h with
  | root h _ => exact ⟨_, h⟩
  | up h _ => exact ⟨_, h⟩

/-- The distinct roots that are in the table, in the order of their first mention. -/
def addR (t : Int → Option Int) (acc : List Int) (r : Int) : List Int := if (t r).isSome = true ∧ r ∉ acc then acc ++ [r] else acc
def Dr (t : Int → Option Int) (rs : List Int) : List Int := rs.foldl (addR t) []

theorem dr_take_succ (t : Int → Option Int) (rs : List Int) (i : Nat) (hi : i < rs.length) : Dr t (rs.take (i + 1)) = addR t (Dr t (rs.take i)) rs[i] := by
  unfold Dr
  rw [List.take_succ_eq_append_getElem hi, List.foldl_append]
  rfl

/-- What tree answers. -/
structure Out (t : Int → Option Int) (rs ps : List Int) : Prop where
  nodup : ps.Nodup
  mem : ∀ x, x ∈ ps ↔ Reach t rs x
  pre : Dr t rs <+: ps

/-- The state of the queue. -/
structure Bq (t : Int → Option Int) (c : Int → List Int) (rs q ps : List Int) : Prop where
  nodup : ps.Nodup
  reach : ∀ x, x ∈ ps → Reach t rs x
  queue : ∀ x, x ∈ q → ∀ y, t x = some y → Reach t rs x
  roots : ∀ x, x ∈ rs → ∀ y, t x = some y → x ∈ ps ∨ x ∈ q
  kids : ∀ y, y ∈ ps → ∀ x, x ∈ c y → x ∈ ps ∨ x ∈ q
  len : q.length ≤ rs.length + (ps.flatMap c).length
  pre : ∃ i rest, i ≤ rs.length ∧ q = rs.drop i ++ rest ∧ (ps = Dr t (rs.take i) ∨ (i = rs.length ∧ Dr t rs <+: ps))

section
variable {t : Int → Option Int} {c : Int → List Int} {rs q ps : List Int}

theorem bq_start : Bq t c rs rs [] :=
  ⟨List.nodup_nil, (fun x h => by cases h), fun x h y hy => .root hy h, fun x h y hy => .inr h, (fun y h => by cases h), by simp, 0, [], Nat.zero_le _, by simp, .inl (by simp [Dr])⟩

theorem bq_end (hc : ∀ y x, x ∈ c y ↔ t x = some y) (h : Bq t c rs [] ps) : Out t rs ps := by
  refine ⟨h.nodup, fun x => ⟨h.reach x, fun hr => ?_⟩, ?_⟩
  · induction hr with
    | root h1 h2 => exact (h.roots _ h2 _ h1).resolve_right (by simp)
    | up h1 _ ih => exact (h.kids _ ih _ ((hc _ _).2 h1)).resolve_right (by simp)
  · obtain ⟨i, rest, h1, h2, h3⟩ := h.pre
    have hd : rs.drop i = [] := (List.append_eq_nil_iff.1 h2.symm).1
    have hi : i = rs.length := by
      have := congrArg List.length hd
      simp at this
      omega
    rcases h3 with h3 | ⟨_, h3⟩
    · rw [hi, List.take_length] at h3
      rw [h3]
      exact List.prefix_refl _
    · exact h3

theorem bq_len_skip {x : Int} (h : Bq t c rs (x :: q) ps) : q.length ≤ rs.length + (ps.flatMap c).length := by
  have := h.len
  simp only [List.length_cons] at this
  omega

/-- The next pid is not in the table, or has been seen. -/
theorem bq_skip (hc : ∀ y x, x ∈ c y ↔ t x = some y) {x : Int} (h : Bq t c rs (x :: q) ps) (hx : t x = none ∨ x ∈ ps) : Bq t c rs q ps := by
  have out : ∀ z y, t z = some y → z ∈ ps ∨ z ∈ x :: q → z ∈ ps ∨ z ∈ q := fun z y hy h1 => by
    rcases h1 with h1 | h1
    · exact .inl h1
    · rcases List.mem_cons.1 h1 with rfl | h1
      · rcases hx with hx | hx
        · rw [hx] at hy
          cases hy
        · exact .inl hx
      · exact .inr h1
  refine ⟨h.nodup, h.reach, fun z hz => h.queue z (List.mem_cons_of_mem _ hz), fun z hz y hy => out z y hy (h.roots z hz y hy), fun y hy z hz => out z y ((hc y z).1 hz) (h.kids y hy z hz), bq_len_skip h, ?_⟩
  obtain ⟨i, rest, h1, h2, h3⟩ := h.pre
  by_cases hi : i < rs.length
  · rw [List.drop_eq_getElem_cons hi, List.cons_append] at h2
    obtain ⟨rfl, rfl⟩ := List.cons.inj h2
    rcases h3 with h3 | ⟨h3, _⟩
    · refine ⟨i + 1, rest, hi, rfl, .inl ?_⟩
      rw [dr_take_succ t rs i hi, ← h3, addR, if_neg]
      rintro ⟨a1, a2⟩
      rcases hx with hx | hx
      · rw [hx] at a1
        cases a1
      · exact a2 hx
    · omega
  · obtain rfl : i = rs.length := by omega
    rw [List.drop_length, List.nil_append] at h2
    refine ⟨rs.length, q, Nat.le_refl _, by simp, .inr ⟨rfl, ?_⟩⟩
    rcases h3 with h3 | ⟨_, h3⟩
    · rw [List.take_length] at h3
      rw [h3]
      exact List.prefix_refl _
    · exact h3

/-- The next pid is new. -/
theorem bq_take (hc : ∀ y x, x ∈ c y ↔ t x = some y) {x y : Int} (h : Bq t c rs (x :: q) ps) (hx : t x = some y) (hn : x ∉ ps) : Bq t c rs (q ++ c x) (ps ++ [x]) := by
  have hrx : Reach t rs x := h.queue x (by simp) y hx
  have out : ∀ z, z ∈ ps ∨ z ∈ x :: q → z ∈ ps ++ [x] ∨ z ∈ q ++ c x := fun z h1 => by
    rcases h1 with h1 | h1
    · exact .inl (by simp [h1])
    · rcases List.mem_cons.1 h1 with rfl | h1
      · exact .inl (by simp)
      · exact .inr (by simp [h1])
  refine ⟨?_, fun z hz => ?_, fun z hz y' hy' => ?_, fun z hz y' hy' => out z (h.roots z hz y' hy'), fun y' hy' z hz => ?_, ?_, ?_⟩
  · refine List.nodup_append.2 ⟨h.nodup, by simp, fun a ha b hb => ?_⟩
    simp at hb
    subst hb
    intro e
    exact hn (e ▸ ha)
  · rcases List.mem_append.1 hz with h1 | h1
    · exact h.reach z h1
    · simp at h1
      subst h1
      exact hrx
  · rcases List.mem_append.1 hz with h1 | h1
    · exact h.queue z (List.mem_cons_of_mem _ h1) y' hy'
    · exact .up ((hc _ _).1 h1) hrx
  · rcases List.mem_append.1 hy' with h1 | h1
    · exact out z (h.kids y' h1 z hz)
    · simp at h1
      subst h1
      exact .inr (by simp [hz])
  · have := h.len
    simp only [List.length_cons] at this
    have e : ([x] : List Int).flatMap c = c x := by simp
    rw [List.flatMap_append, List.length_append, List.length_append, e]
    omega
  · obtain ⟨i, rest, h1, h2, h3⟩ := h.pre
    by_cases hi : i < rs.length
    · rw [List.drop_eq_getElem_cons hi, List.cons_append] at h2
      obtain ⟨rfl, rfl⟩ := List.cons.inj h2
      rcases h3 with h3 | ⟨h3, _⟩
      · refine ⟨i + 1, rest ++ c rs[i], hi, by simp, .inl ?_⟩
        rw [dr_take_succ t rs i hi, ← h3, addR, if_pos ⟨by rw [hx]; rfl, hn⟩]
      · omega
    · obtain rfl : i = rs.length := by omega
      rw [List.drop_length, List.nil_append] at h2
      refine ⟨rs.length, q ++ c x, Nat.le_refl _, by simp, .inr ⟨rfl, ?_⟩⟩
      rcases h3 with h3 | ⟨_, h3⟩
      · rw [List.take_length] at h3
        rw [h3]
        exact List.prefix_append _ _
      · exact h3.trans (List.prefix_append _ _)

theorem flat_nodup (hn : ∀ y, (c y).Nodup) (hc : ∀ y x, x ∈ c y ↔ t x = some y) : ∀ {ps : List Int}, ps.Nodup → (ps.flatMap c).Nodup
  | [], _ => by simp
  | a :: r, h => by
    obtain ⟨h1, h2⟩ := List.nodup_cons.1 h
    rw [List.flatMap_cons]
    refine List.nodup_append.2 ⟨hn a, flat_nodup hn hc h2, fun x hx y hy e => ?_⟩
    subst e
    obtain ⟨b, hb, hxb⟩ := List.mem_flatMap.1 hy
    have e1 := (hc _ _).1 hx
    have e2 := (hc _ _).1 hxb
    rw [e1] at e2
    cases e2
    exact h1 hb

/-- The bounds, ks being the table's keys. -/
theorem bq_bound (hn : ∀ y, (c y).Nodup) (hc : ∀ y x, x ∈ c y ↔ t x = some y) {ks : List Int} (hk : ∀ x y, t x = some y → x ∈ ks) (h : Bq t c rs q ps) : q.length ≤ rs.length + ks.length ∧ ps.length ≤ ks.length := by
  refine ⟨Nat.le_trans h.len (Nat.add_le_add_left (len_le_of_sub (flat_nodup hn hc h.nodup) (fun x hx => ?_)) _), len_le_of_sub h.nodup (fun x hx => ?_)⟩
  · obtain ⟨b, hb, hxb⟩ := List.mem_flatMap.1 hx
    exact hk x b ((hc _ _).1 hxb)
  · obtain ⟨y, hy⟩ := (h.reach x hx).some
    exact hk x y hy
end

/-! ### The walk up in at most n + 1 steps -/
/-- A chain from its head up to a root. -/
inductive Ch (t : Int → Option Int) (rs : List Int) : List Int → Prop
  | one {x y : Int} : t x = some y → x ∈ rs → Ch t rs [x]
  | cons {x y : Int} {l : List Int} : t x = some y → Ch t rs (y :: l) → Ch t rs (x :: y :: l)

theorem ch_suffix {t : Int → Option Int} {rs : List Int} {l : List Int} (h : Ch t rs l) : ∀ a x b, l = a ++ x :: b → Ch t rs (x :: b) := by
  induction h with
  | @one x y h1 h2 =>
    intro a z b e
    cases a with
    | nil =>
      simp at e
      obtain ⟨rfl, rfl⟩ := e
      exact .one h1 h2
    | cons a0 ar =>
      simp at e
  | @cons x y l h1 h2 ih =>
    intro a z b e
    cases a with
    | nil =>
      rw [List.nil_append] at e
      obtain ⟨rfl, rfl⟩ := List.cons.inj e
      exact .cons h1 h2
    | cons a0 ar =>
      rw [List.cons_append] at e
      exact ih ar z b (List.cons.inj e).2

theorem ch_some {t : Int → Option Int} {rs : List Int} {l : List Int} (h : Ch t rs l) : ∀ x, x ∈ l → ∃ y, t x = some y := by
  induction h with
  | @one x y h1 h2 => intro z hz; simp at hz; subst hz; exact ⟨y, h1⟩
  | @cons x y l h1 h2 ih =>
    intro z hz
    rcases List.mem_cons.1 hz with rfl | hz
    · exact ⟨y, h1⟩
    · exact ih z hz

theorem reach_ch {t : Int → Option Int} {rs : List Int} {x : Int} (h : Reach t rs x) : ∃ l, Ch t rs (x :: l) ∧ (x :: l).Nodup := by
  induction h with
  | root h1 h2 => exact ⟨[], .one h1 h2, by simp⟩
  | @up x y h1 _ ih =>
    obtain ⟨l, hl, hn⟩ := ih
    by_cases hx : x ∈ y :: l
    · obtain ⟨a, b, e⟩ := List.append_of_mem hx
      refine ⟨b, ch_suffix hl a x b e, ?_⟩
      rw [e] at hn
      exact (List.nodup_append.1 hn).2.1
    · exact ⟨y :: l, .cons h1 hl, List.nodup_cons.2 ⟨hx, hn⟩⟩
end Go.Proofs.Qxb6600948a
