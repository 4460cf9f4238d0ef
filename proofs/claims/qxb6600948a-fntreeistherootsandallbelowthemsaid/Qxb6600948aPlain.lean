import Derived.Test.Qxb6600948aZZ
namespace Go.Proofs.Qxb6600948a
open Go.RowKit
set_option linter.unusedVariables false

theorem tab_spec {α : Type} (P : Nat → Int) (V : Nat → α) : ∀ (k : Nat) (x : Int) (a : α), tab P V k x = some a ↔ ∃ j, j < k ∧ P j = x ∧ V j = a ∧ ∀ i, j < i → i < k → P i ≠ x
  | 0, x, a => by
    simp only [tab]
    exact ⟨(fun h => by cases h), (fun ⟨j, h, _⟩ => absurd h (Nat.not_lt_zero _))⟩
  | k + 1, x, a => by
    simp only [tab, upd]
    by_cases e : x = P k
    · rw [if_pos e]
      constructor
      · intro h
        exact ⟨k, Nat.lt_succ_self _, e.symm, Option.some.inj h, fun i h1 h2 => by omega⟩
      · rintro ⟨j, h1, h2, h3, h4⟩
        by_cases ej : j = k
        · subst ej
          rw [h3]
        · exact absurd e.symm (h4 k (by omega) (by omega))
    · rw [if_neg e, tab_spec P V k x a]
      constructor
      · rintro ⟨j, h1, h2, h3, h4⟩
        refine ⟨j, by omega, h2, h3, fun i hi1 hi2 => ?_⟩
        by_cases ei : i = k
        · subst ei
          exact fun e2 => e e2.symm
        · exact h4 i hi1 (by omega)
      · rintro ⟨j, h1, h2, h3, h4⟩
        have : j ≠ k := fun ej => e (by rw [← h2, ej])
        exact ⟨j, by omega, h2, h3, fun i hi1 hi2 => h4 i hi1 (by omega)⟩

/-- j's row is the last of its key. -/
def Last (P : Nat → Int) (n j : Nat) : Prop := ∀ i, j < i → i < n → P i ≠ P j

theorem tab_some {α : Type} (P : Nat → Int) (V : Nat → α) (n : Nat) : ∀ j, j < n → ∃ l, l < n ∧ P l = P j ∧ Last P n l ∧ tab P V n (P j) = some (V l) := by
  intro j hj
  have h : ∀ d, ∀ j, j < n → n - j ≤ d → ∃ l, l < n ∧ P l = P j ∧ Last P n l := by
    intro d
    induction d with
    | zero => intro j hj hd; omega
    | succ d ih =>
      intro j hj hd
      by_cases hl : Last P n j
      · exact ⟨j, hj, rfl, hl⟩
      · have : ∃ i, j < i ∧ i < n ∧ P i = P j := by
          apply Classical.byContradiction
          intro hno
          exact hl (fun i h1 h2 h3 => hno ⟨i, h1, h2, h3⟩)
        obtain ⟨i, h1, h2, h3⟩ := this
        obtain ⟨l, l1, l2, l3⟩ := ih i h2 (by omega)
        exact ⟨l, l1, l2.trans h3, l3⟩
  obtain ⟨l, l1, l2, l3⟩ := h (n - j) j hj (Nat.le_refl _)
  exact ⟨l, l1, l2, l3, (tab_spec P V n (P j) (V l)).2 ⟨l, l1, l2, rfl, fun i h1 h2 => by rw [← l2]; exact l3 i h1 h2⟩⟩

/-- The row that stands for j's key. -/
def lastAt (P : Nat → Int) (n j : Nat) : Int := (tab P (fun j => (j : Int)) n (P j)).getD 0
theorem lastAt_eq (P : Nat → Int) (n j : Nat) (hj : j < n) : lastAt P n j = (j : Int) ↔ Last P n j := by
  obtain ⟨l, l1, l2, l3, l4⟩ := tab_some P (fun j => (j : Int)) n j hj
  unfold lastAt
  rw [l4, Option.getD_some]
  constructor
  · intro h
    have : l = j := by omega
    rw [← this]
    exact l3
  · intro h
    have : l = j := by
      apply Classical.byContradiction
      intro hne
      by_cases hlt : l < j
      · exact l3 j hlt hj l2.symm
      · exact h l (by omega) l1 l2
    rw [this]

/-- Row j stands for its process, and that process lives. -/
def Liv (P S : Nat → Int) (n j : Nat) : Prop := j < n ∧ lastAt P n j = (j : Int) ∧ livB (S j) = true

theorem gr_liv (P G S : Nat → Int) (n : Nat) (g : Int → Option Bool) (h : Gr (tab P (fun j => PS.mk (P j) 0 (G j) (S j) 0) n) (fun _ => false) g) (y : Int) :
    (g y).isSome = true ↔ ∃ j, Liv P S n j ∧ G j = y := by
  rw [h.1 y]
  constructor
  · rintro ⟨x, p, h1, _, h3, h4⟩
    obtain ⟨j, j1, j2, rfl, j4⟩ := (tab_spec _ _ n x p).1 h1
    refine ⟨j, ⟨j1, (lastAt_eq P n j j1).2 (fun i i1 i2 => by rw [j2]; exact j4 i i1 i2), h3⟩, h4⟩
  · rintro ⟨j, ⟨j1, j2, j3⟩, j4⟩
    have hl := (lastAt_eq P n j j1).1 j2
    exact ⟨P j, _, (tab_spec _ _ n (P j) _).2 ⟨j, j1, rfl, rfl, fun i i1 i2 => hl i i1 i2⟩, rfl, j3, j4⟩

theorem first_of {p : Nat → Prop} {n : Nat} (h : ∃ j, j < n ∧ p j) : ∃ j, j < n ∧ p j ∧ ∀ i, i < j → ¬ p i := by
  obtain ⟨j, hj, hp⟩ := h
  induction j using Nat.strongRecOn with
  | _ j ih =>
    by_cases hex : ∃ i, i < j ∧ p i
    · obtain ⟨i, h1, h2⟩ := hex
      exact ih i h1 (by omega) h2
    · exact ⟨j, hj, hp, fun i hi hpi => hex ⟨i, hi, hpi⟩⟩

theorem len_le_of_sub : ∀ {l₁ l₂ : List Int}, l₁.Nodup → (∀ x, x ∈ l₁ → x ∈ l₂) → l₁.length ≤ l₂.length
  | [], _, _, _ => Nat.zero_le _
  | a :: r, l₂, hn, hs => by
    obtain ⟨h1, h2⟩ := List.nodup_cons.1 hn
    have hm : a ∈ l₂ := hs a (by simp)
    have := len_le_of_sub (l₁ := r) (l₂ := l₂.erase a) h2 (fun x hx => by
      have hne : x ≠ a := fun e => h1 (e ▸ hx)
      exact (List.mem_erase_of_ne hne).2 (hs x (by simp [hx])))
    rw [List.length_erase_of_mem hm] at this
    have hp : 0 < l₂.length := List.length_pos_of_mem hm
    simp only [List.length_cons]
    omega
theorem len_eq_of_same {l₁ l₂ : List Int} (h1 : l₁.Nodup) (h2 : l₂.Nodup) (h : ∀ x, x ∈ l₁ ↔ x ∈ l₂) : l₁.length = l₂.length :=
  Nat.le_antisymm (len_le_of_sub h1 (fun x => (h x).1)) (len_le_of_sub h2 (fun x => (h x).2))

/-- The different groups of the living among the first i rows. -/
def Cs (P G S : Nat → Int) (n i : Nat) (cs : List Int) : Prop := cs.Nodup ∧ ∀ y, y ∈ cs ↔ ∃ j, j < i ∧ Liv P S n j ∧ G j = y
theorem cs_zero (P G S : Nat → Int) (n : Nat) : Cs P G S n 0 [] := ⟨List.nodup_nil, fun y => ⟨(fun h => by cases h), (fun ⟨j, h, _⟩ => absurd h (Nat.not_lt_zero _))⟩⟩
theorem cs_skip {P G S : Nat → Int} {n i : Nat} {cs : List Int} (h : Cs P G S n i cs) (hn : ¬ Liv P S n i) : Cs P G S n (i + 1) cs :=
  ⟨h.1, fun y => (h.2 y).trans ⟨fun ⟨j, h1, h2⟩ => ⟨j, by omega, h2⟩, fun ⟨j, h1, h2, h3⟩ => ⟨j, by
    have : j ≠ i := fun e => hn (e ▸ h2)
    omega, h2, h3⟩⟩⟩
theorem cs_old {P G S : Nat → Int} {n i : Nat} {cs : List Int} (h : Cs P G S n i cs) (ho : ∃ j, j < i ∧ Liv P S n j ∧ G j = G i) : Cs P G S n (i + 1) cs :=
  ⟨h.1, fun y => (h.2 y).trans ⟨fun ⟨j, h1, h2⟩ => ⟨j, by omega, h2⟩, fun ⟨j, h1, h2, h3⟩ => by
    by_cases e : j = i
    · subst e
      obtain ⟨j', a1, a2, a3⟩ := ho
      exact ⟨j', a1, a2, a3.trans h3⟩
    · exact ⟨j, by omega, h2, h3⟩⟩⟩
theorem cs_new {P G S : Nat → Int} {n i : Nat} {cs : List Int} (h : Cs P G S n i cs) (hl : Liv P S n i) (ho : ¬ ∃ j, j < i ∧ Liv P S n j ∧ G j = G i) : Cs P G S n (i + 1) (G i :: cs) := by
  refine ⟨List.nodup_cons.2 ⟨fun hm => ho ((h.2 _).1 hm), h.1⟩, fun y => ?_⟩
  rw [List.mem_cons, h.2 y]
  constructor
  · rintro (e | ⟨j, h1, h2⟩)
    · exact ⟨i, Nat.lt_succ_self _, hl, e.symm⟩
    · exact ⟨j, by omega, h2⟩
  · rintro ⟨j, h1, h2, h3⟩
    by_cases e : j = i
    · subst e
      exact .inl h3.symm
    · exact .inr ⟨j, by omega, h2, h3⟩
end Go.Proofs.Qxb6600948a
