import Derived.Test.Qxb6600948aSlice
namespace Go.Proofs.Qxb6600948a
open Go.ChangeShapes Go.WideShapes Go.ChangeAt Go.RowKit
set_option linter.unusedVariables false
attribute [local go_sem ↓] Go.wp_at_zero Go.wp_at_succ

def iv (zs : List Int) : List Value := zs.map (Value.int .i64)

/-- The children that are no longer to come, by parent. -/
structure Kc (t : Int → Option PS) (left : Int → Bool) (c : Int → List Int) : Prop where
  mem : ∀ y x, x ∈ c y ↔ ∃ p, t x = some p ∧ left x = false ∧ p.ppid = y
  nodup : ∀ y, (c y).Nodup

/-- They lie in rows of their own from block 'base' on, and f is the map to those rows. -/
structure Kw (w : World) (base : Nat) (f : Int → Option SV) (c : Int → List Int) : Prop where
  empty : ∀ y, f y = none → c y = []
  row : ∀ y s, f y = some s → ∃ g cap, s = ⟨some g, (c y).length, cap⟩ ∧ Sl w 1 g 0 (c y).length cap (iv (c y)) ∧ base ≤ g
  apart : ∀ y y' s s', f y = some s → f y' = some s' → s.blk = s'.blk → y = y'

theorem kc_start (t : Int → Option PS) : Kc t (fun x => (t x).isSome) (fun _ => []) :=
  ⟨fun y x => ⟨(fun h => by cases h), fun ⟨p, h1, h2, _⟩ => by
    have h2' : (t x).isSome = false := h2
    rw [h1] at h2'
    cases h2'⟩, fun _ => List.nodup_nil⟩
def addKid (c : Int → List Int) (y x : Int) : Int → List Int := fun z => if z = y then c y ++ [x] else c z
theorem kc_add {t : Int → Option PS} {left : Int → Bool} {c : Int → List Int} (h : Kc t left c) {x : Int} {p : PS} (hf : t x = some p) (hl : left x = true) : Kc t (fun y => left y && !decide (y = x)) (addKid c p.ppid x) := by
  refine ⟨fun y z => ?_, fun y => ?_⟩
  · by_cases e : y = p.ppid
    · subst e
      simp only [addKid, if_true, List.mem_append, List.mem_singleton]
      constructor
      · rintro (h1 | rfl)
        · obtain ⟨q, q1, q2, q3⟩ := (h.mem _ _).1 h1
          exact ⟨q, q1, (by show (left z && _) = false; rw [q2]; rfl), q3⟩
        · exact ⟨p, hf, by simp, rfl⟩
      · rintro ⟨q, q1, q2, q3⟩
        by_cases e2 : z = x
        · exact .inr e2
        · exact .inl ((h.mem _ _).2 ⟨q, q1, by simpa [e2] using q2, q3⟩)
    · simp only [addKid, if_neg e]
      rw [h.mem]
      constructor
      · rintro ⟨q, q1, q2, q3⟩
        exact ⟨q, q1, (by show (left z && _) = false; rw [q2]; rfl), q3⟩
      · rintro ⟨q, q1, q2, q3⟩
        by_cases e2 : z = x
        · subst e2
          rw [hf] at q1
          cases q1
          exact absurd q3.symm e
        · exact ⟨q, q1, by simpa [e2] using q2, q3⟩
  · by_cases e : y = p.ppid
    · subst e
      simp only [addKid, if_true]
      refine List.nodup_append.2 ⟨h.nodup _, by simp, ?_⟩
      intro a ha b hb
      simp at hb
      subst hb
      intro e2
      subst e2
      obtain ⟨q, _, q2, _⟩ := (h.mem _ _).1 ha
      rw [hl] at q2
      cases q2
    · simp only [addKid, if_neg e]
      exact h.nodup y

theorem iv_one (zs : List Int) : ∀ u ∈ iv zs, u.oneCell' = true := fun u hu => by
  obtain ⟨_, _, rfl⟩ := List.mem_map.1 hu
  rfl

theorem FR.same {α : Type} {E : El α} {w w' : World} {b r n sz cnt : Nat} {f : Int → Option α} {left : Int → Bool} (h : FR E w b r n f sz left cnt) (h1 : w'.heap[b]? = w.heap[b]?) (h2 : w'.heap[r]? = w.heap[r]?) : FR E w' b r n f sz left cnt := by
  obtain ⟨D, L, ⟨es, clock, since, seen, c0, a1, a2, a3, a4, a5, a6⟩, hr⟩ := h
  exact ⟨D, L, ⟨es, clock, since, seen, c0, h1.trans a1, a2, a3, a4, h2.trans a5, a6⟩, hr⟩

/-- The round's append and store, in whatever world: the row of y gets x. -/
theorem kids_round {w : World} {base Bm n sz : Nat} {f : Int → Option SV} {c : Int → List Int} (hk : Kw w base f c) (hm : FM svE w Bm n f sz) (hB : Bm < base) (hbs : base ≤ w.heap.size) (hn : n < maxLen) (y x : Int) (hy : I64 y) (hl : (c y).length ≤ 4096) :
    ∃ v w' g l cap w'', (Instr.lookup 47 (.map (some Bm)) (.int .i64 y) false).run Try.prog w = .ok v w ∧ (Instr.lookup 47 (.map (some Bm)) (.int .i64 y) false).run Try.prog (w.alloc (.cells #[.int .i64 x] 3)) = .ok v (w.alloc (.cells #[.int .i64 x] 3)) ∧
      (∀ ty, (Builtin.append_ #[22, 22] ty #[v, .slice (some ⟨w.heap.size, 0, none⟩) 1 1]).run Try.prog (w.alloc (.cells #[.int .i64 x] 3)) = .ok (.slice (some ⟨g, 0, none⟩) l cap) w') ∧
      (Instr.mapUpdate 47 (.map (some Bm)) (.int .i64 y) (.slice (some ⟨g, 0, none⟩) l cap)).run Try.prog w' = .ok () w'' ∧
      FM svE w'' Bm (n + 1) (upd f y ⟨some g, l, cap⟩) (if (f y).isSome then sz else sz + 1) ∧ Kw w'' base (upd f y ⟨some g, l, cap⟩) (addKid c y x) ∧
      (∀ b, b < w.heap.size → b ≠ Bm → b < base → w''.heap[b]? = w.heap[b]?) ∧ Below (min Bm base) w w'' ∧ w.heap.size < w''.heap.size ∧
      (∀ b, b < w.heap.size → b ≠ Bm → (∀ z s, f z = some s → s.blk ≠ some b) → w'.heap[b]? = w.heap[b]? ∧ w''.heap[b]? = w.heap[b]?) := by
  obtain ⟨i0, hi, hz0, hz1, hz2⟩ := info_parts info3
  have hl1 := look47 hm hy
  have hma := hm.alloc (.cells #[.int .i64 x] 3)
  have hl2 := look47 hma hy
  have hsrc : Src Try.prog 1 22 (.slice (some ⟨w.heap.size, 0, none⟩) 1 1) 1 (iv [x]) (w.alloc (.cells #[.int .i64 x] 3)) :=
    Src.ofSlice _ Try.underlying22 _ 1 1 (iv [x]) rfl (fun j u hu => by
      rw [Addr.add_lit, Nat.zero_add, World.cell?_alloc_new]
      simpa [iv] using hu) (iv_one _)
  have hka : ∀ z s, f z = some s → ∃ g cap, s = ⟨some g, (c z).length, cap⟩ ∧ Sl (w.alloc (.cells #[.int .i64 x] 3)) 1 g 0 (c z).length cap (iv (c z)) ∧ base ≤ g ∧ g < w.heap.size := fun z s hs => by
    obtain ⟨g, cap, h1, h2, h3⟩ := hk.row z s hs
    exact ⟨g, cap, h1, h2.alloc _, h3, h2.lt⟩
  -- what follows, whichever way the append went
  have fin : ∀ (row : Option Nat) (g l cap : Nat) (w' : World), (w.alloc (.cells #[.int .i64 x] 3)).grownBy w' row → (∀ k, row = some k → base ≤ k ∧ ∃ z s, f z = some s ∧ s.blk = some k) → Sl w' 1 g 0 l cap (iv (c y ++ [x])) → l = (c y ++ [x]).length → base ≤ g →
      (∀ z s g' , z ≠ y → f z = some s → s.blk = some g' → some g' ≠ row ∧ g' ≠ g) →
      ∃ w'', (Instr.mapUpdate 47 (.map (some Bm)) (.int .i64 y) (.slice (some ⟨g, 0, none⟩) l cap)).run Try.prog w' = .ok () w'' ∧
      FM svE w'' Bm (n + 1) (upd f y ⟨some g, l, cap⟩) (if (f y).isSome then sz else sz + 1) ∧ Kw w'' base (upd f y ⟨some g, l, cap⟩) (addKid c y x) ∧
      (∀ b, b < w.heap.size → b ≠ Bm → b < base → w''.heap[b]? = w.heap[b]?) ∧ Below (min Bm base) w w'' ∧ w.heap.size < w''.heap.size ∧
      (∀ b, b < w.heap.size → b ≠ Bm → (∀ z s, f z = some s → s.blk ≠ some b) → w'.heap[b]? = w.heap[b]? ∧ w''.heap[b]? = w.heap[b]?) := by
    intro row g l cap w' hg hrow hsl hle hbg hap
    have hm' : FM svE w' Bm n f sz := hma.kept hg (fun e => by have := (hrow Bm e.symm).1; omega)
    obtain ⟨w'', hrun, hm2, hg2⟩ := put47 hm' hn hy g l cap
    have hsz : w.heap.size < w'.heap.size := by have := hg.size; simp at this; omega
    have hblk : ∀ b, b < w.heap.size → b ≠ Bm → b < base → w''.heap[b]? = w.heap[b]? := fun b hb hne hbb => by
      rw [hg2.block b (by omega) (fun e => hne (by cases e; rfl)), hg.block b (by simp; omega) (fun e => by have := (hrow b e.symm).1; omega)]
      exact Below.heap_alloc w _ b hb
    refine ⟨w'', hrun, hm2, ⟨fun z hz => ?_, fun z s hs => ?_, fun z z' s s' hs hs' hb => ?_⟩, hblk, ?_, by have := hg2.size; omega, fun b hb hne hno => ?_⟩
    · by_cases e : z = y
      · subst e
        simp [upd] at hz
      · simp only [upd, if_neg e] at hz
        simp only [addKid, if_neg e]
        exact hk.empty z hz
    · by_cases e : z = y
      · subst e
        simp only [upd, if_true, Option.some.injEq] at hs
        subst hs
        simp only [addKid, if_true]
        refine ⟨g, cap, by rw [hle], ?_, hbg⟩
        rw [← hle]
        exact hsl.kept hg2 (fun e => by cases e; omega)
      · simp only [upd, if_neg e] at hs
        simp only [addKid, if_neg e]
        obtain ⟨g', cap', h1, h2, h3, h4⟩ := hka z s hs
        obtain ⟨a1, a2⟩ := hap z s g' e hs (by rw [h1])
        exact ⟨g', cap', h1, (h2.kept hg a1).kept hg2 (fun e => by cases e; omega), h3⟩
    · by_cases e : z = y
      · by_cases e' : z' = y
        · rw [e, e']
        · simp only [upd, if_pos e, if_neg e', Option.some.injEq] at hs hs'
          subst hs
          exact absurd rfl (hap z' s' g e' hs' hb.symm).2
      · by_cases e' : z' = y
        · simp only [upd, if_neg e, if_pos e', Option.some.injEq] at hs hs'
          subst hs'
          exact absurd rfl (hap z s g e hs hb).2
        · simp only [upd, if_neg e, if_neg e'] at hs hs'
          exact hk.apart z z' s s' hs hs' hb
    · exact ⟨hg2.os.trans hg.os, hg2.tape.trans hg.tape, hg2.output.trans hg.output, by have := hg2.size; omega, fun b hb => hblk b (by omega) (by omega) (by omega)⟩
    · have e1 : w'.heap[b]? = w.heap[b]? := by
        rw [hg.block b (by simp; omega) (fun e => by
          obtain ⟨_, z, s, h1, h2⟩ := hrow b e.symm
          exact hno z s h1 h2)]
        exact Below.heap_alloc w _ b hb
      exact ⟨e1, (hg2.block b (by omega) (fun e => hne (by cases e; rfl))).trans e1⟩
  cases hfy : f y with
  | none =>
    rw [hfy] at hl1 hl2 fin
    obtain ⟨cap', w', r1, r2, r3⟩ := app_nil (t := 22) Try.underlying22 hi hz0 hz1 hz2 rfl hsrc (by omega) (by unfold maxLen; omega) (by omega)
    obtain ⟨w'', f1, f2, f3, f4, f5, f6, f7⟩ := fin none (w.alloc (.cells #[.int .i64 x] 3)).heap.size 1 cap' w' r3 (fun k e => by cases e) (by rw [hk.empty y hfy]; exact r2) (by rw [hk.empty y hfy]; rfl) (by simp; omega)
      (fun z s g' hne hs hb => by
        obtain ⟨g2, cap2, h1, h2, h3, h4⟩ := hka z s hs
        rw [h1] at hb
        cases hb
        exact ⟨by simp, by simp; omega⟩)
    exact ⟨_, w', _, _, _, w'', hl1, hl2, r1, f1, f2, f3, f4, f5, f6, f7⟩
  | some s0 =>
    rw [hfy] at hl1 hl2 fin
    obtain ⟨g0, cap0, rfl, hsl0, hb0, hlt0⟩ := hka y s0 hfy
    obtain ⟨g', off', cap', w', r1, r2, r3, r4⟩ := hsl0.app (t := 22) Try.underlying22 hi hz0 hz1 hz2 rfl hsrc (by unfold maxLen; omega) (by omega)
    obtain rfl : off' = 0 := by rcases r4 with h | h <;> exact h.2
    obtain ⟨w'', f1, f2, f3, f4, f5, f6, f7⟩ := fin (some g0) g' _ cap' w' r3 (fun k e => by cases e; exact ⟨hb0, y, _, hfy, rfl⟩) (by rw [show iv (c y ++ [x]) = iv (c y) ++ iv [x] by simp [iv]]; exact r2) (by simp) (by rcases r4 with h | h <;> simp at h <;> omega)
      (fun z s g2 hne hs hb => by
        obtain ⟨g3, cap2, h1, h2, h3, h4⟩ := hka z s hs
        have hne2 : g2 ≠ g0 := fun e => by
          rw [e] at hb
          exact hne (hk.apart z y s _ hs hfy hb)
        rw [h1] at hb
        cases hb
        exact ⟨(fun e => by cases e; exact hne2 rfl), by rcases r4 with h | h <;> simp at h <;> omega⟩)
    exact ⟨_, w', _, _, _, w'', hl1, hl2, r1, f1, f2, f3, f4, f5, f6, f7⟩
end Go.Proofs.Qxb6600948a
