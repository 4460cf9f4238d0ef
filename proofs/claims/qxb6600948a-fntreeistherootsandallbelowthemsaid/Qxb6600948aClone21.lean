import Derived.Test.Qxb6600948aBfs
namespace Go.Proofs.Qxb6600948a
open Go.ChangeShapes Go.WideShapes Go.ChangeAt Go.RowKit
set_option linter.unusedVariables false

/-- A slice of numbers that the law made (or an empty one). -/
structure Ra (w : World) (a : Option Addr) (n : Nat) (zs : List Int) : Prop where
  len : zs.length = n
  at_ : 0 < n → ∃ b, a = some ⟨b, 0, none⟩ ∧ b < w.heap.size ∧ Rd .i64 w b 0 zs
  ok : ∀ j, j < n → I64 (nth zs j)
theorem Ra.below {w w' : World} {a : Option Addr} {n : Nat} {zs : List Int} (h : Ra w a n zs) (hb : Below w.heap.size w w') : Ra w' a n zs :=
  ⟨h.len, fun hn => by
    obtain ⟨b, h1, h2, h3⟩ := h.at_ hn
    exact ⟨b, h1, Nat.lt_of_lt_of_le h2 hb.size, h3.below hb h2⟩, h.ok⟩

/-- The queue: nil, or a slice of the call's own from block 'base' on. -/
def Qv (w : World) (base : Nat) (v : Value) (zs : List Int) (bk : Option Nat) : Prop :=
  (v = .slice none 0 0 ∧ zs = [] ∧ bk = none) ∨ ∃ g off cap, v = .slice (some ⟨g, off, none⟩) zs.length cap ∧ Sl w 1 g off zs.length cap (iv zs) ∧ base ≤ g ∧ bk = some g
theorem Qv.same {w w' : World} {base : Nat} {v : Value} {zs : List Int} {bk : Option Nat} (h : Qv w base v zs bk) (hs : w.heap.size ≤ w'.heap.size) (hb : ∀ g, bk = some g → base ≤ g → g < w.heap.size → w'.heap[g]? = w.heap[g]?) : Qv w' base v zs bk := by
  rcases h with h | ⟨g, off, cap, h1, h2, h3, h4⟩
  · exact .inl h
  · exact .inr ⟨g, off, cap, h1, h2.same (Nat.lt_of_lt_of_le h2.lt hs) (hb g h4 h3 h2.lt), h3, h4⟩
theorem Qv.kept {w w' : World} {base : Nat} {v : Value} {zs : List Int} {bk row : Option Nat} (h : Qv w base v zs bk) (hg : w.grownBy w' row) (hr : ∀ k, row = some k → bk ≠ some k) : Qv w' base v zs bk :=
  h.same hg.size (fun g h1 _ h2 => hg.block g h2 (fun e => hr g e.symm h1))
theorem Qv.lt {w : World} {base : Nat} {v : Value} {zs : List Int} {bk : Option Nat} (h : Qv w base v zs bk) {g : Nat} (e : bk = some g) : base ≤ g ∧ g < w.heap.size := by
  rcases h with ⟨_, _, h⟩ | ⟨g', off, cap, h1, h2, h3, h4⟩
  · rw [h] at e
    cases e
  · rw [h4] at e
    cases e
    exact ⟨h3, h2.lt⟩

theorem iv_get (zs : List Int) (j : Nat) (hj : j < zs.length) : (iv zs)[j]? = some (.int .i64 (zs.getD j 0)) := by
  simp [iv, List.getD, List.getElem?_eq_getElem hj]

theorem clone_21 (a : Option Addr) (n : Nat) (zs : List Int) (w : World) (h : Ra w a n zs) (hn : n ≤ 4096) :
    Calls Try.prog 21 #[.slice a n n] w fun e w' => ∃ v bk, e = .returned v ∧ Qv w' w.heap.size v zs bk ∧ Below w.heap.size w w' := by
  have q := eql_nil9
  obtain ⟨i0, hi, hz0, hz1, hz2⟩ := info_parts info3
  cases a with
  | none =>
    have hn0 : n = 0 := by
      rcases Nat.eq_zero_or_pos n with h0 | h0
      · exact h0
      · obtain ⟨b, hb, _⟩ := h.at_ h0
        cases hb
    have hzs : zs = [] := List.eq_nil_of_length_eq_zero (by rw [h.len, hn0])
    clear h
    go_enter Try.func21, Try.ntmps21
    go_wp2
    go_ret
    exact ⟨_, _, rfl, .inl ⟨rfl, hzs, rfl⟩, Below.refl _ _⟩
  | some x =>
    have hsl : Sl (w.alloc (.cells #[] 3)) 1 w.heap.size 0 0 0 [] := ⟨Nat.le_refl _, Nat.zero_le _, by simp, rfl, (fun j hj => by omega), (fun j hj => by omega)⟩
    have hsrc : Src Try.prog 1 22 (.slice (some x) n n) n (iv zs) (w.alloc (.cells #[] 3)) := by
      rcases Nat.eq_zero_or_pos n with h0 | h0
      · have hzs : zs = [] := List.eq_nil_of_length_eq_zero (by rw [h.len, h0])
        rw [h0, hzs]
        exact Src.ofSlice _ Try.underlying22 _ 0 0 [] rfl (fun j u hu => by simp at hu) (by simp)
      · obtain ⟨b, hb, hlt, hrd⟩ := h.at_ h0
        cases hb
        refine Src.ofSlice _ Try.underlying22 _ n n (iv zs) (by simp [iv, h.len]) (fun j u hu => ?_) (iv_one _)
        have hj : j < zs.length := by simpa [iv] using (List.getElem?_eq_some_iff.1 hu).1
        rw [iv_get zs j hj] at hu
        rw [Addr.add_lit, World.cell?_alloc_past _ _ _ hlt, hrd j hj, hu]
    obtain ⟨g', off', cap', w', r1, r2, r3, r4⟩ := hsl.app (t := 22) Try.underlying22 hi hz0 hz1 hz2 rfl hsrc (by unfold maxLen; omega) (by omega)
    have hlen := h.len
    have R2 := hide r2
    have R3 := hide r3
    clear h hsl hsrc r2 r3
    go_enter Try.func21, Try.ntmps21
    go_wp2_with (at_builtin; refine wp_append_run _ rfl _ _ 22 22 rfl _ _ _ w' rfl rfl r1 ?_)
    go_wp2
    go_ret
    refine ⟨_, _, rfl, .inr ⟨g', off', cap', by rw [hlen]; simp, ?_, by rcases r4 with h | h <;> (try simp at h) <;> omega, rfl⟩, ((Below.refl _ _).alloc (Nat.le_refl _) _).grown (unhide R3) (by simp) (fun k hk => by cases hk; exact Nat.le_refl _)⟩
    have := unhide R2
    rw [Nat.zero_add, List.nil_append] at this
    rw [hlen]
    exact this

/-! ### The processes' slice (44) -/
def pcell (p : PS) : List Value := [.int .i64 p.pid, .int .i64 p.ppid, .int .i64 p.pgid, .int .u8 p.state, .int .u64 p.start]
def pcs (L : List PS) : List Value := L.flatMap pcell
theorem pcs_len (L : List PS) : (pcs L).length = L.length * 5 := by
  induction L with
  | nil => rfl
  | cons p r ih =>
    rw [pcs, List.flatMap_cons, List.length_append, show (r.flatMap pcell).length = r.length * 5 from ih, List.length_cons]
    simp [pcell]
    omega
theorem info43 : (Try.prog.info? 43).map (fun i => (i.zero, i.size, i.bytes)) = some (some (PS.val ⟨0, 0, 0, 0, 0⟩), 5, 40) := by kernel_rfl

def Pv (w : World) (base : Nat) (v : Value) (L : List PS) (bk : Option Nat) : Prop :=
  (v = .slice none 0 0 ∧ L = [] ∧ bk = none) ∨ ∃ g cap, v = .slice (some ⟨g, 0, none⟩) L.length cap ∧ Sl w 5 g 0 L.length cap (pcs L) ∧ base ≤ g ∧ bk = some g
theorem Pv.same {w w' : World} {base : Nat} {v : Value} {L : List PS} {bk : Option Nat} (h : Pv w base v L bk) (hs : w.heap.size ≤ w'.heap.size) (hb : ∀ g, bk = some g → base ≤ g → g < w.heap.size → w'.heap[g]? = w.heap[g]?) : Pv w' base v L bk := by
  rcases h with h | ⟨g, cap, h1, h2, h3, h4⟩
  · exact .inl h
  · exact .inr ⟨g, cap, h1, h2.same (Nat.lt_of_lt_of_le h2.lt hs) (hb g h4 h3 h2.lt), h3, h4⟩
theorem Pv.kept {w w' : World} {base : Nat} {v : Value} {L : List PS} {bk row : Option Nat} (h : Pv w base v L bk) (hg : w.grownBy w' row) (hr : ∀ k, row = some k → bk ≠ some k) : Pv w' base v L bk :=
  h.same hg.size (fun g h1 _ h2 => hg.block g h2 (fun e => hr g e.symm h1))
theorem Pv.lt {w : World} {base : Nat} {v : Value} {L : List PS} {bk : Option Nat} (h : Pv w base v L bk) {g : Nat} (e : bk = some g) : base ≤ g ∧ g < w.heap.size := by
  rcases h with ⟨_, _, h⟩ | ⟨g', cap, h1, h2, h3, h4⟩
  · rw [h] at e
    cases e
  · rw [h4] at e
    cases e
    exact ⟨h3, h2.lt⟩

theorem Pv.app {w : World} {base : Nat} {v : Value} {L : List PS} {bk : Option Nat} (h : Pv w base v L bk) (hb : base ≤ w.heap.size) (p : PS) (hl : L.length ≤ 100000) :
    ∃ v' w' bk', (∀ ty, (Builtin.append_ #[44, 44] ty #[v, .slice (some ⟨w.heap.size, 0, none⟩) 1 1]).run Try.prog (w.alloc (.cells #[.int .i64 p.pid, .int .i64 p.ppid, .int .i64 p.pgid, .int .u8 p.state, .int .u64 p.start] 43)) = .ok v' w') ∧
      Pv w' base v' (L ++ [p]) bk' ∧ (w.alloc (.cells #[.int .i64 p.pid, .int .i64 p.ppid, .int .i64 p.pgid, .int .u8 p.state, .int .u64 p.start] 43)).grownBy w' bk ∧ (bk' = bk ∨ bk' = some (w.heap.size + 1)) := by
  obtain ⟨i0, hi, hz0, hz1, hz2⟩ := info_parts info43
  have hsrc : Src Try.prog 5 44 (.slice (some ⟨w.heap.size, 0, none⟩) 1 1) 1 (pcell p) (w.alloc (.cells #[.int .i64 p.pid, .int .i64 p.ppid, .int .i64 p.pgid, .int .u8 p.state, .int .u64 p.start] 43)) :=
    Src.ofSlice _ Try.underlying44 _ 1 1 (pcell p) rfl (fun j u hu => by
      rw [Addr.add_lit, Nat.zero_add, World.cell?_alloc_new]
      simpa [pcell] using hu) (fun u hu => by
        simp only [pcell, List.mem_cons, List.not_mem_nil, or_false] at hu
        rcases hu with rfl | rfl | rfl | rfl | rfl <;> rfl)
  have happ : pcs (L ++ [p]) = pcs L ++ pcell p := by simp [pcs, List.flatMap_append]
  rcases h with ⟨rfl, rfl, rfl⟩ | ⟨g, cap, rfl, hsl, hbg, rfl⟩
  · obtain ⟨cap', w', r1, r2, r3⟩ := app_nil (t := 44) Try.underlying44 hi hz0 hz1 hz2 rfl hsrc (by omega) (by unfold maxLen; omega) (by omega)
    refine ⟨_, w', some (w.heap.size + 1), r1, .inr ⟨_, cap', rfl, by rw [happ]; exact r2, by simp; omega, by simp⟩, r3, .inr rfl⟩
  · obtain ⟨g', off', cap', w', r1, r2, r3, r4⟩ := (hsl.alloc (.cells #[.int .i64 p.pid, .int .i64 p.ppid, .int .i64 p.pgid, .int .u8 p.state, .int .u64 p.start] 43)).app (t := 44) Try.underlying44 hi hz0 hz1 hz2 rfl hsrc (by unfold maxLen; omega) (by omega)
    obtain rfl : off' = 0 := by rcases r4 with h | h <;> exact h.2
    refine ⟨_, w', some g', r1, .inr ⟨g', cap', by simp, by rw [happ]; simpa using r2, ?_, rfl⟩, r3, ?_⟩
    · rcases r4 with h | h
      · omega
      · simp at h
        omega
    · rcases r4 with h | h
      · exact .inl (by rw [h.1])
      · simp at h
        exact .inr (by rw [h])
end Go.Proofs.Qxb6600948a
