import Derived.Test.Qxb6600948aMaps
import Derived.Deep.QuietTactic
import Derived.BigQuiet
namespace Go.Proofs.Qxb6600948a
open Go.ChangeShapes Go.WideShapes Go.ChangeAt Go.RowKit
set_option linter.unusedVariables false

def livB (s : Int) : Bool := s != 90 && s != 88

theorem living22 (p : PS) (w : World) :
    Calls Try.prog 22 #[.agg #[.int .i64 p.pid, .int .i64 p.ppid, .int .i64 p.pgid, .int .u8 p.state, .int .u64 p.start]] w fun e w' => e = .returned (.bool (livB p.state)) ∧ Below w.heap.size w w' := by
  by_cases h : p.state = 90
  · have h1 : (p.state != 90) = false := by simpa using h
    go_enter Try.func22, Try.ntmps22
    go_wp2
    go_ret
    exact ⟨by simp [livB, h], (Below.refl _ _).alloc (Nat.le_refl _) _⟩
  · have h1 : (p.state != 90) = true := by simpa using h
    go_enter Try.func22, Try.ntmps22
    go_wp2
    go_ret
    exact ⟨by simp [livB, h], (Below.refl _ _).alloc (Nat.le_refl _) _⟩

theorem living17 (s : Int) (w : World) : Calls Try.prog 17 #[.int .u8 s] w fun e w' => e = .returned (.bool (livB s)) ∧ w = w' := by
  by_cases h : s = 90
  · have h1 : (s == 90) = true := by simpa using h
    go_enter Try.func17, Try.ntmps17
    go_wp2
    go_ret
    exact ⟨by simp [livB, h], rfl⟩
  · have h1 : (s == 90) = false := by simpa using h
    by_cases h' : s = 88
    · have h2 : (s == 88) = true := by simpa using h'
      go_enter Try.func17, Try.ntmps17
      go_wp2
      go_ret
      exact ⟨by simp [livB, h'], rfl⟩
    · have h2 : (s == 88) = false := by simpa using h'
      go_enter Try.func17, Try.ntmps17
      go_wp2
      go_ret
      exact ⟨by simp [livB, h, h'], rfl⟩

/-- 'for k, v := range m' at the operation. -/
theorem wp_range {α : Type} {E : El α} (w : World) {ops : Array Oper} {rest : List Oper} {o : Oper} {a : Act} {Q : Exit → Act → World → Prop} (hg : o.guard = none) (m : Operand) (t : TypeId) (hop : o.op = Op.range t m) (e : TypeId) (ht : Try.prog.underlying t = some (.map 3 e))
    (b n sz : Nat) (f : Int → Option α) (hm : a.eval m = .map (some b)) (hown : FM E w b n f sz)
    (hK : ∀ w', FR E w' b w.heap.size n f sz (fun x => (f x).isSome) sz → w.grownBy w' none → w'.heap.size = w.heap.size + 1 → wpList Try.prog ops Q rest (a.put o.dst (.pointer (some ⟨w.heap.size, 0, none⟩))) w') :
    wpList Try.prog ops Q (o :: rest) a w := by
  refine wpList_plain hg fun K' hK' => ?_
  obtain ⟨w', hrun, r1, r2, r3⟩ := hown.range ht
  unfold Oper.wp
  simp [execOp, hop, hm, hrun, Result.andThen]
  exact hK' _ _ (hK w' r1 r2 r3)

theorem wp_next_ps (w : World) {ops : Array Oper} {rest : List Oper} {o : Oper} {a : Act} {Q : Exit → Act → World → Prop} (hg : o.guard = none) (it : Operand) (hop : o.op = Op.next it false)
    (b r n sz : Nat) (f : Int → Option PS) (left : Int → Bool) (cnt : Nat) (hit : a.eval it = .pointer (some ⟨r, 0, none⟩)) (h : FR psE w b r n f sz left cnt)
    (hDone : cnt = 0 → (∀ x, left x = false) → wpList Try.prog ops Q rest (a.put o.dst (.tuple #[.bool false])) w)
    (hMore : ∀ (x : Int) (p : PS) (w' : World) (cnt' : Nat), I64 x → p.okB = true → left x = true → f x = some p → FR psE w' b r n f sz (fun y => left y && !decide (y = x)) cnt' → cnt' < cnt → w.grownBy w' (some r) → w'.heap.size = w.heap.size →
      (Instr.entry (.pointer (some ⟨r, 0, none⟩))).run Try.prog w' = .ok (.tuple #[.int .i64 x, .agg #[.int .i64 p.pid, .int .i64 p.ppid, .int .i64 p.pgid, .int .u8 p.state, .int .u64 p.start]]) w' →
      wpList Try.prog ops Q rest (a.put o.dst (.tuple #[.bool true, .int .i64 x, .agg #[.int .i64 p.pid, .int .i64 p.ppid, .int .i64 p.pgid, .int .u8 p.state, .int .u64 p.start]])) w') :
    wpList Try.prog ops Q (o :: rest) a w := by
  refine wpList_plain hg fun K' hK' => ?_
  unfold Oper.wp
  rcases h.next o.type with ⟨h0, hl, hrun⟩ | ⟨x, p, w', cnt', hwx, hok, hlx, hf, hrun, hrg, hlt, hgr, hsz, hen⟩
  · simp [execOp, hop, hit, hrun, Result.andThen]
    exact hK' _ _ (hDone h0 hl)
  · simp [execOp, hop, hit, hrun, Result.andThen]
    exact hK' _ _ (hMore x p w' cnt' hwx hok hlx hf hrg hlt hgr hsz hen)

/-- What the groups' map is: the groups of those living processes that are no longer to come. -/
def Gr (f : Int → Option PS) (left : Int → Bool) (g : Int → Option Bool) : Prop :=
  (∀ y, (g y).isSome = true ↔ ∃ x p, f x = some p ∧ left x = false ∧ livB p.state = true ∧ p.pgid = y) ∧ ∀ y v, g y = some v → v = true

theorem gr_start (f : Int → Option PS) : Gr f (fun x => (f x).isSome) (fun _ => none) := by
  refine ⟨fun y => ⟨(fun h => by cases h), ?_⟩, (fun y v h => by cases h)⟩
  rintro ⟨x, p, h1, h2, _⟩
  have h2' : (f x).isSome = false := h2
  rw [h1] at h2'
  cases h2'
theorem gr_dead {f : Int → Option PS} {left : Int → Bool} {g : Int → Option Bool} (h : Gr f left g) {x : Int} {p : PS} (hf : f x = some p) (hl : left x = true) (hd : livB p.state = false) : Gr f (fun y => left y && !decide (y = x)) g := by
  refine ⟨fun y => (h.1 y).trans ⟨?_, ?_⟩, h.2⟩
  · rintro ⟨x', p', h1, h2, h3, h4⟩
    exact ⟨x', p', h1, (by show (left x' && _) = false; rw [h2]; rfl), h3, h4⟩
  · rintro ⟨x', p', h1, h2, h3, h4⟩
    by_cases e : x' = x
    · subst e
      rw [hf] at h1
      cases h1
      rw [hd] at h3
      cases h3
    · refine ⟨x', p', h1, ?_, h3, h4⟩
      simpa [e] using h2
theorem gr_live {f : Int → Option PS} {left : Int → Bool} {g : Int → Option Bool} (h : Gr f left g) {x : Int} {p : PS} (hf : f x = some p) (hl : left x = true) (hd : livB p.state = true) : Gr f (fun y => left y && !decide (y = x)) (upd g p.pgid true) := by
  refine ⟨fun y => ⟨fun hy => ?_, ?_⟩, fun y v hy => ?_⟩
  · by_cases e : y = p.pgid
    · exact ⟨x, p, hf, by simp, hd, e.symm⟩
    · simp only [upd, if_neg e] at hy
      obtain ⟨x', p', h1, h2, h3, h4⟩ := (h.1 y).1 hy
      exact ⟨x', p', h1, (by show (left x' && _) = false; rw [h2]; rfl), h3, h4⟩
  · rintro ⟨x', p', h1, h2, h3, h4⟩
    by_cases e : y = p.pgid
    · simp [upd, e]
    · simp only [upd, if_neg e]
      refine (h.1 y).2 ⟨x', p', h1, ?_, h3, h4⟩
      by_cases e2 : x' = x
      · subst e2
        rw [hf] at h1
        cases h1
        exact absurd h4.symm e
      · simpa [e2] using h2
  · by_cases e : y = p.pgid
    · simp only [upd, if_pos e] at hy
      exact (Option.some.inj hy).symm
    · simp only [upd, if_neg e] at hy
      exact h.2 y v hy

theorem ps_pgid {p : PS} (h : p.okB = true) : I64 p.pgid := by
  simp only [PS.okB, Bool.and_eq_true] at h
  exact h.1.1.2

theorem groups_any (b n sz : Nat) (f : Int → Option PS) (w : World) (h : FM psE w b n f sz) (hn : n ≤ 1048576) :
    Calls Try.prog 20 #[.map (some b)] w fun e w' => ∃ B g s, e = .returned (.map (some B)) ∧ w.heap.size ≤ B ∧ FM boolE w' B sz g s ∧ Gr f (fun _ => false) g ∧ Below w.heap.size w w' := by
  have hbl := h.lt
  have hsl := h.size_le
  have hmm := @run_makeMap Try.prog
  go_enter Try.func20, Try.ntmps20
  go_wp2_with (at_range; refine wp_range _ rfl _ 40 rfl 43 Try.underlying40 b n sz f rfl (h.alloc _) ?_)
  intro w0 hrg0 hg0 hs0
  have hgm : FM boolE w0 w.heap.size 0 (fun _ => none) 0 := (FM.made boolE w).kept hg0 (by simp)
  have hb0 : Below w.heap.size w w0 := ((Below.refl _ _).alloc (Nat.le_refl _) _).grown hg0 (by simp) (fun k hk => by cases hk)
  have hs0' : w0.heap.size = w.heap.size + 2 := by rw [hs0]
  clear hg0 hs0 h
  go_wp2
  go_loopw [9] (fun _ wr => ∃ left cnt g s k, FR psE wr b (w.heap.size + 1) n f sz left cnt ∧ FM boolE wr w.heap.size k g s ∧ k + cnt ≤ sz ∧ Hid (Gr f left g) ∧ Below w.heap.size w wr ∧ w.heap.size + 2 ≤ wr.heap.size)
    (fun _ wr => wr.rangeLeft b (w.heap.size + 1))
  case atStart => exact ⟨_, _, _, _, _, hrg0, hgm, by omega, hide (gr_start f), hb0, by omega⟩
  case round =>
    obtain ⟨left, cnt, g, s, k, hrg, hgm, hk, hGr, hbl2, hws⟩ := hrel
    go_wp2_with (at_next; refine wp_next_ps _ rfl _ rfl b (w.heap.size + 1) n sz f left cnt rfl hrg ?_ ?_)
    · intro _ hl0
      clear hrg
      go_wp2
      go_ret
      refine ⟨w.heap.size, g, s, rfl, Nat.le_refl _, hgm.mono (by omega), ?_, hbl2⟩
      have e : left = fun _ => false := funext hl0
      rw [← e]
      exact unhide hGr
    · intro x p w1 cnt1 hx hp hlx hf hrg1 hlt1 hg1 hs1 hen
      have hgm1 : FM boolE w1 w.heap.size k g s := hgm.kept hg1 (by simp)
      have hb1 : Below w.heap.size w w1 := hbl2.grown hg1 (by omega) (fun j hj => by cases hj; omega)
      have hms : Hid (wr.rangeLeft b (w.heap.size + 1) = cnt) := hide hrg.left_eq
      have hrgo := hide hrg1
      have HF := hide hf
      have HLX := hide hlx
      have HS1 := hide hs1
      have hr1 := hrg1.lt
      clear hrg hf hlx hg1 hrg1 hgm hs1
      go_wp2_with fail
      refine (living22 p _).mono ?_
      rintro e w2 ⟨rfl, hb2⟩
      have hsz2 : w1.heap.size < w2.heap.size := by have := hb2.size; simp at this; omega
      have hc2 : w2.cell? ⟨w1.heap.size, 2, none⟩ = some (.int .i64 p.pgid) := (hb2.cell (p := ⟨w1.heap.size, 2, none⟩) (by simp)).trans (by simp)
      have hgm2 : FM boolE w2 w.heap.size k g s := (hgm1.alloc _).below hb2 (by have := hgm1.lt; simp; omega)
      have hrg2 : FR psE w2 b (w.heap.size + 1) n f sz (fun y => left y && !decide (y = x)) cnt1 := ((unhide hrgo).alloc _).below hb2 (by simp; omega) (by simp; omega)
      have hb3 : Below w.heap.size w w2 := hb1.trans (((Below.refl _ _).alloc (by omega) _).trans (hb2.mono (by simp; omega)))
      have hs2 : w.heap.size + 2 ≤ w2.heap.size := by have := unhide HS1; omega
      have HRG := hide hrg2
      clear hgm1 hrgo hb1 hb2 hrg2
      cases hlv : livB p.state
      · go_wp2
        go_roundw
        case rel => exact ⟨_, cnt1, g, s, k, unhide HRG, hgm2, by omega, hide (gr_dead (unhide hGr) (unhide HF) (unhide HLX) hlv), hb3, hs2⟩
        case measure => rw [(unhide HRG).left_eq, unhide hms]; exact hlt1
      · obtain ⟨w3, hrun, hgm3, hg3⟩ := put26 (a := true) hgm2 (by unfold maxLen; omega) (ps_pgid hp)
        have HG3 := hide hg3
        have HM3 := hide hgm3
        clear hg3 hgm3 hgm2
        go_wp2
        go_roundw
        case rel => exact ⟨_, cnt1, _, _, k + 1, (unhide HRG).kept (unhide HG3) (by simp; omega) (by simp), unhide HM3, by omega, hide (gr_live (unhide hGr) (unhide HF) (unhide HLX) hlv), hb3.grown (unhide HG3) (by omega) (fun j hj => by cases hj; exact Nat.le_refl _), Nat.le_trans hs2 (unhide HG3).size⟩
        case measure => rw [((unhide HRG).kept (unhide HG3) (by simp; omega) (by simp)).left_eq, unhide hms]; exact hlt1
end Go.Proofs.Qxb6600948a
