import Derived.Test.Qxb6600948aRows
import Derived.WalkKit
import Derived.WalkSpells
import Derived.WalkLawsBesides
import Derived.WalkSmall
import Derived.ProofKit
import Derived.Below
import Derived.Maps.OwnSet
import Derived.Maps.RangeWalk
namespace Go.Proofs.Qxb6600948a
open Go.ChangeShapes Go.WideShapes Go.ChangeAt Go.RowKit
set_option linter.unusedVariables false

theorem hide {p : Prop} (h : p) : Hid p := h
theorem unhide {p : Prop} (h : Hid p) : p := h

theorem kd : Maps.Keyed Try.prog 3 := Maps.int_keyed Try.underlying3
def kk (x : Int) : Lit := .int .i64 x
theorem kk_inj {x y : Int} (h : kk x = kk y) : x = y := by unfold kk at h; cases h; rfl
theorem kk_key (x : Int) : WideAt.IsKeyLit (kk x) := trivial
def I64 (x : Int) : Prop := (Lit.int .i64 x).wf = true
theorem key_mk {x : Int} (h : I64 x) : keyOf Try.prog 3 (.int .i64 x) = some (kk x) := Maps.keyOf_int_mk Try.underlying3 h
theorem same_kk (x y : Int) : (kk x).sameKey (kk y) = decide (x = y) := by
  by_cases h : x = y
  · subst h
    rw [WideAt.sameKey_self (kk_key x)]
    simp
  · rw [Maps.sameKey_ne (fun e => h (kk_inj e))]
    simp [h]

/-- A map's elements: how they lie in memory, and what they are. -/
structure El (α : Type) where
  R : Value → Option (DataW Unit × List MemPlace)
  val : α → Value
  dt : α → DataW Unit
  ok : α → Prop
  reads : ∀ a, ok a → R (val a) = some (dt a, [])
  inv : ∀ v y, R v = some y → ∃ a, ok a ∧ v = val a ∧ y = (dt a, [])
  inj : ∀ a b, dt a = dt b → a = b

def upd {α : Type} (f : Int → Option α) (x : Int) (a : α) : Int → Option α := fun y => if y = x then some a else f y

/-- D is the function into options f. -/
def Rep {α : Type} (E : El α) (D : DataW Unit) (f : Int → Option α) : Prop :=
  ∀ x, (Maps.has D (kk x) = (f x).isSome) ∧ ∀ a, f x = some a → ∀ zd, D.atKey (kk x) zd = E.dt a

/-- Block b is a map of at most n entries that is the function into options f, and has sz entries. -/
def FM {α : Type} (E : El α) (w : World) (b n : Nat) (f : Int → Option α) (sz : Nat) : Prop :=
  ∃ D, w.ownsMap Try.prog 3 E.R b n D ∧ (Maps.size D = sz ∧ ∃ ks : List Int, ks.Nodup ∧ (∀ x, x ∈ ks ↔ (f x).isSome = true) ∧ ks.length = sz) ∧ Rep E D f

section
variable {α : Type} {E : El α} {w : World} {b n : Nat} {f : Int → Option α} {sz : Nat}

theorem FM.made (E : El α) (w : World) : FM E (w.alloc (.map #[] 0)) w.heap.size 0 (fun _ => none) 0 :=
  ⟨.map [], World.ownsMap_made w _ _ _, ⟨rfl, [], List.nodup_nil, fun x => by simp, rfl⟩, fun x => ⟨rfl, fun a h => by cases h⟩⟩
theorem FM.lt (h : FM E w b n f sz) : b < w.heap.size := by obtain ⟨D, h, _⟩ := h; exact h.lt
theorem FM.kept {w' : World} {row : Option Nat} (h : FM E w b n f sz) (hg : w.grownBy w' row) (hne : some b ≠ row) : FM E w' b n f sz := by
  obtain ⟨D, h, r⟩ := h
  exact ⟨D, h.kept hg hne, r⟩
theorem FM.alloc (h : FM E w b n f sz) (o : Obj) : FM E (w.alloc o) b n f sz := by
  obtain ⟨D, h, r⟩ := h
  exact ⟨D, h.alloc o, r⟩
theorem FM.drewN (h : FM E w b n f sz) (q : Nat) : FM E (w.drewN q) b n f sz := h
theorem FM.mono {n' : Nat} (h : FM E w b n f sz) (hn : n ≤ n') : FM E w b n' f sz := by
  obtain ⟨D, h, r⟩ := h
  exact ⟨D, h.mono hn, r⟩
theorem FM.setCell (h : FM E w b n f sz) {a : Addr} (ha : b ≠ a.block) (u : Value) : FM E (w.setCell a u) b n f sz := by
  obtain ⟨D, h, r⟩ := h
  exact ⟨D, h.setCell ha u, r⟩
theorem FM.below {B : Nat} {w' : World} (h : FM E w b n f sz) (hb : Below B w w') (hB : b < B) : FM E w' b n f sz := by
  obtain ⟨D, ⟨es, clock, h1, h2⟩, r⟩ := h
  exact ⟨D, ⟨es, clock, (hb.block b hB).trans h1, h2⟩, r⟩

theorem FM.at_ (h : FM E w b n f sz) {t e : TypeId} (ht : Try.prog.underlying t = some (.map 3 e)) {z : α} (hz : (zeroValue e).run Try.prog w = .ok (E.val z) w) (hzo : E.ok z) {x : Int} (hx : I64 x) :
    (Instr.lookup t (.map (some b)) (.int .i64 x) false).run Try.prog w = .ok (E.val ((f x).getD z)) w ∧
    (Instr.lookup t (.map (some b)) (.int .i64 x) true).run Try.prog w = .ok (.tuple #[E.val ((f x).getD z), .bool (f x).isSome]) w := by
  obtain ⟨D, hown, _, hr⟩ := h
  obtain ⟨h1, h2⟩ := hr x
  have key : ∀ v ps, E.R v = some (D.atKey (kk x) (E.dt z), ps) → v = E.val ((f x).getD z) := by
    intro v ps hv
    obtain ⟨a, _, rfl, hy⟩ := E.inv v _ hv
    have hd : D.atKey (kk x) (E.dt z) = E.dt a := by simpa using congrArg Prod.fst hy
    cases hf : f x with
    | none =>
      rw [hf] at h1
      rw [Maps.atKey_of_not_has h1] at hd
      rw [E.inj _ _ hd]
      rfl
    | some c =>
      rw [h2 c hf] at hd
      rw [E.inj _ _ hd]
      rfl
  refine ⟨?_, ?_⟩
  · obtain ⟨v, ps, hrun, hv⟩ := hown.lookup kd ht hz (E.reads z hzo) (key_mk hx)
    rw [hrun, key v ps hv]
  · obtain ⟨v, ps, hrun, hv⟩ := hown.look_ok kd ht hz (E.reads z hzo) (key_mk hx)
    rw [hrun, key v ps hv, h1]

theorem FM.put (h : FM E w b n f sz) {t e : TypeId} (ht : Try.prog.underlying t = some (.map 3 e)) (hn : n < maxLen) {x : Int} (hx : I64 x) {a : α} (ha : E.ok a) :
    ∃ w', (Instr.mapUpdate t (.map (some b)) (.int .i64 x) (E.val a)).run Try.prog w = .ok () w' ∧ FM E w' b (n + 1) (upd f x a) (if (f x).isSome then sz else sz + 1) ∧ w.grownBy w' (some b) := by
  obtain ⟨D, hown, ⟨hs, ks, hk1, hk2, hk3⟩, hr⟩ := h
  obtain ⟨w', hrun, ho, hg⟩ := hown.update kd ht hn (key_mk hx) (E.reads a ha)
  refine ⟨w', hrun, ⟨_, ho, ?_, fun y => ?_⟩, hg⟩
  · refine ⟨by rw [Maps.size_put (hown.tidy kd), (hr x).1, hs], ?_⟩
    by_cases hx2 : (f x).isSome = true
    · refine ⟨ks, hk1, fun y => ?_, by rw [if_pos hx2]; exact hk3⟩
      by_cases e : y = x
      · subst e
        simp [upd, (hk2 y).2 hx2]
      · simp only [upd, if_neg e]
        exact hk2 y
    · refine ⟨x :: ks, List.nodup_cons.2 ⟨fun h => hx2 ((hk2 x).1 h), hk1⟩, fun y => ?_, by rw [if_neg hx2, List.length_cons, hk3]⟩
      by_cases e : y = x
      · subst e
        simp [upd]
      · simp only [upd, if_neg e, List.mem_cons]
        rw [hk2 y]
        exact ⟨fun h => h.resolve_left e, .inr⟩
  · by_cases e : y = x
    · subst e
      simp only [upd, if_true, Option.isSome_some]
      refine ⟨Maps.has_put_same hown.isMap (kk_key _) _, fun c hc zd => ?_⟩
      cases hc
      exact Maps.atKey_put_same hown.isMap (kk_key _) _ _
    · simp only [upd, if_neg e]
      have hne : kk y ≠ kk x := fun e1 => e (kk_inj e1)
      refine ⟨by rw [Maps.has_put_other hne]; exact (hr y).1, fun c hc zd => ?_⟩
      rw [Maps.atKey_put_other hne]
      exact (hr y).2 c hc zd

theorem FM.size_le (h : FM E w b n f sz) : sz ≤ n := by
  obtain ⟨D, hown, ⟨rfl, _⟩, _⟩ := h
  exact hown.size_le
theorem FM.keys (h : FM E w b n f sz) : ∃ ks : List Int, ks.Nodup ∧ (∀ x, x ∈ ks ↔ (f x).isSome = true) ∧ ks.length = sz := by
  obtain ⟨D, _, ⟨_, h⟩, _⟩ := h
  exact h
theorem FM.len (h : FM E w b n f sz) {t e : TypeId} (ht : Try.prog.underlying t = some (.map 3 e)) (ty : TypeId) : (Builtin.len_ #[t] ty #[.map (some b)]).run Try.prog w = .ok (.int .i64 sz) w := by
  obtain ⟨D, hown, ⟨rfl, _⟩, _⟩ := h
  exact hown.len ht ty

/-- A range under way: 'left' says which keys are still to come. -/
def FR (E : El α) (w : World) (b r n : Nat) (f : Int → Option α) (sz : Nat) (left : Int → Bool) (cnt : Nat) : Prop :=
  ∃ D L, w.ranges Try.prog 3 E.R b r n D L cnt ∧ (Maps.size D = sz ∧ ∃ ks : List Int, ks.Nodup ∧ (∀ x, x ∈ ks ↔ (f x).isSome = true) ∧ ks.length = sz) ∧ Rep E D f ∧ ∀ x, L (kk x) = left x

variable {r cnt : Nat} {left : Int → Bool}
theorem FR.owns (h : FR E w b r n f sz left cnt) : FM E w b n f sz := by
  obtain ⟨D, L, h1, h2, h3, _⟩ := h
  exact ⟨D, h1.owns, h2, h3⟩
theorem FR.left_eq (h : FR E w b r n f sz left cnt) : w.rangeLeft b r = cnt := by
  obtain ⟨D, L, h1, _⟩ := h
  exact h1.left_eq
theorem FR.kept {w' : World} {row : Option Nat} (h : FR E w b r n f sz left cnt) (hg : w.grownBy w' row) (hb' : some b ≠ row) (hr' : some r ≠ row) : FR E w' b r n f sz left cnt := by
  obtain ⟨D, L, h1, h2⟩ := h
  exact ⟨D, L, h1.kept hg hb' hr', h2⟩
theorem FR.alloc (h : FR E w b r n f sz left cnt) (o : Obj) : FR E (w.alloc o) b r n f sz left cnt := by
  obtain ⟨D, L, h1, h2⟩ := h
  exact ⟨D, L, h1.alloc o, h2⟩
theorem FR.below {B : Nat} {w' : World} (h : FR E w b r n f sz left cnt) (hb : Below B w w') (h1 : b < B) (h2 : r < B) : FR E w' b r n f sz left cnt := by
  obtain ⟨D, L, ⟨es, clock, since, seen, c0, a1, a2, a3, a4, a5, a6⟩, hr⟩ := h
  exact ⟨D, L, ⟨es, clock, since, seen, c0, (hb.block b h1).trans a1, a2, a3, a4, (hb.block r h2).trans a5, a6⟩, hr⟩
theorem FR.lt (h : FR E w b r n f sz left cnt) : r < w.heap.size := by
  obtain ⟨D, L, h1, _⟩ := h
  exact h1.lt
theorem FR.ne (h : FR E w b r n f sz left cnt) : r ≠ b := by
  obtain ⟨D, L, h1, _⟩ := h
  exact h1.ne

theorem FM.range (h : FM E w b n f sz) {t e : TypeId} (ht : Try.prog.underlying t = some (.map 3 e)) :
    ∃ w', (Instr.range t (.map (some b))).run Try.prog w = .ok (.pointer (some ⟨w.heap.size, 0, none⟩)) w' ∧ FR E w' b w.heap.size n f sz (fun x => (f x).isSome) sz ∧ w.grownBy w' none ∧ w'.heap.size = w.heap.size + 1 := by
  obtain ⟨D, hown, ⟨rfl, hk⟩, hr⟩ := h
  obtain ⟨w', hrun, h1, h2, h3⟩ := hown.range kd ht
  exact ⟨w', hrun, ⟨D, _, h1, ⟨rfl, hk⟩, hr, fun x => (hr x).1⟩, h2, h3⟩

theorem FR.next (h : FR E w b r n f sz left cnt) (ty : TypeId) :
    (cnt = 0 ∧ (∀ x, left x = false) ∧ (Instr.next (.pointer (some ⟨r, 0, none⟩)) false ty).run Try.prog w = .ok (.tuple #[.bool false]) w) ∨
    ∃ x a w' cnt', I64 x ∧ E.ok a ∧ left x = true ∧ f x = some a ∧ (Instr.next (.pointer (some ⟨r, 0, none⟩)) false ty).run Try.prog w = .ok (.tuple #[.bool true, .int .i64 x, E.val a]) w' ∧
      FR E w' b r n f sz (fun y => left y && !decide (y = x)) cnt' ∧ cnt' < cnt ∧ w.grownBy w' (some r) ∧ w'.heap.size = w.heap.size ∧ (Instr.entry (.pointer (some ⟨r, 0, none⟩))).run Try.prog w' = .ok (.tuple #[.int .i64 x, E.val a]) w' := by
  obtain ⟨D, L, hrg, hs, hr, hL⟩ := h
  rcases hrg.next kd ty with ⟨h0, hl, hrun⟩ | ⟨key, v, kl, y, w', cnt', hkey, hlk, hv, hat, hrun, hrg', hlt, hgr, hsz, hen⟩
  · exact .inl ⟨h0, fun x => by rw [← hL]; exact hl _, hrun⟩
  · obtain ⟨x, rfl, rfl, hwx⟩ := Maps.keyOf_int_inv Try.underlying3 hkey
    obtain ⟨a, hok, rfl, rfl⟩ := E.inv v y hv
    have hlx : left x = true := by rw [← hL]; exact hlk
    have hf : f x = some a := by
      have h1 := (hr x).1
      rw [show kk x = Lit.int .i64 x from rfl, Maps.has_true_of_atKey hat] at h1
      cases hfx : f x with
      | none => rw [hfx] at h1; cases h1
      | some c =>
        have h2 := (hr x).2 c hfx .nil
        rw [show kk x = Lit.int .i64 x from rfl, hat] at h2
        rw [E.inj _ _ h2]
    refine .inr ⟨x, a, w', cnt', hwx, hok, hlx, hf, hrun, ⟨D, _, hrg', hs, hr, fun y => ?_⟩, hlt, hgr, hsz, hen⟩
    show (L (kk y) && !(kk y).sameKey (kk x)) = _
    rw [hL, same_kk]
end

/-! ### The elements -/
def intR : Value → Option (DataW Unit × List MemPlace)
  | .int .i64 a => if (Lit.int .i64 a).wf = true then some (.lit (.int .i64 a), []) else none
  | _ => none
def intE : El Int where
  R := intR
  val := Value.int .i64
  dt := fun a => .lit (.int .i64 a)
  ok := I64
  reads := fun a h => by
    show (if (Lit.int .i64 a).wf = true then some (DataW.lit (.int .i64 a), ([] : List MemPlace)) else none) = _
    rw [if_pos (show (Lit.int .i64 a).wf = true from h)]
  inv := fun v y h => by
    unfold intR at h
    split at h
    · rename_i a
      split at h
      · rename_i hw
        cases h
        exact ⟨a, hw, rfl, rfl⟩
      · cases h
    · cases h
  inj := fun a b h => by cases h; rfl

def boolR : Value → Option (DataW Unit × List MemPlace)
  | .bool a => some (.lit (.bool a), [])
  | _ => none
def boolE : El Bool where
  R := boolR
  val := Value.bool
  dt := fun a => .lit (.bool a)
  ok := fun _ => True
  reads := fun a _ => rfl
  inv := fun v y h => by
    unfold boolR at h
    split at h
    · rename_i a
      cases h
      exact ⟨a, trivial, rfl, rfl⟩
    · cases h
  inj := fun a b h => by cases h; rfl

/-- A process. -/
structure PS where
  pid : Int
  ppid : Int
  pgid : Int
  state : Int
  start : Int

def PS.val (p : PS) : Value := .agg #[.int .i64 p.pid, .int .i64 p.ppid, .int .i64 p.pgid, .int .u8 p.state, .int .u64 p.start]
def PS.dt (p : PS) : DataW Unit := .agg [.lit (.int .i64 p.pid), .lit (.int .i64 p.ppid), .lit (.int .i64 p.pgid), .lit (.int .u8 p.state), .lit (.int .u64 p.start)]
def PS.okB (p : PS) : Bool := (Lit.int .i64 p.pid).wf && (Lit.int .i64 p.ppid).wf && (Lit.int .i64 p.pgid).wf && (Lit.int .u8 p.state).wf && (Lit.int .u64 p.start).wf
def psList : List Value → Option (DataW Unit × List MemPlace)
  | [.int .i64 a, .int .i64 b, .int .i64 c, .int .u8 d, .int .u64 e] => if (PS.mk a b c d e).okB = true then some ((PS.mk a b c d e).dt, []) else none
  | _ => none
def psR : Value → Option (DataW Unit × List MemPlace)
  | .agg cs => psList cs.toList
  | _ => none
theorem psList_inv {l : List Value} {y : DataW Unit × List MemPlace} (h : psList l = some y) : ∃ p : PS, p.okB = true ∧ l = [.int .i64 p.pid, .int .i64 p.ppid, .int .i64 p.pgid, .int .u8 p.state, .int .u64 p.start] ∧ y = (p.dt, []) := by
  unfold psList at h
  split at h
  · rename_i a b c d e
    split at h
    · rename_i hok
      cases h
      exact ⟨⟨a, b, c, d, e⟩, hok, rfl, rfl⟩
    · cases h
  · cases h

def psE : El PS where
  R := psR
  val := PS.val
  dt := PS.dt
  ok := fun p => p.okB = true
  reads := fun p h => by
    show (if p.okB = true then some (p.dt, []) else none) = _
    rw [if_pos h]
  inv := fun v y h => by
    unfold psR at h
    split at h
    · rename_i cs
      obtain ⟨p, hok, hl, rfl⟩ := psList_inv h
      refine ⟨p, hok, ?_, rfl⟩
      obtain ⟨l⟩ := cs
      simp only at hl
      subst hl
      rfl
    · cases h
  inj := fun a b h => by
    obtain ⟨a1, a2, a3, a4, a5⟩ := a
    obtain ⟨b1, b2, b3, b4, b5⟩ := b
    simp only [PS.dt] at h
    cases h
    rfl

theorem zero3 (w : World) : (zeroValue 3).run Try.prog w = .ok (.int .i64 0) w := by kernel_rfl
theorem zero4 (w : World) : (zeroValue 4).run Try.prog w = .ok (.bool false) w := by kernel_rfl
theorem zero43 (w : World) : (zeroValue 43).run Try.prog w = .ok (PS.val ⟨0, 0, 0, 0, 0⟩) w := by kernel_rfl
theorem i64_of {x : Int} (h1 : -9223372036854775808 ≤ x) (h2 : x ≤ 9223372036854775807) : I64 x := WalkArith.wf_i64 (by omega)
theorem i64_zero : I64 0 := by unfold I64; decide
theorem ps_zero : (PS.mk 0 0 0 0 0).okB = true := by decide

/-! ### The operations at this program's map types: 25 (to int), 26 (to bool), 40 (to a process) -/
theorem look25 {w : World} {b n sz : Nat} {f : Int → Option Int} (h : FM intE w b n f sz) {x : Int} (hx : I64 x) : (Instr.lookup 25 (.map (some b)) (.int .i64 x) false).run Try.prog w = .ok (.int .i64 ((f x).getD 0)) w :=
  (h.at_ Try.underlying25 (z := 0) (zero3 w) i64_zero hx).1
theorem look25ok {w : World} {b n sz : Nat} {f : Int → Option Int} (h : FM intE w b n f sz) {x : Int} (hx : I64 x) : (Instr.lookup 25 (.map (some b)) (.int .i64 x) true).run Try.prog w = .ok (.tuple #[.int .i64 ((f x).getD 0), .bool (f x).isSome]) w :=
  (h.at_ Try.underlying25 (z := 0) (zero3 w) i64_zero hx).2
theorem look26 {w : World} {b n sz : Nat} {f : Int → Option Bool} (h : FM boolE w b n f sz) {x : Int} (hx : I64 x) : (Instr.lookup 26 (.map (some b)) (.int .i64 x) false).run Try.prog w = .ok (.bool ((f x).getD false)) w :=
  (h.at_ Try.underlying26 (z := false) (zero4 w) trivial hx).1
theorem look26ok {w : World} {b n sz : Nat} {f : Int → Option Bool} (h : FM boolE w b n f sz) {x : Int} (hx : I64 x) : (Instr.lookup 26 (.map (some b)) (.int .i64 x) true).run Try.prog w = .ok (.tuple #[.bool ((f x).getD false), .bool (f x).isSome]) w :=
  (h.at_ Try.underlying26 (z := false) (zero4 w) trivial hx).2
theorem look40ok {w : World} {b n sz : Nat} {f : Int → Option PS} (h : FM psE w b n f sz) {x : Int} (hx : I64 x) : (Instr.lookup 40 (.map (some b)) (.int .i64 x) true).run Try.prog w = .ok (.tuple #[((f x).getD ⟨0, 0, 0, 0, 0⟩).val, .bool (f x).isSome]) w :=
  (h.at_ Try.underlying40 (z := ⟨0, 0, 0, 0, 0⟩) (zero43 w) ps_zero hx).2
theorem put25 {w : World} {b n sz : Nat} {f : Int → Option Int} (h : FM intE w b n f sz) (hn : n < maxLen) {x a : Int} (hx : I64 x) (ha : I64 a) :
    ∃ w', (Instr.mapUpdate 25 (.map (some b)) (.int .i64 x) (.int .i64 a)).run Try.prog w = .ok () w' ∧ FM intE w' b (n + 1) (upd f x a) (if (f x).isSome then sz else sz + 1) ∧ w.grownBy w' (some b) :=
  h.put Try.underlying25 hn hx (a := a) ha
theorem put26 {w : World} {b n sz : Nat} {f : Int → Option Bool} (h : FM boolE w b n f sz) (hn : n < maxLen) {x : Int} {a : Bool} (hx : I64 x) :
    ∃ w', (Instr.mapUpdate 26 (.map (some b)) (.int .i64 x) (.bool a)).run Try.prog w = .ok () w' ∧ FM boolE w' b (n + 1) (upd f x a) (if (f x).isSome then sz else sz + 1) ∧ w.grownBy w' (some b) :=
  h.put Try.underlying26 hn hx (a := a) trivial
theorem put40 {w : World} {b n sz : Nat} {f : Int → Option PS} (h : FM psE w b n f sz) (hn : n < maxLen) {x : Int} {p : PS} (hx : I64 x) (hp : p.okB = true) :
    ∃ w', (Instr.mapUpdate 40 (.map (some b)) (.int .i64 x) (.agg #[.int .i64 p.pid, .int .i64 p.ppid, .int .i64 p.pgid, .int .u8 p.state, .int .u64 p.start])).run Try.prog w = .ok () w' ∧ FM psE w' b (n + 1) (upd f x p) (if (f x).isSome then sz else sz + 1) ∧ w.grownBy w' (some b) :=
  h.put Try.underlying40 hn hx (a := p) hp
end Go.Proofs.Qxb6600948a
