import Derived.Test.Qxb6600948aPlain
import Derived.Deep.Upon
import Derived.Deep.RegionHeld3
import Derived.Deep.DrawnRows
namespace Go.Proofs.Qxb6600948a
open Go.ChangeShapes Go.WideShapes Go.ChangeAt Go.RowKit
set_option linter.unusedVariables false

/-- A slice of the call's own: block g, from off on, n elements of 'size' cells, capacity cap; its cells are cs. -/
structure Sl (w : World) (size g off n cap : Nat) (cs : List Value) : Prop where
  le : n ≤ cap
  max : cap ≤ maxLen
  lt : g < w.heap.size
  len : cs.length = n * size
  holds : ∀ j, j < n * size → w.cell? ⟨g, off + j, none⟩ = cs[j]?
  there : ∀ j, j < cap * size → (w.cell? ⟨g, off + j, none⟩).isSome = true ∧ w.frozen? ⟨g, off + j, none⟩ = false

theorem grown_none {w w' : World} (h : w.grownBy w' none) (row : Option Nat) : w.grownBy w' row := ⟨h.os, h.tape, h.output, h.size, fun k hk _ => h.block k hk (by simp)⟩
theorem grown_setCells (g : Nat) : ∀ (vs : List Value) (o : Nat) (w : World), w.grownBy (w.setCells g o vs) (some g)
  | [], _, w => ⟨rfl, rfl, rfl, Nat.le_refl _, fun _ _ _ => rfl⟩
  | v :: r, o, w => by
    have h1 : w.grownBy (w.setCell ⟨g, o, none⟩ v) (some g) := ⟨rfl, rfl, rfl, by simp, fun k hk hne => by
      have hne' : k ≠ g := fun e => hne (by rw [e])
      have := World.heap_setCells_other w g o [v] hk hne'
      exact this⟩
    have h2 := grown_setCells g r (o + 1) (w.setCell ⟨g, o, none⟩ v)
    exact ⟨h2.os.trans h1.os, h2.tape.trans h1.tape, h2.output.trans h1.output, Nat.le_trans h1.size h2.size, fun k hk hne => (h2.block k (Nat.lt_of_lt_of_le hk h1.size) hne).trans (h1.block k hk hne)⟩
theorem grown_trans {a b c : World} {row : Option Nat} (h1 : a.grownBy b row) (h2 : b.grownBy c row) : a.grownBy c row :=
  ⟨h2.os.trans h1.os, h2.tape.trans h1.tape, h2.output.trans h1.output, Nat.le_trans h1.size h2.size, fun k hk hne => (h2.block k (Nat.lt_of_lt_of_le hk h1.size) hne).trans (h1.block k hk hne)⟩
theorem grown_drew (w : World) (row : Option Nat) : w.grownBy w.drew row := ⟨rfl, rfl, rfl, Nat.le_refl _, fun _ _ _ => rfl⟩

section
variable {w : World} {size g off n cap : Nat} {cs : List Value}
theorem Sl.same {w' : World} (h : Sl w size g off n cap cs) (hs : g < w'.heap.size) (hb : w'.heap[g]? = w.heap[g]?) : Sl w' size g off n cap cs :=
  ⟨h.le, h.max, hs, h.len, fun j hj => (World.cell?_of_block (a := ⟨g, off + j, none⟩) hb).trans (h.holds j hj), fun j hj => ⟨by rw [World.cell?_of_block (a := ⟨g, off + j, none⟩) hb]; exact (h.there j hj).1, (World.frozen?_of_block (a := ⟨g, off + j, none⟩) hb).trans (h.there j hj).2⟩⟩
theorem Sl.kept {w' : World} {row : Option Nat} (h : Sl w size g off n cap cs) (hg : w.grownBy w' row) (hne : some g ≠ row) : Sl w' size g off n cap cs :=
  h.same (Nat.lt_of_lt_of_le h.lt hg.size) (hg.block g h.lt hne)
theorem Sl.alloc (h : Sl w size g off n cap cs) (o : Obj) : Sl (w.alloc o) size g off n cap cs := h.kept (World.grownBy_alloc w o none) (by simp)
theorem Sl.drew (h : Sl w size g off n cap cs) : Sl w.drew size g off n cap cs := h.same h.lt rfl
theorem Sl.below {w' : World} {B : Nat} (h : Sl w size g off n cap cs) (hb : Below B w w') (hB : g < B) : Sl w' size g off n cap cs :=
  h.same (Nat.lt_of_lt_of_le h.lt hb.size) (hb.block g hB)

theorem Sl.src (h : Sl w size g off n cap cs) {tx e : TypeId} (hk : Try.prog.underlying tx = some (.slice e)) (h1 : ∀ u ∈ cs, u.oneCell' = true) : Src Try.prog size tx (.slice (some ⟨g, off, none⟩) n cap) n cs w :=
  Src.ofSlice w hk _ n cap cs h.len (fun j u hu => by
    rw [Addr.add_lit, h.holds j (by rw [← h.len]; exact (List.getElem?_eq_some_iff.1 hu).1)]
    exact hu) h1

variable {t tx e : TypeId} {i : TypeInfo} {z : Value} {bytes : Nat} {x : Value} {m : Nat} {news : List Value}

/-- The new row of an append without room. -/
theorem app_new (ht : Try.prog.underlying t = some (.slice e)) (hi : Try.prog.info? e = some i) (hz : i.zero = some z) (hsize : i.size = size) (hby : i.bytes = bytes) (hzs : z.cells.size = size)
    (base : Option Addr) (hl : cs.length = n * size) (hold : (Builtin.firstCells size n (.slice base n cap)).run Try.prog w.drew = .ok cs.toArray w.drew)
    (hs : Src Try.prog size tx x m news w) (hg : cap < n + m) (h63 : n + m ≤ maxLen) (hbytes : (n + m) * bytes ≤ 140737488355328) :
    ∃ cap' w', (∀ ty, (Builtin.append_ #[t, tx] ty #[.slice base n cap, x]).run Try.prog w = .ok (.slice (some ⟨w.heap.size, 0, none⟩) (n + m) cap') w') ∧ Sl w' size w.heap.size 0 (n + m) cap' (cs ++ news) ∧ w.grownBy w' none := by
  subst hsize
  subst hby
  have hsmall : ((n + m : Nat) : Int) ≤ 9223372036854775807 := by simp only [maxLen] at h63; omega
  have hrun := fun ty => run_append_grow_src (P := Try.prog) w t tx ty e i z ht hi hz base n cap cs hold x m news hs hg hsmall (growslice_fits hg hbytes)
  have hge := grownCap_ge w (n + m) cap e
  have hcm := grownCap_le_maxLen w (n + m) cap e h63
  have hL : (cs ++ news).length = (n + m) * i.size := by rw [List.length_append, hl, hs.newsLen, Nat.add_mul]
  refine ⟨_, _, hrun, ⟨by omega, hcm, by simp, hL, fun j hj => ?_, fun j hj => ⟨?_, ?_⟩⟩, ?_⟩
  · rw [Nat.zero_add]
    have e1 : (w.drew.alloc (.cells ((cs ++ news).toArray ++ Builtin.zeroCells z.cells (grownCap w (n + m) cap e - (n + m))) e)).cell? ⟨w.heap.size, j, none⟩ = _ := World.cell?_alloc_new w.drew _ _ j
    rw [e1, Array.getElem?_append_left (by simp only [List.size_toArray]; rw [hL]; exact hj), List.getElem?_toArray]
  · rw [Nat.zero_add]
    have e1 : (w.drew.alloc (.cells ((cs ++ news).toArray ++ Builtin.zeroCells z.cells (grownCap w (n + m) cap e - (n + m))) e)).cell? ⟨w.heap.size, j, none⟩ = _ := World.cell?_alloc_new w.drew _ _ j
    rw [e1]
    have hsz : ((cs ++ news).toArray ++ Builtin.zeroCells z.cells (grownCap w (n + m) cap e - (n + m))).size = grownCap w (n + m) cap e * i.size := by
      rw [Array.size_append, List.size_toArray, hL, size_zeroCells, hzs, ← Nat.add_mul]
      congr 1
      omega
    rw [Array.getElem?_eq_getElem (by rw [hsz]; exact hj)]
    rfl
  · rw [Nat.zero_add]
    exact World.frozen?_alloc_new w.drew _ _ j
  · exact grown_trans (grown_drew w none) (World.grownBy_alloc w.drew _ none)

theorem Sl.app (h : Sl w size g off n cap cs) (ht : Try.prog.underlying t = some (.slice e)) (hi : Try.prog.info? e = some i) (hz : i.zero = some z) (hsize : i.size = size) (hby : i.bytes = bytes) (hzs : z.cells.size = size)
    (hs : Src Try.prog size tx x m news w) (h63 : n + m ≤ maxLen) (hbytes : (n + m) * bytes ≤ 140737488355328) :
    ∃ g' off' cap' w', (∀ ty, (Builtin.append_ #[t, tx] ty #[.slice (some ⟨g, off, none⟩) n cap, x]).run Try.prog w = .ok (.slice (some ⟨g', off', none⟩) (n + m) cap') w') ∧ Sl w' size g' off' (n + m) cap' (cs ++ news) ∧ w.grownBy w' (some g) ∧ ((g' = g ∧ off' = off) ∨ (g' = w.heap.size ∧ off' = 0)) := by
  by_cases hfit : n + m ≤ cap
  · have hrc : (n + m) * size ≤ cap * size := Nat.mul_le_mul_right _ hfit
    rw [Nat.add_mul] at hrc
    have hnl := hs.newsLen
    have hsome : ∀ j, j < news.length → (w.cell? ⟨g, off + n * size + j, none⟩).isSome = true := fun j hj => by
      rw [Nat.add_assoc]; exact (h.there _ (by omega)).1
    subst hsize
    have hrun := fun ty => run_append_room_src (P := Try.prog) w t tx ty e i ht hi g off n cap x m news hs hfit hsome (fun j hj => by rw [Nat.add_assoc]; exact (h.there _ (by omega)).2)
    refine ⟨_, _, _, _, hrun, ⟨hfit, h.max, Nat.lt_of_lt_of_le h.lt (grown_setCells g news _ w).size, by rw [List.length_append, h.len, hnl, Nat.add_mul], fun j hj => ?_, fun j hj => ⟨?_, ?_⟩⟩, grown_setCells g news _ w, .inl ⟨rfl, rfl⟩⟩
    · rw [Nat.add_mul] at hj
      by_cases hjo : j < n * i.size
      · rw [World.cell?_setCells_out g _ _ _ _ (fun _ _ => Or.inl (by show off + j < off + n * i.size; omega)), List.getElem?_append_left (by rw [h.len]; exact hjo)]
        exact h.holds j hjo
      · have ht' : j - n * i.size < news.length := by omega
        have := World.cell?_setCells_in g news (off + n * i.size) w hsome (j - n * i.size) ht'
        rw [show off + n * i.size + (j - n * i.size) = off + j by omega] at this
        rw [this, List.getElem?_append_right (by rw [h.len]; omega), h.len, List.getElem?_eq_getElem ht']
    · by_cases hin : n * i.size ≤ j ∧ j < n * i.size + news.length
      · have := World.cell?_setCells_in g news (off + n * i.size) w hsome (j - n * i.size) (by omega)
        rw [show off + n * i.size + (j - n * i.size) = off + j by omega] at this
        rw [this]; rfl
      · rw [World.cell?_setCells_out g _ _ _ _ (fun _ _ => by show off + j < off + n * i.size ∨ off + n * i.size + news.length ≤ off + j; omega)]
        exact (h.there j hj).1
    · exact (World.frozen?_setCells g _ _ _ _).trans (h.there j hj).2
  · obtain ⟨cap', w', r1, r2, r3⟩ := app_new ht hi hz hsize hby hzs (some ⟨g, off, none⟩) h.len
      (run_firstCells_some w.drew size n ⟨g, off, none⟩ n cap cs h.len (fun j u hu => by
        rw [Addr.add_lit]
        have hj : j < n * size := by rw [← h.len]; exact (List.getElem?_eq_some_iff.1 hu).1
        exact (h.holds j hj).trans hu)) hs (by omega) h63 hbytes
    exact ⟨_, _, cap', w', r1, r2, grown_none r3 _, .inr ⟨rfl, rfl⟩⟩

theorem app_nil (ht : Try.prog.underlying t = some (.slice e)) (hi : Try.prog.info? e = some i) (hz : i.zero = some z) (hsize : i.size = size) (hby : i.bytes = bytes) (hzs : z.cells.size = size)
    (hs : Src Try.prog size tx x m news w) (hm : 0 < m) (h63 : m ≤ maxLen) (hbytes : m * bytes ≤ 140737488355328) :
    ∃ cap' w', (∀ ty, (Builtin.append_ #[t, tx] ty #[.slice none 0 0, x]).run Try.prog w = .ok (.slice (some ⟨w.heap.size, 0, none⟩) m cap') w') ∧ Sl w' size w.heap.size 0 m cap' news ∧ w.grownBy w' none := by
  have := app_new (n := 0) (cap := 0) (cs := []) ht hi hz hsize hby hzs none (by simp) (run_firstCells_none w.drew size 0 0 0) hs (by omega) (by omega) (by rw [Nat.zero_add]; exact hbytes)
  simpa using this

/-- 'queue[1:]' of a slice of numbers. -/
theorem Sl.tail {c : Value} (h : Sl w 1 g off n cap (c :: cs)) : Sl w 1 g (off + 1) (n - 1) (cap - 1) cs := by
  have hl := h.len
  have hle := h.le
  have hmx := h.max
  simp at hl
  refine ⟨by omega, by omega, h.lt, by omega, fun j hj => ?_, fun j hj => ?_⟩
  · have := h.holds (j + 1) (by omega)
    rw [show off + 1 + j = off + (j + 1) by omega, this, List.getElem?_cons_succ]
  · have := h.there (j + 1) (by omega)
    rwa [show off + (j + 1) = off + 1 + j by omega] at this
end

/-- An append whose run is known, at the operation. -/
theorem wp_append_run (w : World) {ops : Array Oper} {rest : List Oper} {o : Oper} {a : Act} {Q : Exit → Act → World → Prop} (hg : o.guard = none) (s x : Operand) (t tx : TypeId)
    (hop : o.op = Op.call { callee := Callee.builtin Builtin.append, args := #[s, x], argTypes := #[t, tx] }) (v xv v' : Value) (w' : World) (hs : a.eval s = v) (hx : a.eval x = xv)
    (hrun : ∀ ty, (Builtin.append_ #[t, tx] ty #[v, xv]).run Try.prog w = .ok v' w') (hK : wpList Try.prog ops Q rest (a.put o.dst v') w') :
    wpList Try.prog ops Q (o :: rest) a w := by
  refine wpList_plain hg fun K' hK' => ?_
  unfold Oper.wp
  simp [execOp, hop, resolve, invoke, builtin, hs, hx, hrun o.type, Result.andThen]
  exact hK' _ _ hK

/-- .. as one step of a region that draws. -/
theorem step_append_run {ops : Array Oper} {o : Oper} {a : Act} {w : World} {K : Act → World → Prop} {Q : Exit → Act → World → Prop} {E : Prop}
    (hg : o.guard = none) (s x : Operand) (t tx : TypeId) (hop : o.op = Op.call { callee := Callee.builtin Builtin.append, args := #[s, x], argTypes := #[t, tx] })
    (v xv v' : Value) (w' : World) (hs : a.eval s = v) (hx : a.eval x = xv) (hrun : ∀ ty, (Builtin.append_ #[t, tx] ty #[v, xv]).run Try.prog w = .ok v' w') (hK : K (a.put o.dst v') w') :
    if Region.wanted o (yielded ops a.tmps) = true then Oper.wp Try.prog o a w K Q else E := by
  have hw : Region.wanted o (yielded ops a.tmps) = true := by simp [Region.wanted, hg]
  rw [if_pos hw]
  unfold Oper.wp
  simp [execOp, hop, resolve, invoke, builtin, hs, hx, hrun o.type, Result.andThen]
  exact hK

/-! ### The map of slices (47) -/
/-- A slice's head: its block (it begins at 0), its length, its capacity. -/
structure SV where
  blk : Option Nat
  len : Nat
  cap : Nat
def SV.val (s : SV) : Value := .slice (s.blk.map fun g => ⟨g, 0, none⟩) s.len s.cap
def nl (n : Nat) : DataW Unit := .lit (.int .i64 n)
theorem nl_inj {a b : Nat} (h : nl a = nl b) : a = b := by
  unfold nl at h
  injection h with h
  injection h with _ h
  exact Int.ofNat.inj h
def SV.dt (s : SV) : DataW Unit := match s.blk with
  | none => .agg [nl s.len, nl s.cap]
  | some g => .agg [nl s.len, nl s.cap, nl g]
def svR : Value → Option (DataW Unit × List MemPlace)
  | .slice none n c => some (.agg [nl n, nl c], [])
  | .slice (some ⟨g, 0, none⟩) n c => some (.agg [nl n, nl c, nl g], [])
  | _ => none
def svE : El SV where
  R := svR
  val := SV.val
  dt := SV.dt
  ok := fun _ => True
  reads := fun s _ => by
    obtain ⟨b, n, c⟩ := s
    cases b <;> rfl
  inv := fun v y h => by
    unfold svR at h
    split at h
    · rename_i n c
      cases h
      exact ⟨⟨none, n, c⟩, trivial, rfl, rfl⟩
    · rename_i g n c
      cases h
      exact ⟨⟨some g, n, c⟩, trivial, rfl, rfl⟩
    · cases h
  inj := fun a b h => by
    obtain ⟨b1, n1, c1⟩ := a
    obtain ⟨b2, n2, c2⟩ := b
    cases b1 <;> cases b2 <;> simp only [SV.dt, DataW.agg.injEq, List.cons.injEq, reduceCtorEq, and_true, and_false] at h
    · rw [nl_inj h.1, nl_inj h.2]
    · rw [nl_inj h.1, nl_inj h.2.1, nl_inj h.2.2]

theorem zero22 (w : World) : (zeroValue 22).run Try.prog w = .ok (.slice none 0 0) w := by kernel_rfl
theorem look47 {w : World} {b n sz : Nat} {f : Int → Option SV} (h : FM svE w b n f sz) {x : Int} (hx : I64 x) : (Instr.lookup 47 (.map (some b)) (.int .i64 x) false).run Try.prog w = .ok ((f x).getD ⟨none, 0, 0⟩).val w :=
  (h.at_ Try.underlying47 (z := ⟨none, 0, 0⟩) (zero22 w) trivial hx).1
theorem put47 {w : World} {b n sz : Nat} {f : Int → Option SV} (h : FM svE w b n f sz) (hn : n < maxLen) {x : Int} (hx : I64 x) (g l c : Nat) :
    ∃ w', (Instr.mapUpdate 47 (.map (some b)) (.int .i64 x) (.slice (some ⟨g, 0, none⟩) l c)).run Try.prog w = .ok () w' ∧ FM svE w' b (n + 1) (upd f x ⟨some g, l, c⟩) (if (f x).isSome then sz else sz + 1) ∧ w.grownBy w' (some b) :=
  h.put Try.underlying47 hn hx (a := ⟨some g, l, c⟩) trivial
end Go.Proofs.Qxb6600948a
