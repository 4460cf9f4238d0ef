import Derived.Test.Qxb6605320aDoorRows
import Derived.Test.Qxb6605320aDoorShelf
import Derived.WalkKit
import Derived.WalkSpells
import Derived.WalkLawsBesides
import Derived.WalkSmall
import Derived.ProofKit
import Derived.Below
import Derived.Laws.CopyOwn
import Derived.Lib.AppendStr
import Derived.Deep.QuietTactic
import Derived.BigQuiet
namespace Go.Proofs.Qxb6605320aDoor
open Go.ChangeShapes Go.WideShapes Go.ChangeAt Go.RowKit Go.Lib Go.Sort
set_option linter.unusedVariables false

theorem hide {p : Prop} (h : p) : Hid p := h
theorem unhide {p : Prop} (h : Hid p) : p := h

/-- Bytes as cells. -/
def Cz (zs : List Int) : List Value := zs.map (Value.int .u8)
theorem Cz_length (zs : List Int) : (Cz zs).length = zs.length := by simp [Cz]
theorem Cz_one (zs : List Int) : ∀ v ∈ Cz zs, v.oneCell' = true := by
  intro v hv
  simp only [Cz, List.mem_map] at hv
  obtain ⟨z, _, rfl⟩ := hv
  rfl
theorem Cz_get {zs : List Int} {i : Nat} (h : i < zs.length) : (Cz zs)[i]? = some (.int .u8 (zs.getD i 0)) := by
  simp [Cz, List.getElem?_map, List.getElem?_eq_getElem h, List.getD_eq_getElem?_getD]
theorem Cz_append (a b : List Int) : Cz (a ++ b) = Cz a ++ Cz b := by simp [Cz]

/-- A run of bytes in memory. -/
def Rd (w : World) (b off : Nat) (zs : List Int) : Prop := ∀ i, i < zs.length → w.cell? ⟨b, off + i, none⟩ = some (.int .u8 (zs.getD i 0))

theorem Rd.below {w w' : World} {b off B : Nat} {zs : List Int} (h : Rd w b off zs) (hb : Below B w w') (hB : b < B) : Rd w' b off zs :=
  fun i hi => (hb.cell (p := ⟨b, off + i, none⟩) hB).trans (h i hi)

theorem eql_nil (w : World) (a : Option Addr) (n c n' c' : Nat) : (binOp .eql 22 (.slice a n c) (.slice none n' c')).run Tryd.prog w = .ok (.bool a.isNone) w :=
  Lib.run_eql_slice_nil w _ _ a n c n' c' Tryd.underlying22
theorem info5 : (Tryd.prog.info? 5).map (fun i => (i.zero, i.size, i.bytes)) = some (some (.int .u8 0), 1, 1) := by kernel_rfl
theorem size5 : (Tryd.prog.info? 5).map (·.size) = some 1 := by kernel_rfl

theorem clone_nil (w : World) : Calls Tryd.prog 6 #[.slice none 0 0] w fun e w' => e = .returned (.slice none 0 0) ∧ w = w' := by
  have q := eql_nil
  go_enter Tryd.func6, Tryd.ntmps6
  go_wp2
  go_ret
  exact ⟨rfl, rfl⟩

theorem own_lt {w : World} {base e size g n cap m : Nat} {xs : List Value} (h : w.ownsRow base e size (.slice (some ⟨g, 0, none⟩) n cap) m xs) : g < w.heap.size := by
  rcases h.2 with ⟨h', _⟩ | ⟨g', cap', cur, h', _, hg, _⟩
  · simp at h'
  · simp only [Value.slice.injEq, Option.some.injEq, Addr.mk.injEq, and_true] at h'
    obtain ⟨⟨rfl, _⟩, rfl, rfl⟩ := h'
    exact (Array.getElem?_eq_some_iff.1 hg).1
theorem own_row {w : World} {base e g n : Nat} {xs : List Value} (h : w.ownsRow base e 1 (.slice (some ⟨g, 0, none⟩) n n) n xs) : w.heap[g]? = some (.cells xs.toArray e (0, 0)) := by
  rcases h.2 with ⟨h', _⟩ | ⟨g', cap', cur, h', _, hg, _, _, hcs, htake⟩
  · simp at h'
  · simp only [Value.slice.injEq, Option.some.injEq, Addr.mk.injEq, and_true, true_and] at h'
    obtain ⟨rfl, rfl⟩ := h'
    rw [hg, ← htake, List.take_of_length_le (by simp [hcs])]

theorem add_block (x : Addr) (j : Nat) : (x.add j).block = x.block := by
  simp only [Addr.add]
  split <;> rfl

theorem copy_run (w w1 : World) (x : Addr) (n c : Nat) (zs : List Int) (xs : List Value) (hl : zs.length = n) (ho : w1.ownsRow w.heap.size 5 1 (.slice (some ⟨w.heap.size, 0, none⟩) n n) n xs) (hg : w.grownBy w1 none)
    (hc : 0 < n → ∀ j v, (Cz zs)[j]? = some v → w.cell? (x.add j) = some v) (hx : 0 < n → x.block < w.heap.size) :
    ∃ w2, (Builtin.copy_ #[22, 22] 3 #[.slice (some ⟨w.heap.size, 0, none⟩) n n, .slice (some x) n c]).run Tryd.prog w1 = .ok (.int .i64 n) w2 ∧ Rd w2 w.heap.size 0 zs ∧ Below w.heap.size w w2 ∧ w.heap.size < w2.heap.size := by
  have hxl : xs.length = n := by simpa using ho.1
  have hbel := (Below.refl w.heap.size w).grown hg (Nat.le_refl _) (fun k hk => by cases hk)
  have hrow := own_row ho
  have hrun := run_copy_row (P := Tryd.prog) w1 22 22 3 5 w.heap.size 0 n n x n c xs.toArray 5 (Cz zs) Tryd.underlying22 size5 hrow (by simp [Cz_length, hl])
    (fun j v hj => by
      have hj' := (List.getElem?_eq_some_iff.1 hj).1
      rw [Cz_length, hl] at hj'
      exact (hbel.cell (p := x.add j) (by rw [add_block]; exact hx (by omega))).trans (hc (by omega) j v hj))
    (by simp [Cz_length, hl, hxl]) (Cz_one zs)
  have hd : (List.take 0 xs.toArray.toList ++ Cz zs ++ List.drop (0 + (Cz zs).length) xs.toArray.toList).toArray = (Cz zs).toArray := by
    rw [List.take_zero, List.nil_append, List.drop_of_length_le (by simp [Cz_length, hl, hxl]), List.append_nil]
  rw [hd, Cz_length, hl] at hrun
  refine ⟨_, hrun, ?_, below_setRow hbel (Nat.le_refl _) _, ?_⟩
  · intro i hi
    have hnew := setRow_heap w1 w.heap.size xs.toArray (Cz zs).toArray 5 (0, 0) hrow
    rw [Nat.zero_add, cell_of_row _ _ _ _ _ _ hnew, List.getElem?_toArray]
    exact Cz_get hi
  · have := own_lt ho
    simpa [World.setRow] using this

/-- 'zzCloneBytes' of a slice that is not nil. -/
theorem clone_some (x : Addr) (n c : Nat) (zs : List Int) (w : World) (hl : zs.length = n) (hc : 0 < n → ∀ j v, (Cz zs)[j]? = some v → w.cell? (x.add j) = some v) (hx : 0 < n → x.block < w.heap.size) (hn : n ≤ 1048576) :
    Calls Tryd.prog 6 #[.slice (some x) n c] w fun e w' => e = .returned (.slice (some ⟨w.heap.size, 0, none⟩) n n) ∧ Rd w' w.heap.size 0 zs ∧ Below w.heap.size w w' ∧ w.heap.size < w'.heap.size := by
  obtain ⟨i0, hi, hz0, hz1, hz2⟩ := info_parts info5
  have q := eql_nil
  have HC := hide hc
  have HX := hide hx
  have HL := hide hl
  clear hc hx hl
  go_enter Tryd.func6, Tryd.ntmps6
  go_wp2_with (at_make; refine wpList_make_full _ rfl _ _ 22 rfl w.heap.size 5 i0 (.int .u8 0) 1 Tryd.underlying22 hi hz0 hz1 .i64 .i64 _ _ n rfl rfl rfl rfl (by rw [hz2]; omega) (by unfold maxLen; omega) (Nat.le_refl _) ?_; intro w1 hown1 hg1; obtain ⟨w2, hrun, r1, r2, r3⟩ := copy_run w w1 x n c zs _ (unhide HL) hown1 hg1 (unhide HC) (unhide HX); have HR := hide (And.intro r1 (And.intro r2 r3)); clear r1 r2 r3 hown1 hg1)
  go_ret
  obtain ⟨r1, r2, r3⟩ := unhide HR
  exact ⟨rfl, r1, r2, r3⟩
end Go.Proofs.Qxb6605320aDoor
