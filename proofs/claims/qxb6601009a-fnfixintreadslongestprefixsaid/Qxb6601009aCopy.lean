import Derived.Test.Qxb6601009aRows
import Derived.WalkKit
import Derived.WalkSpells
import Derived.WalkLawsBesides
import Derived.ProofKit
import Derived.Below
namespace Go.Proofs.Qxb6601009a
open Go.ChangeShapes Go.WideShapes Go.ChangeAt Go.RowKit
set_option linter.unusedVariables false

/-- What a slice of bytes reads as: its 'n' first cells are the numbers of 'zs'. -/
def Rd (w : World) (b off n : Nat) (zs : List Int) : Prop :=
  zs.length = n ∧ (∀ i, i < n → w.cell? ⟨b, off + i, none⟩ = some (.int .u8 (zs.getD i 0))) ∧ ∀ i, i < n → 0 ≤ zs.getD i 0 ∧ zs.getD i 0 ≤ 255

theorem Try.info5 : (Try.prog.info? 5).map (fun i => (i.zero, i.size, i.bytes)) = some (some (.int .u8 0), 1, 1) := by kernel_rfl

theorem eql_nil (w : World) (a : Option Addr) (n c n' c' : Nat) : (binOp .eql 22 (.slice a n c) (.slice none n' c')).run Try.prog w = .ok (.bool a.isNone) w :=
  Lib.run_eql_slice_nil w _ _ a n c n' c' Try.underlying22

theorem hide {p : Prop} (h : p) : Hid p := h
theorem unhide {p : Prop} (h : Hid p) : p := h
theorem own_lt {w : World} {base e size g n cap m : Nat} {xs : List Value} (h : w.ownsRow base e size (.slice (some ⟨g, 0, none⟩) n cap) m xs) : g < w.heap.size := by
  rcases h.2 with ⟨h', _⟩ | ⟨g', cap', cur, h', _, hg, _⟩
  · simp at h'
  · simp only [Value.slice.injEq, Option.some.injEq, Addr.mk.injEq, and_true] at h'
    obtain ⟨⟨rfl, _⟩, rfl, rfl⟩ := h'
    exact (Array.getElem?_eq_some_iff.1 hg).1

theorem copy_nil (w : World) : Calls Try.prog 7 #[.slice none 0 0] w fun e w' => e = .returned (.slice none 0 0) ∧ w = w' := by
  have q := eql_nil
  go_enter Try.func7, Try.ntmps7
  go_wp2
  go_ret
  exact ⟨rfl, rfl⟩

theorem copy_some (b off n c : Nat) (zs : List Int) (w : World) (h : Rd w b off n zs) (hn : n ≤ 1048576) (hb : b < w.heap.size) :
    Calls Try.prog 7 #[.slice (some ⟨b, off, none⟩) n c] w fun e w' => e = .returned (.slice (some ⟨w.heap.size, 0, none⟩) n n) ∧ Rd w' w.heap.size 0 n zs ∧ Below w.heap.size w w' ∧ w.heap.size < w'.heap.size := by
  obtain ⟨i0, hi, hz0, hz1, hz2⟩ := info_parts Try.info5
  have q := eql_nil
  obtain ⟨hl, hc, hbd⟩ := h
  go_enter Try.func7, Try.ntmps7
  go_wp2_with (at_make; refine wpList_make_full _ rfl _ _ 22 rfl w.heap.size 5 i0 (.int .u8 0) 1 Try.underlying22 hi hz0 hz1 .i64 .i64 _ _ n rfl rfl rfl rfl (by rw [hz2]; omega) (by unfold maxLen; omega) (Nat.le_refl _) ?_; intro w1 hown1 hg1)
  have hsz : w.heap.size < w1.heap.size := own_lt hown1
  have hbel := (Below.refl w.heap.size w).grown hg1 (Nat.le_refl _) (fun k hk => by cases hk)
  clear hg1
  go_loopw [4] (fun i wr => ∃ k : Nat, ∃ xs : List Value, k ≤ n ∧ i = .int .i64 k ∧ wr.ownsRow w.heap.size 5 1 (.slice (some ⟨w.heap.size, 0, none⟩) n n) n xs ∧ (∀ j, j < k → xs[j]? = some (.int .u8 (zs.getD j 0))) ∧ Below w.heap.size w wr ∧ w.heap.size < wr.heap.size)
    (fun i _ => n - (intOf i).toNat)
  case atStart => exact ⟨0, _, Nat.zero_le _, rfl, hown1, fun j hj => absurd hj (Nat.not_lt_zero _), hbel, hsz⟩
  case round =>
    obtain ⟨k, xs, hk, rfl, hown, hxs, hbl, hws⟩ := hrel
    by_cases hlt : k < n
    · obtain ⟨z, hz⟩ : ∃ z, z = zs.getD k 0 := ⟨_, rfl⟩
      have hcx : wr.cell? ⟨b, off + k, none⟩ = some (.int .u8 z) := by rw [hz]; exact (hbl.cell (p := ⟨b, off + k, none⟩) hb).trans (hc k hlt)
      obtain ⟨x0, hx0⟩ : ∃ x0, wr.cell? ⟨w.heap.size, k, none⟩ = some x0 := by
        rw [hown.cellAt k (by omega)]
        have := hown.1
        exact ⟨_, List.getElem?_eq_getElem (by omega)⟩
      have hfz := hown.frozenAt k
      have HX : Hid (∀ j, j < k → xs[j]? = some (.int .u8 (zs.getD j 0))) := hxs
      clear hxs hc hbd
      have hst := hown.stored k (.int .u8 z)
      have hR : (∀ j, j < k + 1 → (xs.set k (.int .u8 z))[j]? = some (.int .u8 (zs.getD j 0))) := by
        intro j hj
        have hxl := hown.1
        by_cases hjk : j = k
        · subst hjk
          rw [List.getElem?_set_self (by omega), hz]
        · rw [List.getElem?_set_ne (by omega)]
          exact HX.out j (by omega)
      have HR := hide (And.intro hst hR)
      clear hst hR hz
      go_wp2
      go_roundw
      case rel =>
        obtain ⟨⟨ho', hg'⟩, hR⟩ := unhide HR
        exact ⟨k + 1, _, by omega, by go_num, ho', hR, hbl.setCell (Nat.le_refl _) _, by simpa using hws⟩
      case measure => simp [intOf]; omega
    · go_wp2
      go_ret
      refine ⟨rfl, ⟨hl, fun i hi => ?_, hbd⟩, hbl, hws⟩
      rw [Nat.zero_add, hown.cellAt i (by omega)]
      exact hxs i (by omega)
theorem u8_bounds {n : Int} (h : (Lit.int .u8 n).wf = true) : 0 ≤ n ∧ n ≤ 255 := by
  simp [Lit.wf, IntKind.min, IntKind.max, IntKind.signed, IntKind.bits] at h
  omega

/-- A row that is not empty, as the walks want it. -/
theorem rd_of {w : World} {x : Addr} {len : Nat} {zs : List Int} (h0 : 0 < len) (hl : len ≤ zs.length) (hc : ∀ i, i < zs.length → w.cell? (x.add i) = some (.int .u8 (zs.getD i 0))) (hw : ∀ n ∈ zs, (Lit.int .u8 n).wf = true) :
    ∃ b off, x = ⟨b, off, none⟩ ∧ b < w.heap.size ∧ Rd w b off len (zs.take len) := by
  obtain ⟨b, off, spot⟩ := x
  have hs : spot = none := by simpa [Addr.add] using World.cell?_spot (hc 0 (by omega))
  subst hs
  have hc' : ∀ j, j < zs.length → w.cell? ⟨b, off + j, none⟩ = some (.int .u8 (zs.getD j 0)) := fun j hj => by rw [← add_plain]; exact hc j hj
  have hg : ∀ i, i < len → (zs.take len).getD i 0 = zs.getD i 0 := fun i hi => by
    simp only [List.getD_eq_getElem?_getD, List.getElem?_take, if_pos hi]
  refine ⟨b, off, rfl, ?_, by simp; omega, fun i hi => ?_, fun i hi => ?_⟩
  · have h := hc' 0 (by omega)
    by_cases hb : b < w.heap.size
    · exact hb
    · simp [World.cell?, Array.getElem?_eq_none (Nat.le_of_not_lt hb)] at h
  · rw [hg i hi]
    exact hc' i (by omega)
  · rw [hg i hi]
    refine u8_bounds (hw _ ?_)
    rw [List.getD_eq_getElem?_getD, List.getElem?_eq_getElem (by omega)]
    exact List.getElem_mem _

end Go.Proofs.Qxb6601009a
