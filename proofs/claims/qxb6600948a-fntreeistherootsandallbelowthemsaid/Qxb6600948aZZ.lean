import Derived.Test.Qxb6600948aClone
import Derived.Deep.RegionWith
namespace Go.Proofs.Qxb6600948a
open Go.ChangeShapes Go.WideShapes Go.ChangeAt Go.RowKit
set_option linter.unusedVariables false

/-- The table that the first k rows lay: a later row of a key replaces an earlier one. -/
def tab {α : Type} (P : Nat → Int) (V : Nat → α) : Nat → Int → Option α
  | 0 => fun _ => none
  | k + 1 => upd (tab P V k) (P k) (V k)

def nth (zs : List Int) (j : Nat) : Int := zs.getD j 0

theorem ps_ok {a b c d : Int} (h1 : I64 a) (h2 : I64 b) (h3 : I64 c) (h4 : 0 ≤ d ∧ d ≤ 255) : (PS.mk a b c d 0).okB = true := by
  have h5 : (Lit.int .u8 d).wf = true := WalkArith.wf_u8 (by omega)
  have h6 : (Lit.int .u64 0).wf = true := by decide
  unfold I64 at h1 h2 h3
  simp [PS.okB, h1, h2, h3, h5, h6]

theorem zzgroups (bp bg bs n : Nat) (ps gs ss : List Int) (w : World) (hn : n ≤ 4096) (lp : ps.length = n) (lg : gs.length = n) (ls : ss.length = n) (rp : Rd .i64 w bp 0 ps) (rg : Rd .i64 w bg 0 gs) (rs : Rd .u8 w bs 0 ss)
    (op : ∀ j, j < n → I64 (nth ps j)) (og : ∀ j, j < n → I64 (nth gs j)) (os : ∀ j, j < n → 0 ≤ nth ss j ∧ nth ss j ≤ 255) (hp : bp < w.heap.size) (hg : bg < w.heap.size) (hs : bs < w.heap.size) :
    Calls Try.prog 16 #[.slice (some ⟨bp, 0, none⟩) n n, .slice (some ⟨bg, 0, none⟩) n n, .slice (some ⟨bs, 0, none⟩) n n] w fun e w' =>
      ∃ B g s m, e = .returned (.map (some B)) ∧ w.heap.size ≤ B ∧ m ≤ 4096 ∧ FM boolE w' B m g s ∧ Gr (tab (nth ps) (fun j => PS.mk (nth ps j) 0 (nth gs j) (nth ss j) 0) n) (fun _ => false) g ∧ Below w.heap.size w w' := by
  have hmm := @run_makeMap Try.prog
  have RP := hide rp
  have RG := hide rg
  have RS := hide rs
  have LP := hide lp
  have LG := hide lg
  have LS := hide ls
  have OP := hide op
  have OG := hide og
  have OS := hide os
  clear rp rg rs lp lg ls op og os
  go_enter Try.func16, Try.ntmps16
  go_wp2
  go_loopw [8] (fun i wr => ∃ k s : Nat, k ≤ n ∧ i = .int .i64 k ∧ FM psE wr w.heap.size k (tab (nth ps) (fun j => PS.mk (nth ps j) 0 (nth gs j) (nth ss j) 0) k) s ∧ Below w.heap.size w wr) (fun i _ => n - (intOf i).toNat)
  case atStart => exact ⟨0, 0, Nat.zero_le _, rfl, FM.made _ _, (Below.refl _ _).alloc (Nat.le_refl _) _⟩
  case round =>
    obtain ⟨k, s, hk, rfl, hfm, hbl⟩ := hrel
    by_cases hlt : k < n
    · obtain ⟨x, hx⟩ : ∃ x, x = nth ps k := ⟨_, rfl⟩
      obtain ⟨y, hy⟩ : ∃ y, y = nth gs k := ⟨_, rfl⟩
      obtain ⟨z, hz⟩ : ∃ z, z = nth ss k := ⟨_, rfl⟩
      have cx : wr.cell? ⟨bp, k, none⟩ = some (.int .i64 x) := by
        have := (unhide RP).below hbl hp k (by rw [unhide LP]; exact hlt)
        rwa [Nat.zero_add, show ps.getD k 0 = x from hx.symm] at this
      have cy : wr.cell? ⟨bg, k, none⟩ = some (.int .i64 y) := by
        have := (unhide RG).below hbl hg k (by rw [unhide LG]; exact hlt)
        rwa [Nat.zero_add, show gs.getD k 0 = y from hy.symm] at this
      have cz : wr.cell? ⟨bs, k, none⟩ = some (.int .u8 z) := by
        have := (unhide RS).below hbl hs k (by rw [unhide LS]; exact hlt)
        rwa [Nat.zero_add, show ss.getD k 0 = z from hz.symm] at this
      have ox : I64 x := by rw [hx]; exact unhide OP k hlt
      have oy : I64 y := by rw [hy]; exact unhide OG k hlt
      have oz : 0 ≤ z ∧ z ≤ 255 := by rw [hz]; exact unhide OS k hlt
      obtain ⟨w1, hrun, hfm1, hg1⟩ := put40 (w := wr.drew) (p := ⟨x, 0, y, z, 0⟩) hfm (by unfold maxLen; omega) ox (ps_ok ox i64_zero oy oz)
      have HF : Hid (FM psE w1 w.heap.size (k + 1) (tab (nth ps) (fun j => PS.mk (nth ps j) 0 (nth gs j) (nth ss j) 0) (k + 1)) (if (tab (nth ps) (fun j => PS.mk (nth ps j) 0 (nth gs j) (nth ss j) 0) k x).isSome then s else s + 1)) := by
        rw [tab, ← hx, ← hy, ← hz]
        exact hide hfm1
      have HG := hide hg1
      have hki : (k : Int) < (n : Int) := by omega
      clear hfm1 hg1 hx hy hz hfm
      simp only at hrun
      go_wp2
      go_region
      all_goals
        go_wp2
        go_roundw
        case rel => exact ⟨k + 1, _, by omega, by go_num, unhide HF, hbl.drew.grown (unhide HG) hbl.size (fun j hj => by cases hj; exact Nat.le_refl _)⟩
        case measure => simp [intOf]; omega
    · obtain rfl : k = n := by omega
      go_wp2_with fail
      refine (groups_any w.heap.size k s _ wr hfm (by omega)).mono ?_
      rintro e w2 ⟨B, g, s2, rfl, hB, hgm, hgr, hb2⟩
      have hsl := hfm.size_le
      have HM := hide hgm
      have HR := hide hgr
      clear hgm hgr
      go_wp2
      go_ret
      exact ⟨B, g, s2, s, rfl, Nat.le_trans hbl.size hB, by omega, unhide HM, unhide HR, below_up hbl hb2⟩

theorem zzgroups0 (a0 a1 a2 : Option Addr) (w : World) :
    Calls Try.prog 16 #[.slice a0 0 0, .slice a1 0 0, .slice a2 0 0] w fun e w' => ∃ B g, e = .returned (.map (some B)) ∧ w.heap.size ≤ B ∧ FM boolE w' B 0 g 0 ∧ Below w.heap.size w w' := by
  have hmm := @run_makeMap Try.prog
  go_enter Try.func16, Try.ntmps16
  go_wp2
  refine wp_loop_rounds 1 ?_
  rw [rounds_succ]
  go_wp2_with fail
  refine (groups_any w.heap.size 0 0 _ _ (FM.made psE w) (by omega)).mono ?_
  rintro e w2 ⟨B, g, s2, rfl, hB, hgm, hgr, hb2⟩
  have hsl := hgm.size_le
  have HM := hide hgm
  clear hgm hgr
  go_wp2
  go_ret
  obtain rfl : s2 = 0 := by omega
  exact ⟨B, g, rfl, by have := hB; simp at this; omega, unhide HM, ((Below.refl _ _).alloc (Nat.le_refl _) _).trans (hb2.mono (by simp))⟩
end Go.Proofs.Qxb6600948a
