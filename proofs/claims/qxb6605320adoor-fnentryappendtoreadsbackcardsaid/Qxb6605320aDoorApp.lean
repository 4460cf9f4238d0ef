import Derived.Test.Qxb6605320aDoorEntry
namespace Go.Proofs.Qxb6605320aDoor
open Go.ChangeShapes Go.WideShapes Go.ChangeAt Go.RowKit Go.Lib Go.Sort
set_option linter.unusedVariables false

/-- The record. -/
def rec (slot : Nat) (client : ByteArray) (seq : Nat) (op : ByteArray) : List Int :=
  digI slot ++ [32] ++ digI client.size ++ [32] ++ strI client ++ [32] ++ digI seq ++ [32] ++ digI op.size ++ [32] ++ strI op ++ [10]

set_option maxHeartbeats 4000000 in
theorem appendTo_any (slot seq : Nat) (until_ tm : Int) (client op remove add : ByteArray) (isMain : Bool) (ao : Option Addr) (zs : List Int) (w : World)
    (h1 : slot < 18446744073709551616) (h2 : seq < 18446744073709551616) (h3 : client.size ≤ 1048576) (h4 : op.size ≤ 1048576)
    (hnone : ao = none → zs = []) (hc : ∀ x, ao = some x → ∀ j v, (Cz zs)[j]? = some v → w.cell? (x.add j) = some v) (hx : ∀ x, ao = some x → 0 < zs.length → x.block < w.heap.size) (hn : zs.length ≤ 1048576)
    (htab : Lib.TabIs Tryd.prog w "internal/strconv.uint64pow10" .u64 Lib.pow10Tab) :
    Calls Tryd.prog 8 #[.agg #[.int .u64 slot, .string client, .int .u64 seq, .string op, .slice none 0 0, .int .u64 until_, .string remove, .string add, .bool isMain, .slice none 0 0, .int .u64 tm], .slice ao zs.length zs.length] w fun e w' =>
      ∃ v' L', e = .returned v' ∧ L' = zs ++ rec slot client seq op ∧ Own w' w.heap.size v' L' ∧ Below w.heap.size w w' := by
  have HN := hide hnone
  have HC := hide hc
  have HX := hide hx
  clear hnone hc hx
  go_enter Tryd.func8, Tryd.ntmps8
  go_wp2_with fail
  generalize hW : World.alloc (World.alloc w _) _ = W
  have c0 : W.cell? ⟨w.heap.size + 1, 0, none⟩ = some (.string client) := by rw [← hW]; simp
  have c1 : W.cell? ⟨w.heap.size + 1, 1, none⟩ = some (.int .u64 seq) := by rw [← hW]; simp
  have c2 : W.cell? ⟨w.heap.size + 1, 2, none⟩ = some (.string op) := by rw [← hW]; simp
  have hWs : W.heap.size = w.heap.size + 2 := by rw [← hW]; simp
  have hbW : Below w.heap.size w W := by rw [← hW]; exact ((Below.refl _ _).alloc (Nat.le_refl _) _).alloc (by simp) _
  have htW : Lib.TabIs Tryd.prog W "internal/strconv.uint64pow10" .u64 Lib.pow10Tab := by rw [← hW]; exact Lib.tabIs_alloc (Lib.tabIs_alloc htab _) _
  clear hW htab
  have HT : Hid (Lib.TabBelow Tryd.prog W.heap.size W "internal/strconv.uint64pow10" .u64 Lib.pow10Tab) := hide (tabBelow_of_tabIs htW)
  have HW := hide hbW
  have HS := hide hWs
  have hlt : w.heap.size + 1 < W.heap.size := by omega
  refine (uint_first ao zs slot W h1 (unhide HN) (fun x h j v hj => ?_) (fun x h h0 => ?_) hn htW).mono ?_
  · have hl := (List.getElem?_eq_some_iff.1 hj).1
    rw [Cz_length] at hl
    exact ((unhide HW).cell (p := x.add j) (by rw [add_block]; exact unhide HX x h (by omega))).trans (unhide HC x h j v hj)
  · have := unhide HX x h h0
    omega
  rintro e w1 ⟨v1, L1, rfl, hp1, hl1, ho1, hb1⟩
  clear hbW hWs htW
  have hs1 := hb1.size
  have d1 := (hb1.cell (p := ⟨w.heap.size + 1, 0, none⟩) hlt).trans c0
  have e1 := (hb1.cell (p := ⟨w.heap.size + 1, 1, none⟩) hlt).trans c1
  have f1 := (hb1.cell (p := ⟨w.heap.size + 1, 2, none⟩) hlt).trans c2
  go_wp2_with (at_builtin; refine wp_byte w1 rfl _ _ rfl W.heap.size v1 L1 rfl ho1 32 rfl (by omega) hs1 ?_)
  intro v2 L2 w2 hp2 hl2 ho2 hg2
  have hb2 := hb1.trans hg2
  have hs2 := Nat.le_trans hs1 hg2.size
  clear d1 e1 f1 hg2
  have d2 := (hb2.cell (p := ⟨w.heap.size + 1, 0, none⟩) hlt).trans c0
  have e2 := (hb2.cell (p := ⟨w.heap.size + 1, 1, none⟩) hlt).trans c1
  have f2 := (hb2.cell (p := ⟨w.heap.size + 1, 2, none⟩) hlt).trans c2
  go_wp2_with fail
  refine (int_next W.heap.size client.size (by omega) v2 L2 w2 ho2 hs2 (by omega) ((unhide HT).on hb2)).mono ?_
  rintro e w3 ⟨v3, L3, rfl, hp3, hl3, ho3, hg3⟩
  have hb3 := hb2.trans hg3
  have hs3 := Nat.le_trans hs2 hg3.size
  clear d2 e2 f2 hg3
  have d3 := (hb3.cell (p := ⟨w.heap.size + 1, 0, none⟩) hlt).trans c0
  have e3 := (hb3.cell (p := ⟨w.heap.size + 1, 1, none⟩) hlt).trans c1
  have f3 := (hb3.cell (p := ⟨w.heap.size + 1, 2, none⟩) hlt).trans c2
  go_wp2_with (at_builtin; refine wp_byte w3 rfl _ _ rfl W.heap.size v3 L3 rfl ho3 32 rfl (by omega) hs3 ?_)
  intro v4 L4 w4 hp4 hl4 ho4 hg4
  have hb4 := hb3.trans hg4
  have hs4 := Nat.le_trans hs3 hg4.size
  clear d3 e3 f3 hg4
  have d4 := (hb4.cell (p := ⟨w.heap.size + 1, 0, none⟩) hlt).trans c0
  have e4 := (hb4.cell (p := ⟨w.heap.size + 1, 1, none⟩) hlt).trans c1
  have f4 := (hb4.cell (p := ⟨w.heap.size + 1, 2, none⟩) hlt).trans c2
  go_wp2_with (at_builtin; refine wp_str w4 rfl _ _ rfl W.heap.size v4 L4 rfl ho4 client rfl (by omega) (by omega) hs4 ?_)
  intro v5 L5 w5 hp5 hl5 ho5 hg5
  have hb5 := hb4.trans hg5
  have hs5 := Nat.le_trans hs4 hg5.size
  clear d4 e4 f4 hg5
  have d5 := (hb5.cell (p := ⟨w.heap.size + 1, 0, none⟩) hlt).trans c0
  have e5 := (hb5.cell (p := ⟨w.heap.size + 1, 1, none⟩) hlt).trans c1
  have f5 := (hb5.cell (p := ⟨w.heap.size + 1, 2, none⟩) hlt).trans c2
  go_wp2_with (at_builtin; refine wp_byte w5 rfl _ _ rfl W.heap.size v5 L5 rfl ho5 32 rfl (by omega) hs5 ?_)
  intro v6 L6 w6 hp6 hl6 ho6 hg6
  have hb6 := hb5.trans hg6
  have hs6 := Nat.le_trans hs5 hg6.size
  clear d5 e5 f5 hg6
  have d6 := (hb6.cell (p := ⟨w.heap.size + 1, 0, none⟩) hlt).trans c0
  have e6 := (hb6.cell (p := ⟨w.heap.size + 1, 1, none⟩) hlt).trans c1
  have f6 := (hb6.cell (p := ⟨w.heap.size + 1, 2, none⟩) hlt).trans c2
  go_wp2_with fail
  refine (uint_next W.heap.size seq h2 v6 L6 w6 ho6 hs6 (by omega) ((unhide HT).on hb6)).mono ?_
  rintro e w7 ⟨v7, L7, rfl, hp7, hl7, ho7, hg7⟩
  have hb7 := hb6.trans hg7
  have hs7 := Nat.le_trans hs6 hg7.size
  clear d6 e6 f6 hg7
  have d7 := (hb7.cell (p := ⟨w.heap.size + 1, 0, none⟩) hlt).trans c0
  have e7 := (hb7.cell (p := ⟨w.heap.size + 1, 1, none⟩) hlt).trans c1
  have f7 := (hb7.cell (p := ⟨w.heap.size + 1, 2, none⟩) hlt).trans c2
  go_wp2_with (at_builtin; refine wp_byte w7 rfl _ _ rfl W.heap.size v7 L7 rfl ho7 32 rfl (by omega) hs7 ?_)
  intro v8 L8 w8 hp8 hl8 ho8 hg8
  have hb8 := hb7.trans hg8
  have hs8 := Nat.le_trans hs7 hg8.size
  clear d7 e7 f7 hg8
  have d8 := (hb8.cell (p := ⟨w.heap.size + 1, 0, none⟩) hlt).trans c0
  have e8 := (hb8.cell (p := ⟨w.heap.size + 1, 1, none⟩) hlt).trans c1
  have f8 := (hb8.cell (p := ⟨w.heap.size + 1, 2, none⟩) hlt).trans c2
  go_wp2_with fail
  refine (int_next W.heap.size op.size (by omega) v8 L8 w8 ho8 hs8 (by omega) ((unhide HT).on hb8)).mono ?_
  rintro e w9 ⟨v9, L9, rfl, hp9, hl9, ho9, hg9⟩
  have hb9 := hb8.trans hg9
  have hs9 := Nat.le_trans hs8 hg9.size
  clear d8 e8 f8 hg9
  have d9 := (hb9.cell (p := ⟨w.heap.size + 1, 0, none⟩) hlt).trans c0
  have e9 := (hb9.cell (p := ⟨w.heap.size + 1, 1, none⟩) hlt).trans c1
  have f9 := (hb9.cell (p := ⟨w.heap.size + 1, 2, none⟩) hlt).trans c2
  go_wp2_with (at_builtin; refine wp_byte w9 rfl _ _ rfl W.heap.size v9 L9 rfl ho9 32 rfl (by omega) hs9 ?_)
  intro v10 L10 w10 hp10 hl10 ho10 hg10
  have hb10 := hb9.trans hg10
  have hs10 := Nat.le_trans hs9 hg10.size
  clear d9 e9 f9 hg10
  have d10 := (hb10.cell (p := ⟨w.heap.size + 1, 0, none⟩) hlt).trans c0
  have e10 := (hb10.cell (p := ⟨w.heap.size + 1, 1, none⟩) hlt).trans c1
  have f10 := (hb10.cell (p := ⟨w.heap.size + 1, 2, none⟩) hlt).trans c2
  go_wp2_with (at_builtin; refine wp_str w10 rfl _ _ rfl W.heap.size v10 L10 rfl ho10 op rfl (by omega) (by omega) hs10 ?_)
  intro v11 L11 w11 hp11 hl11 ho11 hg11
  have hb11 := hb10.trans hg11
  have hs11 := Nat.le_trans hs10 hg11.size
  clear d10 e10 f10 hg11
  have d11 := (hb11.cell (p := ⟨w.heap.size + 1, 0, none⟩) hlt).trans c0
  have e11 := (hb11.cell (p := ⟨w.heap.size + 1, 1, none⟩) hlt).trans c1
  have f11 := (hb11.cell (p := ⟨w.heap.size + 1, 2, none⟩) hlt).trans c2
  go_wp2_with (at_builtin; refine wp_byte w11 rfl _ _ rfl W.heap.size v11 L11 rfl ho11 10 rfl (by omega) hs11 ?_)
  intro v12 L12 w12 hp12 hl12 ho12 hg12
  have hb12 := hb11.trans hg12
  have hs12 := Nat.le_trans hs11 hg12.size
  clear d11 e11 f11 hg12
  go_wp2
  go_ret
  refine ⟨v12, L12, rfl, ?_, ownsRow_mono ho12 (by omega), (unhide HW).trans (hb12.mono (by omega))⟩
  unfold Plus at *
  subst hp1 hp2 hp3 hp4 hp5 hp6 hp7 hp8 hp9 hp10 hp11 hp12
  simp only [rec, List.append_assoc]
end Go.Proofs.Qxb6605320aDoor
