import Derived.Test.Qxb6600948aLaw3
namespace Go.Proofs.Qxb6600948a
open Go.ChangeShapes Go.WideShapes Go.ChangeAt Go.RowKit
set_option linter.unusedVariables false

theorem Ra.cell {w : World} {a : Option Addr} {n : Nat} {zs : List Int} (h : Ra w a n zs) {j : Nat} (hj : j < n) : ∃ b, a = some ⟨b, 0, none⟩ ∧ b < w.heap.size ∧ w.cell? ⟨b, j, none⟩ = some (.int .i64 (nth zs j)) := by
  obtain ⟨b, h1, h2, h3⟩ := h.at_ (by omega)
  have := h3 j (by rw [h.len]; exact hj)
  rw [Nat.zero_add] at this
  exact ⟨b, h1, h2, this⟩

set_option maxRecDepth 100000 in
set_option maxHeartbeats 8000000 in
theorem law3_main (a0 a1 a2 : Option Addr) (n m c0 c1 c2 : Nat) (ps qs rs : List Int) (w : World) (hn : n ≤ 4096) (hm : m ≤ 4096) (r0 : Rw w a0 n c0 ps) (r1 : Rw w a1 n c1 qs) (r2 : Rw w a2 m c2 rs) :
    Calls Try.prog 3 #[.slice a0 n c0, .slice a1 n c1, .slice a2 m c2] w fun e w' => e = .returned (.bool true) ∧ Below w.heap.size w w' := by
  have hmk := fun w => makeMap25 n w hn
  have hmm := @run_makeMap Try.prog
  have R0 := hide r0
  have R1 := hide r1
  have R2 := hide r2
  clear r0 r1 r2
  go_enter Try.func3, Try.ntmps3
  go_wp2_with fail
  refine (bytes8 _ _ _ _ _ _ _ _ _ (by unfold maxLen; omega) (by unfold maxLen; omega) (by unfold maxLen; omega) _).mono ?_
  rintro e w' ⟨r, rfl, rfl⟩
  cases r
  · go_wp2
    go_ret
    exact ⟨rfl, Below.refl _ _⟩
  · go_wp2_with fail
    refine (clone_any a0 n c0 ps w (unhide R0) hn).mono ?_
    rintro e w1 ⟨b0, rfl, ra0, hb1⟩
    go_wp2_with fail
    refine (clone_any a1 n c1 qs w1 ((unhide R1).below hb1) hn).mono ?_
    rintro e w2 ⟨b1, rfl, ra1, hb2⟩
    go_wp2_with fail
    refine (clone_any a2 m c2 rs w2 (((unhide R2).below hb1).below hb2) hm).mono ?_
    rintro e w3 ⟨b2, rfl, ra2, hb3⟩
    have A0 := hide ((ra0.below hb2).below hb3)
    have A1 := hide (ra1.below hb3)
    have A2 := hide ra2
    have HB3 := hide (below_up (below_up hb1 hb2) hb3)
    clear ra0 ra1 ra2 hb1 hb2 hb3 R0 R1 R2
    go_wp2
    go_loopw [9] (fun i wr => ∃ k s : Nat, k ≤ n ∧ i = .int .i64 k ∧ FM intE wr w3.heap.size k (tab (nth ps) (nth qs) k) s ∧ Below w3.heap.size w3 wr) (fun i _ => n - (intOf i).toNat)
    case atStart => exact ⟨0, 0, Nat.zero_le _, rfl, FM.made _ _, (Below.refl _ _).alloc (Nat.le_refl _) _⟩
    case round =>
      obtain ⟨k, s, hk, rfl, hfm, hbl⟩ := hrel
      by_cases hlt : k < n
      · obtain ⟨d0, rfl, hd0, cx0⟩ := (unhide A0).cell hlt
        obtain ⟨d1, rfl, hd1, cy0⟩ := (unhide A1).cell hlt
        obtain ⟨x, hx⟩ : ∃ x, x = nth ps k := ⟨_, rfl⟩
        obtain ⟨y, hy⟩ : ∃ y, y = nth qs k := ⟨_, rfl⟩
        have ox : I64 x := by rw [hx]; exact (unhide A0).ok k hlt
        have oy : I64 y := by rw [hy]; exact (unhide A1).ok k hlt
        rw [← hx] at cx0
        rw [← hy] at cy0
        have cx : wr.cell? ⟨d0, k, none⟩ = some (.int .i64 x) := (hbl.cell (p := ⟨d0, k, none⟩) hd0).trans cx0
        have cy : wr.cell? ⟨d1, k, none⟩ = some (.int .i64 y) := (hbl.cell (p := ⟨d1, k, none⟩) hd1).trans cy0
        obtain ⟨w5, hrun, hfm1, hg1⟩ := put25 (w := wr.drew) (a := y) hfm (by unfold maxLen; omega) ox oy
        have eu : upd (tab (nth ps) (nth qs) k) x y = tab (nth ps) (nth qs) (k + 1) := by rw [hx, hy]; rfl
        rw [eu] at hfm1
        have HF : Hid (∃ s', FM intE w5 w3.heap.size (k + 1) (tab (nth ps) (nth qs) (k + 1)) s') := hide ⟨_, hfm1⟩
        have HG := hide hg1
        have hki : (k : Int) < (n : Int) := by omega
        clear eu hfm1 hg1 hx hy hfm cx0 cy0
        go_wp2
        go_region
        all_goals
          go_wp2
          go_roundw
          case rel =>
            obtain ⟨s', hf'⟩ := unhide HF
            exact ⟨k + 1, s', by omega, by go_num, hf', hbl.drew.grown (unhide HG) hbl.size (fun j hj => by cases hj; exact Nat.le_refl _)⟩
          case measure => simp [intOf]; omega
      · obtain rfl : n = k := by omega
        obtain ⟨wo, hwo⟩ : ∃ wo, wo = wr := ⟨_, rfl⟩
        subst hwo
        have A0' := hide ((unhide A0).below hbl)
        have A1' := hide ((unhide A1).below hbl)
        have A2' := hide ((unhide A2).below hbl)
        have HBo := hide (below_up (unhide HB3) hbl)
        have HFo := hide hfm
        have hfl := hfm.lt
        clear A0 A1 A2 HB3 hbl hfm
        go_wp2
        go_loopw [11] (fun i wr => ∃ (k s : Nat) (g : Int → Option Bool), k ≤ m ∧ i = .int .i64 k ∧ FM boolE wr wo.heap.size k g s ∧ Hid (Sn g (rs.take k)) ∧ Below wo.heap.size wo wr) (fun i _ => m - (intOf i).toNat)
        case atStart => exact ⟨0, 0, _, Nat.zero_le _, rfl, FM.made _ _, hide (fun y => by simp), (Below.refl _ _).alloc (Nat.le_refl _) _⟩
        case round =>
          obtain ⟨k, s2, g, hk2, rfl, hfg, hsn, hbl⟩ := hrel
          by_cases hlt2 : k < m
          · obtain ⟨d0, rfl, hd0, cx0⟩ := (unhide A2').cell hlt2
            obtain ⟨x, hx⟩ : ∃ x, x = nth rs k := ⟨_, rfl⟩
            have ox : I64 x := by rw [hx]; exact (unhide A2').ok k hlt2
            rw [← hx] at cx0
            have cx : wr.cell? ⟨d0, k, none⟩ = some (.int .i64 x) := (hbl.cell (p := ⟨d0, k, none⟩) hd0).trans cx0
            obtain ⟨w5, hrun, hfm1, hg1⟩ := put26 (a := true) hfg (by unfold maxLen; omega) ox
            have HS : Hid (Sn (upd g x true) (rs.take (k + 1))) := by
              rw [hx]
              exact hide (sn_take (unhide hsn) (by rw [(unhide A2').len]; exact hlt2))
            have HF := hide hfm1
            have HG := hide hg1
            clear hfm1 hg1 hx hfg cx0
            go_wp2
            go_roundw
            case rel => exact ⟨k + 1, _, _, by omega, by go_num, unhide HF, HS, hbl.grown (unhide HG) hbl.size (fun j hj => by cases hj; exact Nat.le_refl _)⟩
            case measure => simp [intOf]; omega
          · obtain rfl : m = k := by omega
            have hsn' : Sn g rs := by
              have := unhide hsn
              rwa [List.take_of_length_le (by rw [(unhide A2').len]; exact Nat.le_refl _)] at this
            go_wp2_with fail
            refine (zztree b0 b1 b2 n m ps qs rs wr hn hm ((unhide A0').below hbl) ((unhide A1').below hbl) ((unhide A2').below hbl)).mono ?_
            rintro e w4 ⟨L, o1, o2, l, rfl, hout, hl, raL, raM, hb4⟩
            obtain ⟨f, hf⟩ : ∃ f, f = tab (nth ps) (nth qs) n := ⟨_, rfl⟩
            have hbo4 := below_up hbl hb4
            have hfm4 := (unhide HFo).below hbo4 hfl
            have hfg4 := hfg.below hb4 hfg.lt
            rw [← hf] at hfm4 hout raM
            have hspec : ∀ x z, f x = some z → ∃ j, j < n ∧ nth ps j = x ∧ nth qs j = z := fun x z h => by
              rw [hf] at h
              obtain ⟨j, h1, h2, h3, _⟩ := (tab_spec _ _ n x z).1 h
              exact ⟨j, h1, h2, h3⟩
            have HFI : Hid (∀ y z, f y = some z → I64 z) := hide (fun y z h => by
              obtain ⟨j, h1, _, h3⟩ := hspec y z h
              rw [← h3]
              exact (unhide A1').ok j h1)
            have HFM := hide hfm4
            have HFG := hide hfg4
            have HSN := hide hsn'
            have HOUT := hide hout
            have RL := hide raL
            have RM := hide raM
            have R0 := hide (((unhide A0').below hbo4))
            have R2 := hide (((unhide A2').below hbo4))
            have HB4 := hide (below_up (unhide HBo) hbo4)
            have hq0 : w3.heap.size < w4.heap.size := Nat.lt_of_lt_of_le hfl hbo4.size
            have hq1 : wo.heap.size < w4.heap.size := hfg4.lt
            clear hf hbo4 hfm4 hfg4 hspec hsn' hout raL raM hb4 hbl hfg A0' A1' A2' HBo HFo hsn hfl
            go_wp2
            go_loopw [15, 16, 17, 18] (fun i _ _ _ wr => ∃ (k s : Nat) (sf : Int → Option Bool), k ≤ l ∧ i = .int .i64 k ∧ FM boolE wr w4.heap.size k sf s ∧ Hid (Sn sf (L.take k)) ∧ Below w4.heap.size w4 wr) (fun i _ _ _ _ => l - (intOf i).toNat)
            case atStart => exact ⟨0, 0, _, Nat.zero_le _, rfl, FM.made _ _, hide (fun y => by simp), (Below.refl _ _).alloc (Nat.le_refl _) _⟩
            case round =>
              obtain ⟨k, s3, sf, hk3, rfl, hfs, hsn, hbl⟩ := hrel
              by_cases hlt3 : k < l
              · have hLl := (unhide RL).len
                obtain ⟨d0, rfl, hd0, cx0⟩ := (unhide RL).cell hlt3
                obtain ⟨d1, rfl, hd1, cy0⟩ := (unhide RM).cell hlt3
                obtain ⟨x, hx⟩ : ∃ x, x = nth L k := ⟨_, rfl⟩
                have hxL : x ∈ L := by rw [hx]; exact nth_mem L k (by omega)
                have hre : Reach f rs x := ((unhide HOUT).mem x).1 hxL
                obtain ⟨y, hy⟩ := hre.some
                have hyM : nth (L.map (fun x => (f x).getD 0)) k = y := by
                  have hk' : k < L.length := by omega
                  have e1 : nth (L.map (fun x => (f x).getD 0)) k = (f (nth L k)).getD 0 := by simp [nth, List.getD, List.getElem?_eq_getElem hk']
                  rw [e1, ← hx, hy]
                  rfl
                have ox : I64 x := by rw [hx]; exact (unhide RL).ok k hlt3
                rw [← hx] at cx0
                rw [hyM] at cy0
                have hnew : x ∉ L.take k := by rw [hx]; exact nodup_new (unhide HOUT).nodup (by omega)
                have cx : wr.cell? ⟨d0, k, none⟩ = some (.int .i64 x) := (hbl.cell (p := ⟨d0, k, none⟩) hd0).trans cx0
                have hls := look26 hfs ox
                rw [unhide hsn x] at hls
                simp only [hnew, decide_false] at hls
                obtain ⟨w5, hrun, hfm1, hg1⟩ := put26 (a := true) hfs (by unfold maxLen; omega) ox
                have hb5 : Below w4.heap.size w4 w5 := hbl.grown hg1 hbl.size (fun j hj => by cases hj; exact Nat.le_refl _)
                have cy : w5.cell? ⟨d1, k, none⟩ = some (.int .i64 y) := (hb5.cell (p := ⟨d1, k, none⟩) hd1).trans cy0
                have hlp := look25ok ((unhide HFM).below hb5 hq0) ox
                rw [hy] at hlp
                simp only [Option.getD_some, Option.isSome_some] at hlp
                have HS : Hid (Sn (upd sf x true) (L.take (k + 1))) := by
                  rw [hx]
                  exact hide (sn_take (unhide hsn) (by omega))
                have HF := hide hfm1
                have HB5 := hide hb5
                have HRE := hide hre
                have hyy : (y != y) = false := by simp
                clear hfm1 hg1 hx hfs cx0 cy0 hy hyM hre hnew hxL hb5 hbl
                go_wp2_with fail
                refine (below_11 w3.heap.size wo.heap.size n m n s s2 f g rs x w5 ((unhide HFM).below (unhide HB5) hq0) ((unhide HFG).below (unhide HB5) hq1) (unhide HSN) (Nat.le_refl _) hn ox (unhide HFI) true ⟨fun _ => unhide HRE, fun _ => rfl⟩).mono ?_
                rintro e w6 ⟨rfl, rfl⟩
                go_wp2
                go_roundw
                case rel => exact ⟨k + 1, _, _, by omega, by go_num, unhide HF, HS, unhide HB5⟩
                case measure => simp [intOf]; omega
              · obtain rfl : l = k := by omega
                obtain ⟨wx, hwx⟩ : ∃ wx, wx = wr := ⟨_, rfl⟩
                subst hwx
                have hLl := (unhide RL).len
                have HSL : Hid (Sn sf L) := hide (by
                  have := unhide hsn
                  rwa [List.take_of_length_le (by omega)] at this)
                have HFM' := hide ((unhide HFM).below hbl hq0)
                have HFG' := hide ((unhide HFG).below hbl hq1)
                have RL' := hide ((unhide RL).below hbl)
                have R0' := hide ((unhide R0).below hbl)
                have R2' := hide ((unhide R2).below hbl)
                have HFS := hide hfs
                have HBX := hide (below_up (unhide HB4) hbl)
                have hq0' : w3.heap.size < wx.heap.size := (unhide HFM').lt
                have hq1' : wo.heap.size < wx.heap.size := (unhide HFG').lt
                clear hbl hfs hsn HFM HFG RL R0 R2 RM HB4
                go_wp2
                go_loop [19] (fun i => ∃ k : Nat, k ≤ n ∧ i = .int .i64 k) (fun i => n - (intOf i).toNat)
                case atStart => exact ⟨0, Nat.zero_le _, rfl⟩
                case round =>
                  obtain ⟨k, hk4, rfl⟩ := hrel
                  by_cases hlt4 : k < n
                  · obtain ⟨d0, rfl, hd0, cx0⟩ := (unhide R0').cell hlt4
                    obtain ⟨x, hx⟩ : ∃ x, x = nth ps k := ⟨_, rfl⟩
                    have ox : I64 x := by rw [hx]; exact (unhide R0').ok k hlt4
                    rw [← hx] at cx0
                    have hls := look26 (unhide HFS) ox
                    rw [unhide HSL x] at hls
                    by_cases hre : Reach f rs x
                    · have hin : x ∈ L := ((unhide HOUT).mem x).2 hre
                      simp only [hin, decide_true] at hls
                      have HRE := hide hre
                      clear hx hin hre
                      go_wp2_with fail
                      refine (below_11 w3.heap.size wo.heap.size n m n s s2 f g rs x wx (unhide HFM') (unhide HFG') (unhide HSN) (Nat.le_refl _) hn ox (unhide HFI) true ⟨fun _ => unhide HRE, fun _ => rfl⟩).mono ?_
                      rintro e w6 ⟨rfl, rfl⟩
                      go_wp2
                      go_round
                      case rel => exact ⟨k + 1, by omega, by go_num⟩
                      case measure => simp [intOf]; omega
                    · have HRE := hide hre
                      clear hx hre hls
                      go_wp2_with fail
                      refine (below_11 w3.heap.size wo.heap.size n m n s s2 f g rs x wx (unhide HFM') (unhide HFG') (unhide HSN) (Nat.le_refl _) hn ox (unhide HFI) false ⟨(fun h => by cases h), fun h => absurd h (unhide HRE)⟩).mono ?_
                      rintro e w6 ⟨rfl, rfl⟩
                      go_wp2
                      go_round
                      case rel => exact ⟨k + 1, by omega, by go_num⟩
                      case measure => simp [intOf]; omega
                  · obtain rfl : n = k := by omega
                    have hrl := (unhide R2').len
                    go_wp2
                    go_loopw [20, 22, 23, 24, 25] (fun kk i _ _ _ wr => ∃ (j s5 D : Nat) (ff : Int → Option Bool), j ≤ m ∧ i = .int .i64 j ∧ kk = .int .i64 D ∧ Hid (D = (Dr f (rs.take j)).length) ∧ FM boolE wr wx.heap.size j ff s5 ∧ Hid (Sn ff (rs.take j)) ∧ Below wx.heap.size wx wr) (fun _ i _ _ _ _ => m - (intOf i).toNat)
                    case atStart => exact ⟨0, 0, 0, _, Nat.zero_le _, rfl, rfl, hide (by simp [Dr]), FM.made _ _, hide (fun y => by simp), (Below.refl _ _).alloc (Nat.le_refl _) _⟩
                    case round =>
                      obtain ⟨j, s5, D, ff, hj, rfl, rfl, hD, hff, hsf, hbl⟩ := hrel
                      by_cases hlt5 : j < m
                      · obtain ⟨d0, rfl, hd0, cx0⟩ := (unhide R2').cell hlt5
                        obtain ⟨x, hx⟩ : ∃ x, x = nth rs j := ⟨_, rfl⟩
                        have ox : I64 x := by rw [hx]; exact (unhide R2').ok j hlt5
                        rw [← hx] at cx0
                        have cx : wr.cell? ⟨d0, j, none⟩ = some (.int .i64 x) := (hbl.cell (p := ⟨d0, j, none⟩) hd0).trans cx0
                        have hls := look26 hff ox
                        rw [unhide hsf x] at hls
                        have hj' : j < rs.length := by omega
                        by_cases hold : x ∈ rs.take j
                        · simp only [hold, decide_true] at hls
                          have HS : Hid (Sn ff (rs.take (j + 1))) := hide (sn_old (unhide hsf) hj' (by rw [← hx]; exact hold))
                          have HD : Hid (D = (Dr f (rs.take (j + 1))).length) := hide (by rw [first_old hj' (.inl (by rw [← hx]; exact hold))]; exact unhide hD)
                          clear hx hold cx0 hj'
                          go_wp2
                          go_roundw
                          case rel => exact ⟨j + 1, s5, D, ff, by omega, by go_num, rfl, HD, hff.mono (by omega), HS, hbl⟩
                          case measure => simp [intOf]; omega
                        · simp only [hold, decide_false] at hls
                          obtain ⟨w5, hrun, hfm1, hg1⟩ := put26 (a := true) hff (by unfold maxLen; omega) ox
                          have hb5 : Below wx.heap.size wx w5 := hbl.grown hg1 hbl.size (fun i hi => by cases hi; exact Nat.le_refl _)
                          have HS : Hid (Sn (upd ff x true) (rs.take (j + 1))) := by
                            rw [hx]
                            exact hide (sn_take (unhide hsf) hj')
                          have hlp := look25ok ((unhide HFM').below hb5 hq0') ox
                          have HF := hide hfm1
                          have HB5 := hide hb5
                          cases hfx : f x with
                          | none =>
                            rw [hfx] at hlp
                            simp only [Option.getD_none, Option.isSome_none] at hlp
                            have HD : Hid (D = (Dr f (rs.take (j + 1))).length) := hide (by rw [first_old hj' (.inr (by rw [← hx]; exact hfx))]; exact unhide hD)
                            clear hx hold cx0 hj' hfx hfm1 hg1 hb5 hff hbl
                            go_wp2
                            go_roundw
                            case rel => exact ⟨j + 1, _, D, _, by omega, by go_num, rfl, HD, unhide HF, HS, unhide HB5⟩
                            case measure => simp [intOf]; omega
                          | some z =>
                            rw [hfx] at hlp
                            simp only [Option.getD_some, Option.isSome_some] at hlp
                            obtain ⟨e1, e2, e3⟩ := first_new (unhide HOUT).pre hj' (by rw [← hx]; exact hold) (by rw [← hx, hfx]; rfl)
                            rw [← unhide hD] at e1 e2 e3
                            rw [← hx] at e2
                            have hDl : D < l := by omega
                            obtain ⟨d2, rfl, hd2, cl0⟩ := (unhide RL').cell hDl
                            rw [e2] at cl0
                            have cl : w5.cell? ⟨d2, D, none⟩ = some (.int .i64 x) := (hb5.cell (p := ⟨d2, D, none⟩) hd2).trans cl0
                            have HD := hide e3.symm
                            have hxx : (x != x) = false := by simp
                            have hDi : (D : Int) < (l : Int) := by omega
                            clear hx hold cx0 hj' hfx hfm1 hg1 hb5 hff hbl e1 e2 e3 cl0
                            go_wp2
                            go_roundw
                            case rel => exact ⟨j + 1, _, D + 1, _, by omega, by go_num, by go_num, HD, unhide HF, HS, unhide HB5⟩
                            case measure => simp [intOf]; omega
                      · clear hff
                        go_wp2
                        go_ret
                        exact ⟨rfl, below_up (unhide HBX) hbl⟩
end Go.Proofs.Qxb6600948a
