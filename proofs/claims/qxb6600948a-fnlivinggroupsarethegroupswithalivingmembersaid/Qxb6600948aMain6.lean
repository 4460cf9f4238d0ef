import Derived.Test.Qxb6600948aLaw6
namespace Go.Proofs.Qxb6600948a
open Go.ChangeShapes Go.WideShapes Go.ChangeAt Go.RowKit
set_option linter.unusedVariables false

theorem rd_nth {k : IntKind} {w : World} {b n : Nat} {zs : List Int} (h : Rd k w b 0 zs) (hl : zs.length = n) (j : Nat) (hj : j < n) : w.cell? ⟨b, j, none⟩ = some (.int k (nth zs j)) := by
  have := h j (by omega)
  rwa [Nat.zero_add] at this

set_option maxRecDepth 100000 in
set_option maxHeartbeats 4000000 in
theorem law6_main (b0 o0 c0 b1 o1 c1 b2 o2 c2 n : Nat) (ps gs ss : List Int) (w : World) (hn0 : 0 < n) (hn : n ≤ 4096) (lp : ps.length = n) (lg : gs.length = n) (ls : ss.length = n) (rp : Rd .i64 w b0 o0 ps) (rg : Rd .i64 w b1 o1 gs) (rs : Rd .u8 w b2 o2 ss)
    (op : ∀ j, j < n → I64 (nth ps j)) (og : ∀ j, j < n → I64 (nth gs j)) (os : ∀ j, j < n → 0 ≤ nth ss j ∧ nth ss j ≤ 255) (hp : b0 < w.heap.size) (hg : b1 < w.heap.size) (hs : b2 < w.heap.size) :
    Calls Try.prog 6 #[.slice (some ⟨b0, o0, none⟩) n c0, .slice (some ⟨b1, o1, none⟩) n c1, .slice (some ⟨b2, o2, none⟩) n c2] w fun e w' => e = .returned (.bool true) ∧ Below w.heap.size w w' := by
  have hmk := fun w => makeMap25 n w hn
  have RP := hide rp
  have RG := hide rg
  have RS := hide rs
  have LP := hide lp
  have LG := hide lg
  have LS := hide ls
  have OP := hide op
  have OG := hide og
  have OS := hide os
  clear rp rg rs lp lg ls op og os
  go_enter Try.func6, Try.ntmps6
  go_wp2_with fail
  refine (bytes14 _ _ _ _ _ _ _ _ _ (by unfold maxLen; omega) (by unfold maxLen; omega) (by unfold maxLen; omega) _).mono ?_
  rintro e w' ⟨r, rfl, rfl⟩
  cases r
  · go_wp2
    go_ret
    exact ⟨rfl, Below.refl _ _⟩
  · go_wp2_with fail
    refine (clone_9 b0 o0 n c0 ps w (unhide LP) (unhide RP) hn hp).mono ?_
    rintro e w1 ⟨rfl, rp1, hb1, hs1⟩
    go_wp2_with fail
    refine (clone_9 b1 o1 n c1 gs w1 (unhide LG) ((unhide RG).below hb1 hg) hn (by omega)).mono ?_
    rintro e w2 ⟨rfl, rg2, hb2, hs2⟩
    go_wp2_with fail
    refine (clone_15 b2 o2 n c2 ss w2 (unhide LS) (((unhide RS).below hb1 hs).below hb2 (by omega)) hn (by omega)).mono ?_
    rintro e w3 ⟨rfl, rs3, hb3, hs3⟩
    have rp3 := (rp1.below hb2 hs1).below hb3 (by omega)
    have rg3 := rg2.below hb3 hs2
    have hb03 := below_up (below_up hb1 hb2) hb3
    obtain ⟨P0, e0⟩ : ∃ x, x = w.heap.size := ⟨_, rfl⟩
    obtain ⟨P1, e1⟩ : ∃ x, x = w1.heap.size := ⟨_, rfl⟩
    obtain ⟨P2, e2⟩ : ∃ x, x = w2.heap.size := ⟨_, rfl⟩
    rw [← e0] at rp3
    rw [← e1] at rg3
    rw [← e2] at rs3
    have q0 : P0 < w3.heap.size := by omega
    have q1 : P1 < w3.heap.size := by omega
    have q2 : P2 < w3.heap.size := by omega
    rw [← e0, ← e1, ← e2]
    have HB3 := hide hb03
    have RP3 := hide rp3
    have RG3 := hide rg3
    have RS3 := hide rs3
    clear e0 e1 e2 rp1 rg2 rs3 rp3 rg3 hb1 hb2 hb3 hs1 hs2 hs3 hb03 RP RG RS
    go_wp2
    go_loopw [9] (fun i wr => ∃ k s : Nat, k ≤ n ∧ i = .int .i64 k ∧ FM intE wr w3.heap.size k (tab (nth ps) (fun j => (j : Int)) k) s ∧ Below w3.heap.size w3 wr) (fun i _ => n - (intOf i).toNat)
    case atStart => exact ⟨0, 0, Nat.zero_le _, rfl, FM.made _ _, (Below.refl _ _).alloc (Nat.le_refl _) _⟩
    case round =>
      obtain ⟨k, s, hk, rfl, hfm, hbl⟩ := hrel
      by_cases hlt : k < n
      · obtain ⟨x, hx⟩ : ∃ x, x = nth ps k := ⟨_, rfl⟩
        have cx : wr.cell? ⟨P0, k, none⟩ = some (.int .i64 x) := by rw [hx]; exact rd_nth ((unhide RP3).below hbl q0) (unhide LP) k hlt
        have ox : I64 x := by rw [hx]; exact unhide OP k hlt
        obtain ⟨w5, hrun, hfm1, hg1⟩ := put25 (a := (k : Int)) hfm (by unfold maxLen; omega) ox (i64_of (by omega) (by omega))
        have HF : Hid (FM intE w5 w3.heap.size (k + 1) (tab (nth ps) (fun j => (j : Int)) (k + 1)) (if (tab (nth ps) (fun j => (j : Int)) k x).isSome then s else s + 1)) := by
          rw [tab, ← hx]
          exact hide hfm1
        have HG := hide hg1
        clear hfm1 hg1 hx hfm
        go_wp2
        go_roundw
        case rel => exact ⟨k + 1, _, by omega, by go_num, unhide HF, hbl.grown (unhide HG) hbl.size (fun j hj => by cases hj; exact Nat.le_refl _)⟩
        case measure => simp [intOf]; omega
      · obtain rfl : n = k := by omega
        go_wp2_with fail
        refine (zzgroups P0 P1 P2 n ps gs ss wr hn (unhide LP) (unhide LG) (unhide LS) ((unhide RP3).below hbl q0) ((unhide RG3).below hbl q1) ((unhide RS3).below hbl q2) (unhide OP) (unhide OG) (unhide OS) (by have := hbl.size; omega) (by have := hbl.size; omega) (by have := hbl.size; omega)).mono ?_
        rintro e w4 ⟨B, g, sz, m, rfl, hB, hm, hfg, hgr, hb4⟩
        have hfl : FM intE w4 w3.heap.size n (tab (nth ps) (fun j => (j : Int)) n) s := hfm.below hb4 hfm.lt
        have hb34 := below_up hbl hb4
        have RP4 := hide ((unhide RP3).below hb34 q0)
        have RG4 := hide ((unhide RG3).below hb34 q1)
        have RS4 := hide ((unhide RS3).below hb34 q2)
        have HB := hide (below_up (unhide HB3) hb34)
        have HGL := hide (gr_liv _ _ _ _ _ hgr)
        have HG1 := hide hgr.2
        have HFG := hide hfg
        have HFL := hide hfl
        clear hfm hbl hb4 hfl hfg hgr hb34 RP3 RG3 RS3 HB3 hB
        have ROW : Hid (∀ m, m < n → ∃ x c y z, w4.cell? ⟨P0, m, none⟩ = some (.int .i64 x) ∧ w4.cell? ⟨P1, m, none⟩ = some (.int .i64 y) ∧ w4.cell? ⟨P2, m, none⟩ = some (.int .u8 z) ∧
            (Instr.lookup 25 (.map (some w3.heap.size)) (.int .i64 x) false).run Try.prog w4 = .ok (.int .i64 c) w4 ∧ Hid (nth gs m = y) ∧ Hid (Liv (nth ps) (nth ss) n m ↔ c = (m : Int) ∧ livB z = true)) :=
          hide (fun m hm => ⟨_, lastAt (nth ps) n m, _, _, rd_nth (unhide RP4) (unhide LP) m hm, rd_nth (unhide RG4) (unhide LG) m hm, rd_nth (unhide RS4) (unhide LS) m hm, look25 (unhide HFL) (unhide OP m hm), hide rfl, hide ⟨fun h => ⟨h.2.1, h.2.2⟩, fun h => ⟨hm, h.1, h.2⟩⟩⟩)
        go_wp2
        go_loop [11, 12] (fun ds i => ∃ (k : Nat) (cs : List Int), k ≤ n ∧ i = .int .i64 k ∧ ds = .int .i64 (cs.length : Int) ∧ cs.length ≤ k ∧ Hid (Cs (nth ps) (nth gs) (nth ss) n k cs)) (fun _ i => n - (intOf i).toNat)
        case atStart => exact ⟨0, [], Nat.zero_le _, rfl, rfl, Nat.le_refl _, hide (cs_zero _ _ _ _)⟩
        case round =>
          obtain ⟨k, cs, hk, rfl, rfl, hcl, hcs⟩ := hrel
          by_cases hlt : k < n
          · obtain ⟨xk, ck, y, zk, cxk, cy, czk, lookk, hgyk, hlivk⟩ := unhide ROW k hlt
            have oy : I64 y := by rw [← unhide hgyk]; exact unhide OG k hlt
            by_cases hW : ∃ j, j < n ∧ (Liv (nth ps) (nth ss) n j ∧ nth gs j = y)
            · obtain ⟨j0, hj0, ⟨hlj, hgj⟩, hmin⟩ := first_of hW
              have hsome : (g y).isSome = true := (unhide HGL y).2 ⟨j0, hlj, hgj⟩
              obtain ⟨v, hv⟩ := Option.isSome_iff_exists.1 hsome
              have hvt := unhide HG1 y v hv
              have lookg : (Instr.lookup 26 (.map (some B)) (.int .i64 y) true).run Try.prog w4 = .ok (.tuple #[.bool true, .bool true]) w4 := by
                have := look26ok (unhide HFG) oy
                rwa [hv, hvt] at this
              have HMIN := hide hmin
              have HLJ := hide hlj
              have HGJ := hide hgj
              clear hmin hlj hgj hW hsome hv hvt
              go_wp2
              go_loop [14, 15] (fun wt j => ∃ m : Nat, m ≤ j0 ∧ j = .int .i64 m ∧ wt = .bool false) (fun _ j => j0 - (intOf j).toNat)
              case atStart => exact ⟨0, Nat.zero_le _, rfl, rfl⟩
              case round =>
                obtain ⟨m, hm0, rfl, rfl⟩ := hrel
                by_cases hmj : m < j0
                · obtain ⟨x, c, y', z, cx, cy', cz, look, hgy, hliv⟩ := unhide ROW m (by omega)
                  by_cases hc : c = (m : Int)
                  · have hcb : (c == (m : Int)) = true := by simpa using hc
                    by_cases hgm : y' = y
                    · have hgb : (y' == y) = true := by simpa using hgm
                      have hlv : livB z = false := by
                        cases hl : livB z
                        · rfl
                        · exact absurd ⟨(unhide hliv).2 ⟨hc, hl⟩, (unhide hgy).trans hgm⟩ (unhide HMIN m hmj)
                      clear hc hgm
                      go_wp2_with (go_at_call 17; refine (living17 _ _).mono ?_; rintro e w' ⟨rfl, rfl⟩)
                      go_round
                      case rel => exact ⟨m + 1, by omega, by go_num, rfl⟩
                      case measure => simp [intOf]; omega
                    · have hgb : (y' == y) = false := by simpa using hgm
                      clear hc hgm
                      go_wp2
                      go_round
                      case rel => exact ⟨m + 1, by omega, by go_num, rfl⟩
                      case measure => simp [intOf]; omega
                  · have hcb : (c == (m : Int)) = false := by simpa using hc
                    clear hc
                    go_wp2
                    go_round
                    case rel => exact ⟨m + 1, by omega, by go_num, rfl⟩
                    case measure => simp [intOf]; omega
                · obtain rfl : j0 = m := by omega
                  obtain ⟨x, c, y', z, cx, cy', cz, look, hgy, hliv⟩ := unhide ROW j0 (by omega)
                  obtain ⟨hc, hlv⟩ := (unhide hliv).1 (unhide HLJ)
                  have hcb : (c == (j0 : Int)) = true := by simpa using hc
                  have hgb : (y' == y) = true := by simpa using (unhide hgy).symm.trans (unhide HGJ)
                  clear hc
                  by_cases hck : ck = (k : Int)
                  · have hckb : (ck == (k : Int)) = true := by simpa using hck
                    cases hlk : livB zk
                    · have hnl : Hid (¬ Liv (nth ps) (nth ss) n k) := hide (fun h => by
                        have := ((unhide hlivk).1 h).2
                        rw [hlk] at this
                        cases this)
                      clear hck
                      go_wp2_with (go_at_call 17; refine (living17 _ _).mono ?_; rintro e w' ⟨rfl, rfl⟩)
                      go_round
                      case rel => exact ⟨k + 1, cs, by omega, by go_num, rfl, by omega, hide (cs_skip (unhide hcs) (unhide hnl))⟩
                      case measure => simp [intOf]; omega
                    · have hLk : Hid (Liv (nth ps) (nth ss) n k) := hide ((unhide hlivk).2 ⟨hck, hlk⟩)
                      clear hck
                      by_cases hE : ∃ j, j < k ∧ (Liv (nth ps) (nth ss) n j ∧ nth gs j = y)
                      · obtain ⟨j1, hj1, ⟨hlj1, hgj1⟩, hmin1⟩ := first_of hE
                        have HMIN1 := hide hmin1
                        have HLJ1 := hide hlj1
                        have HGJ1 := hide hgj1
                        clear hE hmin1 hlj1 hgj1
                        go_wp2_with (go_at_call 17; refine (living17 _ _).mono ?_; rintro e w' ⟨rfl, rfl⟩)
                        go_loop [18, 19] (fun fo j => ∃ m : Nat, m ≤ j1 ∧ j = .int .i64 m ∧ fo = .bool true) (fun _ j => j1 - (intOf j).toNat)
                        case atStart => exact ⟨0, Nat.zero_le _, rfl, rfl⟩
                        case round =>
                          obtain ⟨m, hm1, rfl, rfl⟩ := hrel
                          by_cases hmj1 : m < j1
                          · obtain ⟨x, c, y', z, cx, cy', cz, look, hgy, hliv⟩ := unhide ROW m (by omega)
                            by_cases hc : c = (m : Int)
                            · have hcb : (c == (m : Int)) = true := by simpa using hc
                              cases hlv : livB z
                              · clear hc
                                go_wp2_with (go_at_call 17; refine (living17 _ _).mono ?_; rintro e w' ⟨rfl, rfl⟩)
                                go_round
                                case rel => exact ⟨m + 1, by omega, by go_num, rfl⟩
                                case measure => simp [intOf]; omega
                              · have hgb : (y' == y) = false := by
                                  have : y' ≠ y := fun hgm => absurd ⟨(unhide hliv).2 ⟨hc, hlv⟩, (unhide hgy).trans hgm⟩ (unhide HMIN1 m hmj1)
                                  simpa using this
                                clear hc
                                go_wp2_with (go_at_call 17; refine (living17 _ _).mono ?_; rintro e w' ⟨rfl, rfl⟩)
                                go_round
                                case rel => exact ⟨m + 1, by omega, by go_num, rfl⟩
                                case measure => simp [intOf]; omega
                            · have hcb : (c == (m : Int)) = false := by simpa using hc
                              clear hc
                              go_wp2
                              go_round
                              case rel => exact ⟨m + 1, by omega, by go_num, rfl⟩
                              case measure => simp [intOf]; omega
                          · obtain rfl : j1 = m := by omega
                            obtain ⟨x, c, y', z, cx, cy', cz, look, hgy, hliv⟩ := unhide ROW j1 (by omega)
                            obtain ⟨hc, hlv⟩ := (unhide hliv).1 (unhide HLJ1)
                            have hcb : (c == (j1 : Int)) = true := by simpa using hc
                            have hgb : (y' == y) = true := by simpa using (unhide hgy).symm.trans (unhide HGJ1)
                            clear hc
                            go_wp2_with (go_at_call 17; refine (living17 _ _).mono ?_; rintro e w' ⟨rfl, rfl⟩)
                            go_round
                            case rel => exact ⟨k + 1, cs, by omega, by go_num, rfl, by omega, hide (cs_old (unhide hcs) ⟨j1, by omega, unhide HLJ1, (unhide HGJ1).trans (unhide hgyk).symm⟩)⟩
                            case measure => simp [intOf]; omega
                      · have HE := hide hE
                        clear hE
                        go_wp2_with (go_at_call 17; refine (living17 _ _).mono ?_; rintro e w' ⟨rfl, rfl⟩)
                        go_loop [18, 19] (fun fo j => ∃ m : Nat, m ≤ k ∧ j = .int .i64 m ∧ fo = .bool true) (fun _ j => k - (intOf j).toNat)
                        case atStart => exact ⟨0, Nat.zero_le _, rfl, rfl⟩
                        case round =>
                          obtain ⟨m, hm1, rfl, rfl⟩ := hrel
                          by_cases hmj1 : m < k
                          · obtain ⟨x, c, y', z, cx, cy', cz, look, hgy, hliv⟩ := unhide ROW m (by omega)
                            by_cases hc : c = (m : Int)
                            · have hcb : (c == (m : Int)) = true := by simpa using hc
                              cases hlv : livB z
                              · clear hc
                                go_wp2_with (go_at_call 17; refine (living17 _ _).mono ?_; rintro e w' ⟨rfl, rfl⟩)
                                go_round
                                case rel => exact ⟨m + 1, by omega, by go_num, rfl⟩
                                case measure => simp [intOf]; omega
                              · have hgb : (y' == y) = false := by
                                  have : y' ≠ y := fun hgm => absurd ⟨(unhide hliv).2 ⟨hc, hlv⟩, (unhide hgy).trans hgm⟩ (fun hh => unhide HE ⟨m, hmj1, hh⟩)
                                  simpa using this
                                clear hc
                                go_wp2_with (go_at_call 17; refine (living17 _ _).mono ?_; rintro e w' ⟨rfl, rfl⟩)
                                go_round
                                case rel => exact ⟨m + 1, by omega, by go_num, rfl⟩
                                case measure => simp [intOf]; omega
                            · have hcb : (c == (m : Int)) = false := by simpa using hc
                              clear hc
                              go_wp2
                              go_round
                              case rel => exact ⟨m + 1, by omega, by go_num, rfl⟩
                              case measure => simp [intOf]; omega
                          · obtain rfl : k = m := by omega
                            go_wp2
                            go_round
                            case rel => exact ⟨k + 1, nth gs k :: cs, by omega, by go_num, by go_num, by simp; omega, hide (cs_new (unhide hcs) (unhide hLk) (fun ⟨j, a1, a2, a3⟩ => unhide HE ⟨j, a1, a2, a3.trans (unhide hgyk)⟩))⟩
                            case measure => simp [intOf]; omega
                  · have hckb : (ck == (k : Int)) = false := by simpa using hck
                    have hnl : Hid (¬ Liv (nth ps) (nth ss) n k) := hide (fun h => hck ((unhide hlivk).1 h).1)
                    clear hck
                    go_wp2_with (go_at_call 17; refine (living17 _ _).mono ?_; rintro e w' ⟨rfl, rfl⟩)
                    go_round
                    case rel => exact ⟨k + 1, cs, by omega, by go_num, rfl, by omega, hide (cs_skip (unhide hcs) (unhide hnl))⟩
                    case measure => simp [intOf]; omega
            · have hnone : g y = none := by
                cases hv : g y with
                | none => rfl
                | some v =>
                  obtain ⟨j, h1, h2⟩ := (unhide HGL y).1 (by rw [hv]; rfl)
                  exact absurd ⟨j, h1.1, h1, h2⟩ hW
              have lookg : (Instr.lookup 26 (.map (some B)) (.int .i64 y) true).run Try.prog w4 = .ok (.tuple #[.bool false, .bool false]) w4 := by
                have := look26ok (unhide HFG) oy
                rwa [hnone] at this
              have HW := hide hW
              clear hW hnone
              go_wp2
              go_loop [14, 15] (fun wt j => ∃ m : Nat, m ≤ n ∧ j = .int .i64 m ∧ wt = .bool false) (fun _ j => n - (intOf j).toNat)
              case atStart => exact ⟨0, Nat.zero_le _, rfl, rfl⟩
              case round =>
                obtain ⟨m, hm0, rfl, rfl⟩ := hrel
                by_cases hmj : m < n
                · obtain ⟨x, c, y', z, cx, cy', cz, look, hgy, hliv⟩ := unhide ROW m (by omega)
                  by_cases hc : c = (m : Int)
                  · have hcb : (c == (m : Int)) = true := by simpa using hc
                    by_cases hgm : y' = y
                    · have hgb : (y' == y) = true := by simpa using hgm
                      have hlv : livB z = false := by
                        cases hl : livB z
                        · rfl
                        · exact absurd ⟨(unhide hliv).2 ⟨hc, hl⟩, (unhide hgy).trans hgm⟩ (fun hh => unhide HW ⟨m, hmj, hh⟩)
                      clear hc hgm
                      go_wp2_with (go_at_call 17; refine (living17 _ _).mono ?_; rintro e w' ⟨rfl, rfl⟩)
                      go_round
                      case rel => exact ⟨m + 1, by omega, by go_num, rfl⟩
                      case measure => simp [intOf]; omega
                    · have hgb : (y' == y) = false := by simpa using hgm
                      clear hc hgm
                      go_wp2
                      go_round
                      case rel => exact ⟨m + 1, by omega, by go_num, rfl⟩
                      case measure => simp [intOf]; omega
                  · have hcb : (c == (m : Int)) = false := by simpa using hc
                    clear hc
                    go_wp2
                    go_round
                    case rel => exact ⟨m + 1, by omega, by go_num, rfl⟩
                    case measure => simp [intOf]; omega
                · by_cases hck : ck = (k : Int)
                  · have hckb : (ck == (k : Int)) = true := by simpa using hck
                    have hlk : livB zk = false := by
                      cases hl : livB zk
                      · rfl
                      · exact absurd ⟨k, hlt, (unhide hlivk).2 ⟨hck, hl⟩, unhide hgyk⟩ (unhide HW)
                    have hnl : Hid (¬ Liv (nth ps) (nth ss) n k) := hide (fun h => unhide HW ⟨k, hlt, h, unhide hgyk⟩)
                    clear hck
                    go_wp2_with (go_at_call 17; refine (living17 _ _).mono ?_; rintro e w' ⟨rfl, rfl⟩)
                    go_round
                    case rel => exact ⟨k + 1, cs, by omega, by go_num, rfl, by omega, hide (cs_skip (unhide hcs) (unhide hnl))⟩
                    case measure => simp [intOf]; omega
                  · have hckb : (ck == (k : Int)) = false := by simpa using hck
                    have hnl : Hid (¬ Liv (nth ps) (nth ss) n k) := hide (fun h => unhide HW ⟨k, hlt, h, unhide hgyk⟩)
                    clear hck
                    go_wp2_with (go_at_call 17; refine (living17 _ _).mono ?_; rintro e w' ⟨rfl, rfl⟩)
                    go_round
                    case rel => exact ⟨k + 1, cs, by omega, by go_num, rfl, by omega, hide (cs_skip (unhide hcs) (unhide hnl))⟩
                    case measure => simp [intOf]; omega
          · obtain rfl : n = k := by omega
            obtain ⟨ks, k1, k2, k3⟩ := (unhide HFG).keys
            have hcount : cs.length = sz := by
              rw [← k3]
              refine len_eq_of_same (unhide hcs).1 k1 (fun y => ?_)
              rw [k2 y, unhide HGL y, (unhide hcs).2 y]
              exact ⟨fun ⟨j, _, a2, a3⟩ => ⟨j, a2, a3⟩, fun ⟨j, a2, a3⟩ => ⟨j, a2.1, a2, a3⟩⟩
            have hcb : ((sz : Int) == (cs.length : Int)) = true := by rw [hcount]; simp
            clear hcount k1 k2 k3
            go_wp2_with (at_len; refine wp_len26 (E := boolE) _ rfl _ rfl B m sz g rfl (unhide HFG) ?_)
            go_wp2
            go_ret
            exact ⟨rfl, unhide HB⟩
end Go.Proofs.Qxb6600948a
