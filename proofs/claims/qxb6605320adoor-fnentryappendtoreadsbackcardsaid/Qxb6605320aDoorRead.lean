import Derived.Test.Qxb6605320aDoorDec
namespace Go.Proofs.Qxb6605320aDoor
open Go.ChangeShapes Go.WideShapes Go.ChangeAt Go.RowKit Go.Lib Go.Sort
set_option linter.unusedVariables false

theorem results_tmp6 {fn : Func} {t0 t1 t2 t3 t4 t5 : Tmp} (h : fn.results = #[.tmp t0, .tmp t1, .tmp t2, .tmp t3, .tmp t4, .tmp t5]) (tmps : Array Value) (P : Program) (w : World) :
    (results fn tmps).run P w = .ok (.tuple #[tmps.getD t0 undef, tmps.getD t1 undef, tmps.getD t2 undef, tmps.getD t3 undef, tmps.getD t4 undef, tmps.getD t5 undef]) w := by
  simp [results, h]

theorem dec_at (g cap N : Nat) (L : List Int) (i j u : Nat) (iI : Int) (w : World) (hI : iI = (i : Int)) (hNl : N = L.length) (hj : j = i + nDigits u) (hr : Rd w g 0 L) (hu : u < 18446744073709551616) (hN : N ≤ 100000000) (hd : At L i (digI u)) (hs : At L j [32]) :
    Calls Tryd.prog 15 #[.slice (some ⟨g, 0, none⟩) N cap, .int .i64 iI] w fun e w' => e = .returned (.tuple #[.int .u64 u, .int .i64 (j : Int), .bool true]) ∧ w = w' := by
  subst hI hNl hj
  exact dec_any g cap L i u w hr hu hN hd hs

theorem expect_at (g cap N : Nat) (L : List Int) (i : Nat) (iI c : Int) (w : World) (hI : iI = (i : Int)) (hNl : N = L.length) (hN : N ≤ 100000000) (hr : Rd w g 0 L) (hs : At L i [c]) :
    Calls Tryd.prog 16 #[.slice (some ⟨g, 0, none⟩) N cap, .int .i64 iI, .int .u8 c] w fun e w' => e = .returned (.bool true) ∧ w = w' := by
  subst hI hNl
  exact expect_yes g cap _ i c w hs.byte.1 hN (rd_cell hr hs.byte.1 hs.byte.2)

set_option maxHeartbeats 4000000 in
theorem record_any (g cap N : Nat) (L : List Int) (i j k p q slot seq cs os : Nat) (w : World) (hNl : N = L.length) (hr : Rd w g 0 L) (hN : N ≤ 10000000) (hcap : N ≤ cap)
    (hu1 : slot < 18446744073709551616) (hu2 : seq < 18446744073709551616)
    (a1 : At L i (digI slot)) (e1 : j = i + nDigits slot) (b1 : At L j [32]) (a2 : At L (j + 1) (digI cs)) (e2 : k = j + 1 + nDigits cs) (b2 : At L k [32])
    (b3 : At L (k + 1 + cs) [32]) (a3 : At L (k + 1 + cs + 1) (digI seq)) (e3 : p = k + 1 + cs + 1 + nDigits seq) (b4 : At L p [32]) (a4 : At L (p + 1) (digI os)) (e4 : q = p + 1 + nDigits os) (b5 : At L q [32]) (b6 : At L (q + 1 + os) [10]) :
    Calls Tryd.prog 10 #[.slice (some ⟨g, 0, none⟩) N cap, .int .i64 i] w fun e w' => ∃ (r1 : Option Addr) (n1 c1 : Nat) (r2 : Option Addr) (n2 c2 : Nat) (en : Int),
      e = .returned (.tuple #[.int .u64 slot, .slice r1 n1 c1, .int .u64 seq, .slice r2 n2 c2, .int .i64 en, .bool true]) ∧ n1 = cs ∧ n2 = os ∧ en = ((q + 1 + os + 1 : Nat) : Int) ∧ (0 < cs → r1 = some ⟨g, k + 1, none⟩) ∧ (0 < os → r2 = some ⟨g, q + 1, none⟩) ∧ w = w' := by
  have o1 : i < j := by have := nDigits_pos slot; omega
  have o2 : j + 1 < k := by have := nDigits_pos cs; omega
  have o3 : k + 1 + cs + 1 < p := by have := nDigits_pos seq; omega
  have o4 : p + 1 < q := by have := nDigits_pos os; omega
  have o5 : q + 1 + os < N := by have := b6.byte.1; omega
  have HL := hide hNl
  have HR := hide hr
  have E1 := hide e1
  have E2 := hide e2
  have E3 := hide e3
  have E4 := hide e4
  clear hNl hr e1 e2 e3 e4
  go_enter Tryd.func10, Tryd.ntmps10
  go_wp2_with fail
  refine (dec_at g cap N L i j slot _ w rfl (unhide HL) (unhide E1) (unhide HR) hu1 (by omega) a1 b1).mono ?_
  rintro e w' ⟨rfl, rfl⟩
  go_wp2_with fail
  refine (expect_at g cap N L j _ 32 w (by omega) (unhide HL) (by omega) (unhide HR) b1).mono ?_
  rintro e w' ⟨rfl, rfl⟩
  go_wp2_with fail
  refine (dec_at g cap N L (j + 1) k cs _ w (by omega) (unhide HL) (unhide E2) (unhide HR) (by omega) (by omega) a2 b2).mono ?_
  rintro e w' ⟨rfl, rfl⟩
  go_wp2_with fail
  refine (expect_at g cap N L k _ 32 w (by omega) (unhide HL) (by omega) (unhide HR) b2).mono ?_
  rintro e w' ⟨rfl, rfl⟩
  go_wp2_with fail
  refine (expect_at g cap N L (k + 1 + cs) _ 32 w (by omega) (unhide HL) (by omega) (unhide HR) b3).mono ?_
  rintro e w' ⟨rfl, rfl⟩
  go_wp2_with fail
  refine (dec_at g cap N L (k + 1 + cs + 1) p seq _ w (by omega) (unhide HL) (unhide E3) (unhide HR) hu2 (by omega) a3 b4).mono ?_
  rintro e w' ⟨rfl, rfl⟩
  go_wp2_with fail
  refine (expect_at g cap N L p _ 32 w (by omega) (unhide HL) (by omega) (unhide HR) b4).mono ?_
  rintro e w' ⟨rfl, rfl⟩
  go_wp2_with fail
  refine (dec_at g cap N L (p + 1) q os _ w (by omega) (unhide HL) (unhide E4) (unhide HR) (by omega) (by omega) a4 b5).mono ?_
  rintro e w' ⟨rfl, rfl⟩
  go_wp2_with fail
  refine (expect_at g cap N L q _ 32 w (by omega) (unhide HL) (by omega) (unhide HR) b5).mono ?_
  rintro e w' ⟨rfl, rfl⟩
  go_wp2_with fail
  refine (expect_at g cap N L (q + 1 + os) _ 10 w (by omega) (unhide HL) (by omega) (unhide HR) b6).mono ?_
  rintro e w' ⟨rfl, rfl⟩
  go_wp2
  refine bodyPost_ret (results_tmp6 rfl _ _ _) rfl ?_
  exact ⟨some ⟨g, k + 1, none⟩, cs, cap - (k + 1), some ⟨g, q + 1, none⟩, os, cap - (q + 1), (q : Int) + 1 + (os : Int) + 1, rfl, rfl, rfl, by omega, fun _ => rfl, fun _ => rfl, rfl⟩

theorem bytesAre_yes (r : Option Addr) (n c g off : Nat) (s : ByteArray) (w : World) (hn : n = s.size) (hs : s.size ≤ 1048576) (hr : 0 < n → r = some ⟨g, off, none⟩) (hc : Rd w g off (strI s)) :
    Calls Tryd.prog 11 #[.slice r n c, .string s] w fun e w' => e = .returned (.bool true) ∧ Below w.heap.size w w' := by
  by_cases h0 : s.size = 0
  · have h1 : n = 0 := by omega
    have h2 : ((n : Int) != (s.size : Int)) = false := by simp; omega
    clear hn hr
    go_enter Tryd.func11, Tryd.ntmps11
    go_wp2
    refine wp_loop_rounds 1 ?_
    rw [rounds_succ]
    go_wp2
    go_ret
    exact ⟨rfl, Below.refl _ _⟩
  · obtain rfl := hr (by omega)
    have hsz : n ≤ 1048576 := by omega
    have h2 : ((n : Int) != (s.size : Int)) = false := by simp; omega
    have HN := hide hn
    have HC := hide hc
    clear hn hc hr
    go_enter Tryd.func11, Tryd.ntmps11
    go_wp2
    go_loopw [5] (fun i wr => ∃ k : Nat, k ≤ n ∧ i = .int .i64 k ∧ ∃ q, wr = w.drewN q) (fun i _ => n - (RowKit.intOf i).toNat)
    case atStart => exact ⟨0, Nat.zero_le _, rfl, 0, rfl⟩
    case round =>
      obtain ⟨k, hk, rfl, q, rfl⟩ := hrel
      by_cases hlt : k < n
      · have hks : k < s.size := by have := unhide HN; omega
        have hcx : w.cell? ⟨g, off + k, none⟩ = some (.int .u8 (s[k].toNat : Int)) := by
          have := unhide HC k (by rw [strI_length]; exact hks)
          rw [this]
          congr 2
          simp only [strI, List.getD_eq_getElem?_getD, List.getElem?_map]
          rw [List.getElem?_eq_getElem (by simpa using hks)]
          rfl
        have hki : (k : Int) < (n : Int) := by omega
        have hks' : (k : Int) < (s.size : Int) := by omega
        go_wp2
        go_quiet (fail)
        go_wp2
        go_roundw
        case rel => exact ⟨k + 1, by omega, by go_num, _, rfl⟩
        case measure => simp [RowKit.intOf]; omega
      · go_wp2
        go_ret
        exact ⟨rfl, below_drewN (Below.refl _ _) _⟩

theorem prefix_yes (r : Option Addr) (c g g2 off N cap : Nat) (zs L : List Int) (w : World) (hz : zs.length ≤ 1048576) (hr : 0 < zs.length → r = some ⟨g, off, none⟩) (hc : Rd w g off zs) (hc2 : Rd w g2 0 L) (hN : N = L.length) (hle : zs.length ≤ L.length) (hb : L.length ≤ 100000000) (heq : ∀ i, i < zs.length → L.getD i 0 = zs.getD i 0) :
    Calls Tryd.prog 9 #[.slice r zs.length c, .slice (some ⟨g2, 0, none⟩) N cap] w fun e w' => e = .returned (.bool true) ∧ Below w.heap.size w w' := by
  obtain ⟨n, hn⟩ : ∃ n, n = zs.length := ⟨_, rfl⟩
  have hc3 : ∀ k, k < n → w.cell? ⟨g, off + k, none⟩ = some (.int .u8 (zs.getD k 0)) := fun k hk => hc k (by omega)
  have hc4 : ∀ k, k < n → w.cell? ⟨g2, k, none⟩ = some (.int .u8 (zs.getD k 0)) := fun k hk => rd_cell hc2 (by omega) (heq k (by omega))
  have hnN : n ≤ N := by omega
  have hN' : N ≤ 100000000 := by omega
  rw [← hn]
  rw [← hn] at hz hr
  have H3 := hide hc3
  have H4 := hide hc4
  clear hc3 hc4 hc hc2 hN hle heq hb hn
  by_cases h0 : n = 0
  · subst h0
    clear hr H3 H4
    go_enter Tryd.func9, Tryd.ntmps9
    go_wp2
    refine wp_loop_rounds 1 ?_
    rw [rounds_succ]
    go_wp2
    go_ret
    exact ⟨rfl, Below.refl _ _⟩
  · obtain rfl := hr (by omega)
    clear hr
    go_enter Tryd.func9, Tryd.ntmps9
    go_wp2
    go_loopw [5] (fun i wr => ∃ k : Nat, k ≤ n ∧ i = .int .i64 k ∧ ∃ q, wr = w.drewN q) (fun i _ => n - (RowKit.intOf i).toNat)
    case atStart => exact ⟨0, Nat.zero_le _, rfl, 0, rfl⟩
    case round =>
      obtain ⟨k, hk, rfl, q, rfl⟩ := hrel
      by_cases hlt : k < n
      · obtain ⟨z, hz⟩ : ∃ z, z = zs.getD k 0 := ⟨_, rfl⟩
        have hcx : w.cell? ⟨g, off + k, none⟩ = some (.int .u8 z) := by rw [hz]; exact unhide H3 k hlt
        have hcy : w.cell? ⟨g2, k, none⟩ = some (.int .u8 z) := by rw [hz]; exact unhide H4 k hlt
        clear hz
        have hki : (k : Int) < (n : Int) := by omega
        have hkj : (k : Int) < (N : Int) := by omega
        go_wp2
        go_quiet (fail)
        go_wp2
        go_roundw
        case rel => exact ⟨k + 1, by omega, by go_num, _, rfl⟩
        case measure => simp [RowKit.intOf]; omega
      · go_wp2
        go_ret
        exact ⟨rfl, below_drewN (Below.refl _ _) _⟩
end Go.Proofs.Qxb6605320aDoor
