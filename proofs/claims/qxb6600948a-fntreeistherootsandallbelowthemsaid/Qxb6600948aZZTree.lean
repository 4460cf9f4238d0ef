import Derived.Test.Qxb6600948aBelow
namespace Go.Proofs.Qxb6600948a
open Go.ChangeShapes Go.WideShapes Go.ChangeAt Go.RowKit
set_option linter.unusedVariables false

theorem tab_map {α β : Type} (F : α → β) (P : Nat → Int) (V : Nat → α) : ∀ (k : Nat) (x : Int), (tab P V k x).map F = tab P (fun j => F (V j)) k x
  | 0, x => rfl
  | k + 1, x => by
    simp only [tab, upd]
    split
    · rfl
    · exact tab_map F P V k x

theorem pcs_get : ∀ (L : List PS) (i : Nat) (hi : i < L.length), (pcs L)[i * 5]? = some (.int .i64 L[i].pid) ∧ (pcs L)[i * 5 + 1]? = some (.int .i64 L[i].ppid)
  | [], i, hi => by simp at hi
  | p :: r, 0, _ => by simp [pcs, pcell]
  | p :: r, i + 1, hi => by
    have := pcs_get r i (by simpa using hi)
    have e : pcs (p :: r) = pcell p ++ pcs r := by simp [pcs]
    rw [e, List.getElem?_append_right (by simp [pcell]; omega), List.getElem?_append_right (by simp [pcell]; omega)]
    rw [show (i + 1) * 5 - (pcell p).length = i * 5 by simp [pcell]; omega, show (i + 1) * 5 + 1 - (pcell p).length = i * 5 + 1 by simp [pcell]; omega]
    simpa using this

theorem Pv.form {w : World} {base : Nat} {v : Value} {L : List PS} {bk : Option Nat} (h : Pv w base v L bk) : ∃ a cap, v = .slice a L.length cap ∧ (0 < L.length → ∃ g, a = some ⟨g, 0, none⟩ ∧ g < w.heap.size ∧ ∀ i (hi : i < L.length), w.cell? ⟨g, i * 5, none⟩ = some (.int .i64 L[i].pid) ∧ w.cell? ⟨g, i * 5 + 1, none⟩ = some (.int .i64 L[i].ppid)) := by
  rcases h with ⟨rfl, rfl, rfl⟩ | ⟨g, cap, rfl, h2, h3, rfl⟩
  · exact ⟨none, 0, rfl, (fun h => by simp at h)⟩
  · refine ⟨_, cap, rfl, fun _ => ⟨g, rfl, h2.lt, fun i hi => ?_⟩⟩
    have e1 := h2.holds (i * 5) (by omega)
    have e2 := h2.holds (i * 5 + 1) (by omega)
    rw [Nat.zero_add] at e1 e2
    rw [e1, e2]
    exact pcs_get L i hi

def tps (ps qs : List Int) (n : Nat) : Int → Option PS := tab (nth ps) (fun j => PS.mk (nth ps j) (nth qs j) 0 0 0) n

set_option maxRecDepth 100000 in
set_option maxHeartbeats 4000000 in
theorem zztree (a0 a1 a2 : Option Addr) (n m : Nat) (ps qs rs : List Int) (w : World) (hn : n ≤ 4096) (hm : m ≤ 4096) (r0 : Ra w a0 n ps) (r1 : Ra w a1 n qs) (r2 : Ra w a2 m rs) :
    Calls Try.prog 10 #[.slice a0 n n, .slice a1 n n, .slice a2 m m] w fun e w' => ∃ L o1 o2 l, e = .returned (.tuple #[.slice o1 l l, .slice o2 l l]) ∧ Out (tab (nth ps) (nth qs) n) rs L ∧ l ≤ 4096 ∧ Ra w' o1 l L ∧ Ra w' o2 l (L.map (fun x => (tab (nth ps) (nth qs) n x).getD 0)) ∧ Below w.heap.size w w' := by
  have hmm := @run_makeMap Try.prog
  have R0 := hide r0
  have R1 := hide r1
  have R2 := hide r2
  clear r0 r1 r2
  go_enter Try.func10, Try.ntmps10
  go_wp2
  go_loopw [9] (fun i wr => ∃ k s : Nat, k ≤ n ∧ i = .int .i64 k ∧ FM psE wr w.heap.size k (tps ps qs k) s ∧ Below w.heap.size w wr) (fun i _ => n - (intOf i).toNat)
  case atStart => exact ⟨0, 0, Nat.zero_le _, rfl, FM.made _ _, (Below.refl _ _).alloc (Nat.le_refl _) _⟩
  case round =>
    obtain ⟨k, s, hk, rfl, hfm, hbl⟩ := hrel
    by_cases hlt : k < n
    · obtain ⟨bp, rfl, hp, rp⟩ := (unhide R0).at_ (by omega)
      obtain ⟨bg, rfl, hg, rg⟩ := (unhide R1).at_ (by omega)
      obtain ⟨x, hx⟩ : ∃ x, x = nth ps k := ⟨_, rfl⟩
      obtain ⟨y, hy⟩ : ∃ y, y = nth qs k := ⟨_, rfl⟩
      have cx : wr.cell? ⟨bp, k, none⟩ = some (.int .i64 x) := by
        have := rp.below hbl hp k (by rw [(unhide R0).len]; exact hlt)
        rwa [Nat.zero_add, show ps.getD k 0 = x from hx.symm] at this
      have cy : wr.cell? ⟨bg, k, none⟩ = some (.int .i64 y) := by
        have := rg.below hbl hg k (by rw [(unhide R1).len]; exact hlt)
        rwa [Nat.zero_add, show qs.getD k 0 = y from hy.symm] at this
      have ox : I64 x := by rw [hx]; exact (unhide R0).ok k hlt
      have oy : I64 y := by rw [hy]; exact (unhide R1).ok k hlt
      obtain ⟨w1, hrun, hfm1, hg1⟩ := put40 (w := wr.drew) (p := ⟨x, y, 0, 0, 0⟩) hfm (by unfold maxLen; omega) ox (ps_ok ox oy i64_zero ⟨by omega, by omega⟩)
      have eu : upd (tps ps qs k) x ⟨x, y, 0, 0, 0⟩ = tps ps qs (k + 1) := by rw [hx, hy]; rfl
      rw [eu] at hfm1
      have HF : Hid (∃ s', FM psE w1 w.heap.size (k + 1) (tps ps qs (k + 1)) s') := hide ⟨_, hfm1⟩
      have HG := hide hg1
      have hki : (k : Int) < (n : Int) := by omega
      clear eu hfm1 hg1 hx hy hfm rp rg
      simp only at hrun
      go_wp2
      go_region
      all_goals
        go_wp2
        go_roundw
        case rel =>
          obtain ⟨s', hf'⟩ := unhide HF
          exact ⟨k + 1, s', by omega, by go_num, hf', hbl.drew.grown (unhide HG) hbl.size (fun j hj => by cases hj; exact Nat.le_refl _)⟩
        case measure => simp [intOf]; omega
    · obtain rfl : n = k := by omega
      have hspec : ∀ x p, tps ps qs n x = some p → ∃ j, j < n ∧ nth ps j = x ∧ PS.mk (nth ps j) (nth qs j) 0 0 0 = p := fun x p h => by
        obtain ⟨j, h1, h2, h3, _⟩ := (tab_spec _ _ n x p).1 h
        exact ⟨j, h1, h2, h3⟩
      have hpid : ∀ x p, tps ps qs n x = some p → p.pid = x := fun x p h => by
        obtain ⟨j, _, h2, rfl⟩ := hspec x p h
        exact h2
      have hps : ∀ x p, tps ps qs n x = some p → p.okB = true := fun x p h => by
        obtain ⟨j, h1, h2, rfl⟩ := hspec x p h
        exact ps_ok ((unhide R0).ok j h1) ((unhide R1).ok j h1) i64_zero ⟨by omega, by omega⟩
      go_wp2_with fail
      refine (tree_any w.heap.size n s (tps ps qs n) a2 m rs wr hfm hn hpid hps ((unhide R2).below hbl) hm).mono ?_
      rintro e w2 ⟨v, L, bk, rfl, hpv, hout, hL, hb2⟩
      have hpar : par (tps ps qs n) = tab (nth ps) (nth qs) n := funext (fun x => tab_map PS.ppid _ _ n x)
      rw [hpar] at hout
      obtain ⟨av, cap, rfl, hcell0⟩ := hpv.form
      have hcell : 0 < L.length → ∃ g, av = some ⟨g, 0, none⟩ ∧ g < w2.heap.size ∧ ∀ i, i < L.length → w2.cell? ⟨g, i * 5, none⟩ = some (.int .i64 (nth L i)) ∧ w2.cell? ⟨g, i * 5 + 1, none⟩ = some (.int .i64 ((tab (nth ps) (nth qs) n (nth L i)).getD 0)) := fun h0 => by
        obtain ⟨g, h1, h2, h3⟩ := hcell0 (by rw [List.length_map]; exact h0)
        refine ⟨g, h1, h2, fun i hi => ?_⟩
        obtain ⟨e1, e2⟩ := h3 i (by rw [List.length_map]; exact hi)
        have hnL : nth L i = L[i] := by simp [nth, List.getD, List.getElem?_eq_getElem hi]
        have hmem : L[i] ∈ L := List.getElem_mem hi
        obtain ⟨yy, hyy⟩ := ((hout.mem _).1 hmem).some
        rw [← hpar] at hyy
        rw [e1, e2, List.getElem_map, hnL, ← hpar]
        unfold par at hyy ⊢
        cases ht : tps ps qs n L[i] with
        | none => rw [ht] at hyy; cases hyy
        | some p =>
          have hpo : pOf (tps ps qs n) L[i] = p := by unfold pOf; rw [ht]; rfl
          rw [hpo, hpid _ _ ht]
          exact ⟨rfl, rfl⟩
      have hoki : ∀ i, i < L.length → I64 (nth L i) ∧ I64 ((tab (nth ps) (nth qs) n (nth L i)).getD 0) := fun i hi => by
        have hnL : nth L i = L[i] := by simp [nth, List.getD, List.getElem?_eq_getElem hi]
        have hmem : L[i] ∈ L := List.getElem_mem hi
        obtain ⟨yy, hyy⟩ := ((hout.mem _).1 hmem).some
        rw [hnL, hyy]
        obtain ⟨j, j1, j2, j3, _⟩ := (tab_spec _ _ n _ _).1 hyy
        rw [← j2, ← j3]
        exact ⟨(unhide R0).ok j j1, (unhide R1).ok j j1⟩
      rw [List.length_map]
      obtain ⟨l, hl⟩ : ∃ l, l = L.length := ⟨_, rfl⟩
      rw [← hl] at hcell hoki hL ⊢
      have HOK := hide hoki
      clear hcell0 hoki
      have HC := hide hcell
      have HO := hide hout
      have HB := hide (below_up hbl hb2)
      have HLL := hide hl
      have HPID := hide hpid
      clear hpv hcell hout hpar hfm hspec hpid hps hb2 hbl hl
      obtain ⟨i0, hi, hz0, hz1, hz2⟩ := info_parts info3
      go_wp2_with (at_make; refine wpList_make_full _ rfl _ _ 22 rfl _ 3 i0 (.int .i64 0) 1 Try.underlying22 hi hz0 hz1 .i64 .i64 _ _ l rfl rfl rfl rfl (by rw [hz2]; omega) (by unfold maxLen; omega) (Nat.le_refl _) ?_; intro w3 hown3 hg3)
      rename_i wA hownA hgA K1 ak
      have hsA : w2.heap.size < wA.heap.size := own_lt hownA
      have hsB : wA.heap.size < w3.heap.size := own_lt hown3
      have hownA3 := hownA.kept hg3 (.inr (by simp [Value.ownBlock]))
      have hb23 : Below w2.heap.size w2 w3 := ((Below.refl w2.heap.size w2).grown hgA (Nat.le_refl _) (fun k hk => by cases hk)).grown hg3 (by omega) (fun k hk => by cases hk)
      obtain ⟨A, hA⟩ : ∃ A, A = w2.heap.size := ⟨_, rfl⟩
      obtain ⟨B, hB⟩ : ∃ B, B = wA.heap.size := ⟨_, rfl⟩
      rw [← hA] at hsA hownA3 hb23 ⊢
      rw [← hB] at hsA hsB hown3 ⊢
      have HA := hide hA
      have hAB : A ≠ B := by omega
      have HB3 := hide hb23
      clear hownA hgA hg3 hA hB hb23 wA
      go_loopw [13] (fun i wr => ∃ (k : Nat) (xs ys : List Value), k ≤ l ∧ i = .int .i64 k ∧ wr.ownsRow A 3 1 (.slice (some ⟨A, 0, none⟩) l l) l xs ∧ (∀ j, j < k → xs[j]? = some (.int .i64 (nth L j))) ∧ wr.ownsRow B 3 1 (.slice (some ⟨B, 0, none⟩) l l) l ys ∧ (∀ j, j < k → ys[j]? = some (.int .i64 ((tab (nth ps) (nth qs) n (nth L j)).getD 0))) ∧ Below A w2 wr ∧ B < wr.heap.size)
        (fun i _ => l - (intOf i).toNat)
      case atStart => exact ⟨0, _, _, Nat.zero_le _, rfl, hownA3, (fun j hj => absurd hj (Nat.not_lt_zero _)), hown3, (fun j hj => absurd hj (Nat.not_lt_zero _)), unhide HB3, hsB⟩
      case round =>
        obtain ⟨k, xs, ys, hk, rfl, hxo, hxs, hyo, hys, hbl, hws⟩ := hrel
        by_cases hlt : k < l
        · obtain ⟨g, rfl, hg, hcell⟩ := unhide HC (by omega)
          obtain ⟨x, hx⟩ : ∃ x, x = nth L k := ⟨_, rfl⟩
          obtain ⟨y, hy⟩ : ∃ y, y = (tab (nth ps) (nth qs) n (nth L k)).getD 0 := ⟨_, rfl⟩
          obtain ⟨hc0, hc1⟩ := hcell k hlt
          rw [← hx] at hc0
          rw [← hy] at hc1
          have hgA : g < A := by rw [unhide HA]; exact hg
          have hcx : wr.cell? ⟨g, k * 5, none⟩ = some (.int .i64 x) := (hbl.cell (p := ⟨g, k * 5, none⟩) hgA).trans hc0
          have hcy : wr.cell? ⟨g, k * 5 + 1, none⟩ = some (.int .i64 y) := (hbl.cell (p := ⟨g, k * 5 + 1, none⟩) hgA).trans hc1
          obtain ⟨x0, hx0⟩ : ∃ x0, wr.cell? ⟨A, k, none⟩ = some x0 := by
            rw [hxo.cellAt k (by omega)]
            have := hxo.1
            exact ⟨_, List.getElem?_eq_getElem (by omega)⟩
          obtain ⟨y0, hy0⟩ : ∃ y0, wr.cell? ⟨B, k, none⟩ = some y0 := by
            rw [hyo.cellAt k (by omega)]
            have := hyo.1
            exact ⟨_, List.getElem?_eq_getElem (by omega)⟩
          have hfx := hxo.frozenAt k
          have hfy := hyo.frozenAt k
          obtain ⟨hx1, hgx⟩ := hxo.stored k (.int .i64 x)
          have hy1 := hyo.kept hgx (.inr (by simp [Value.ownBlock]; omega))
          obtain ⟨hy2, hgy⟩ := hy1.stored k (.int .i64 y)
          have hx2 := hx1.kept hgy (.inr (by simp [Value.ownBlock]; omega))
          have hbl1 : Below A w2 ((wr.setCell ⟨A, k, none⟩ (.int .i64 x)).setCell ⟨B, k, none⟩ (.int .i64 y)) := (hbl.setCell (Nat.le_refl _) _).setCell (by show A ≤ B; omega) _
          have hRx : (∀ j, j < k + 1 → (xs.set k (.int .i64 x))[j]? = some (.int .i64 (nth L j))) := by
            intro j hj
            have hxl := hxo.1
            by_cases hjk : j = k
            · subst hjk
              rw [List.getElem?_set_self (by omega), hx]
            · rw [List.getElem?_set_ne (by omega)]
              exact hxs j (by omega)
          have hRy : (∀ j, j < k + 1 → (ys.set k (.int .i64 y))[j]? = some (.int .i64 ((tab (nth ps) (nth qs) n (nth L j)).getD 0))) := by
            intro j hj
            have hxl := hyo.1
            by_cases hjk : j = k
            · subst hjk
              rw [List.getElem?_set_self (by omega), hy]
            · rw [List.getElem?_set_ne (by omega)]
              exact hys j (by omega)
          have HR := hide (And.intro hx2 (And.intro hRx (And.intro hy2 (And.intro hRy hbl1))))
          clear hx1 hy1 hgx hgy hx2 hy2 hRx hRy hbl1 hx hy hxs hys hcell hc0 hc1 hbl hxo hyo
          go_wp2
          go_roundw
          case rel =>
            obtain ⟨r1, r2, r3, r4, r5⟩ := unhide HR
            exact ⟨k + 1, _, _, by omega, by go_num, r1, r2, r3, r4, r5, by simpa using hws⟩
          case measure => simp [intOf]; omega
        · obtain rfl : l = k := by omega
          have hl := unhide HLL
          have hRA : Ra wr (some ⟨A, 0, none⟩) l L := ⟨hl.symm, fun _ => ⟨A, rfl, by omega, fun i hi => by
            rw [Nat.zero_add, hxo.cellAt i (by omega)]
            exact hxs i (by omega)⟩, fun j hj => (unhide HOK j hj).1⟩
          have hgm : ∀ i, i < l → (L.map (fun x => (tab (nth ps) (nth qs) n x).getD 0)).getD i 0 = (tab (nth ps) (nth qs) n (nth L i)).getD 0 := fun i hi => by
            have hi' : i < L.length := by omega
            simp [nth, List.getD, List.getElem?_eq_getElem hi']
          have hRB : Ra wr (some ⟨B, 0, none⟩) l (L.map (fun x => (tab (nth ps) (nth qs) n x).getD 0)) := ⟨by rw [List.length_map]; exact hl.symm, fun _ => ⟨B, rfl, hws, fun i hi => by
            rw [List.length_map] at hi
            rw [Nat.zero_add, hyo.cellAt i (by omega), hgm i (by omega)]
            exact hys i (by omega)⟩, fun j hj => by
            show I64 ((L.map (fun x => (tab (nth ps) (nth qs) n x).getD 0)).getD j 0)
            rw [hgm j hj]
            exact (unhide HOK j hj).2⟩
          have hbf : Below w.heap.size w wr := (unhide HB).trans ((hbl.mono (by rw [unhide HA]; exact (unhide HB).size)))
          have HALL := hide (And.intro hRA (And.intro hRB hbf))
          clear hRA hRB hbf hxs hys hxo hyo hgm hl hbl
          go_wp2
          go_ret2
          obtain ⟨hRA, hRB, hbf⟩ := unhide HALL
          exact ⟨L, some ⟨A, 0, none⟩, some ⟨B, 0, none⟩, l, rfl, unhide HO, hL, hRA, hRB, hbf⟩
end Go.Proofs.Qxb6600948a
