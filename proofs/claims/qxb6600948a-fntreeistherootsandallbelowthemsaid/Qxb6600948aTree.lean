import Derived.Test.Qxb6600948aClone21
namespace Go.Proofs.Qxb6600948a
open Go.ChangeShapes Go.WideShapes Go.ChangeAt Go.RowKit
set_option linter.unusedVariables false
attribute [local go_sem ↓] Go.wp_at_zero Go.wp_at_succ

theorem ps_pid {p : PS} (h : p.okB = true) : I64 p.pid := by
  simp only [PS.okB, Bool.and_eq_true] at h
  exact h.1.1.1.1
theorem ps_ppid {p : PS} (h : p.okB = true) : I64 p.ppid := by
  simp only [PS.okB, Bool.and_eq_true] at h
  exact h.1.1.1.2

theorem Kw.same {w w' : World} {base : Nat} {f : Int → Option SV} {c : Int → List Int} (h : Kw w base f c) (hs : w.heap.size ≤ w'.heap.size) (hb : ∀ g, base ≤ g → g < w.heap.size → w'.heap[g]? = w.heap[g]?) : Kw w' base f c :=
  ⟨h.empty, fun y s e => by
    obtain ⟨g, cap, h1, h2, h3⟩ := h.row y s e
    exact ⟨g, cap, h1, h2.same (Nat.lt_of_lt_of_le h2.lt hs) (hb g h3 h2.lt), h3⟩, h.apart⟩
theorem Kw.kept {w w' : World} {base : Nat} {f : Int → Option SV} {c : Int → List Int} {row : Option Nat} (h : Kw w base f c) (hg : w.grownBy w' row) (hr : ∀ k, row = some k → k < base) : Kw w' base f c :=
  h.same hg.size (fun g h1 h2 => hg.block g h2 (fun e => by have := hr g e.symm; omega))
theorem Kw.alloc {w : World} {base : Nat} {f : Int → Option SV} {c : Int → List Int} (h : Kw w base f c) (o : Obj) : Kw (w.alloc o) base f c := h.kept (World.grownBy_alloc w o none) (fun k e => by cases e)
theorem Kw.drew {w : World} {base : Nat} {f : Int → Option SV} {c : Int → List Int} (h : Kw w base f c) : Kw w.drew base f c := h.same (Nat.le_refl _) (fun _ _ _ => rfl)

def pOf (t : Int → Option PS) (x : Int) : PS := (t x).getD ⟨0, 0, 0, 0, 0⟩
def par (t : Int → Option PS) (x : Int) : Option Int := (t x).map PS.ppid
def Sn (sf : Int → Option Bool) (ps : List Int) : Prop := ∀ y, (sf y).getD false = decide (y ∈ ps)
theorem sn_upd {sf : Int → Option Bool} {ps : List Int} (h : Sn sf ps) (x : Int) : Sn (upd sf x true) (ps ++ [x]) := fun y => by
  by_cases e : y = x
  · simp [upd, e]
  · simp [upd, e, h y]
def slLen : Value → Nat
  | .slice _ n _ => n
  | _ => 0
theorem Pv.len {w : World} {base : Nat} {v : Value} {L : List PS} {bk : Option Nat} (h : Pv w base v L bk) : slLen v = L.length := by
  rcases h with ⟨rfl, rfl, _⟩ | ⟨g', cap, rfl, _⟩ <;> rfl
theorem Sl.tl {w : World} {g off n cap : Nat} {c : Value} {cs : List Value} (h : Sl w 1 g off n cap (c :: cs)) : (cap = 1 → Sl w 1 g off (n - 1) 0 cs) ∧ Sl w 1 g (off + 1) (n - 1) (cap - 1) cs := by
  refine ⟨fun e => ?_, h.tail⟩
  have hl := h.len
  have hle := h.le
  simp at hl
  have hn : n - 1 = 0 := by omega
  have hcs : cs = [] := List.eq_nil_of_length_eq_zero (by omega)
  rw [hn, hcs]
  exact ⟨Nat.le_refl _, Nat.zero_le _, h.lt, rfl, (fun j hj => by omega), (fun j hj => by omega)⟩
theorem Pv.mono {w : World} {base base' : Nat} {v : Value} {L : List PS} {bk : Option Nat} (h : Pv w base v L bk) (hb : base' ≤ base) : Pv w base' v L bk := by
  rcases h with h | ⟨g', cap, h1, h2, h3, h4⟩
  · exact .inl h
  · exact .inr ⟨g', cap, h1, h2, Nat.le_trans hb h3, h4⟩
theorem kc_par {t : Int → Option PS} {c : Int → List Int} (h : Kc t (fun _ => false) c) : ∀ y x, x ∈ c y ↔ par t x = some y := fun y x => by
  rw [h.mem]
  unfold par
  constructor
  · rintro ⟨p, h1, _, rfl⟩
    rw [h1]
    rfl
  · intro hp
    cases ht : t x with
    | none => rw [ht] at hp; cases hp
    | some p =>
      rw [ht] at hp
      exact ⟨p, rfl, rfl, Option.some.inj hp⟩
theorem kids_src {w : World} {base : Nat} {f : Int → Option SV} {c : Int → List Int} (h : Kw w base f c) (y : Int) : Src Try.prog 1 22 ((f y).getD ⟨none, 0, 0⟩).val (c y).length (iv (c y)) w := by
  cases hf : f y with
  | none =>
    rw [h.empty y hf]
    exact Src.ofNil _ Try.underlying22 0
  | some s =>
    obtain ⟨g, cap, rfl, h2, _⟩ := h.row y s hf
    exact h2.src Try.underlying22 (iv_one _)

set_option maxRecDepth 100000 in
set_option maxHeartbeats 4000000 in
theorem tree_any (b n sz : Nat) (t : Int → Option PS) (ra : Option Addr) (m : Nat) (rs : List Int) (w : World) (h : FM psE w b n t sz) (hn : n ≤ 4096) (hpid : ∀ x p, t x = some p → p.pid = x) (hps : ∀ x p, t x = some p → p.okB = true) (hra : Ra w ra m rs) (hm : m ≤ 4096) :
    Calls Try.prog 19 #[.map (some b), .slice ra m m] w fun e w' => ∃ v ps bk, e = .returned v ∧ Pv w' w.heap.size v (ps.map (pOf t)) bk ∧ Out (par t) rs ps ∧ ps.length ≤ 4096 ∧ Below w.heap.size w w' := by
  have hbl := h.lt
  have hsl := h.size_le
  obtain ⟨ks, hk1, hk2, hk3⟩ := h.keys
  have HK1 := hide hk1
  have HK2 := hide hk2
  have HPID := hide hpid
  have HPS := hide hps
  have HRA := hide hra
  clear hk1 hk2 hpid hps hra
  have hmm := @run_makeMap Try.prog
  go_enter Try.func19, Try.ntmps19
  go_wp2_with (at_range; refine wp_range _ rfl _ 40 rfl 43 Try.underlying40 b n sz t rfl (h.alloc _) ?_)
  intro w0 hrg0 hg0 hs0
  have hgm : FM svE w0 w.heap.size 0 (fun _ => none) 0 := (FM.made svE w).kept hg0 (by simp)
  have hb0 : Below w.heap.size w w0 := ((Below.refl _ _).alloc (Nat.le_refl _) _).grown hg0 (by simp) (fun k hk => by cases hk)
  have hs0' : w0.heap.size = w.heap.size + 2 := by rw [hs0]
  clear hg0 hs0 h
  go_wp2
  go_loopw [7] (fun _ wr => ∃ left cnt c f s k, FR psE wr b (w.heap.size + 1) n t sz left cnt ∧ FM svE wr w.heap.size k f s ∧ k + cnt ≤ sz ∧ Hid (Kc t left c) ∧ Hid (Kw wr (w.heap.size + 2) f c) ∧ Below w.heap.size w wr ∧ w.heap.size + 2 ≤ wr.heap.size)
    (fun _ wr => wr.rangeLeft b (w.heap.size + 1))
  case atStart => exact ⟨_, _, _, _, _, _, hrg0, hgm, by omega, hide (kc_start t), hide ⟨fun _ _ => rfl, (fun _ _ h => by cases h), (fun _ _ _ _ h => by cases h)⟩, hb0, by omega⟩
  case round =>
    obtain ⟨left, cnt, c, f, s, k, hrg, hgm, hk, hKc, hKw, hbl2, hws⟩ := hrel
    go_wp2_with (at_next; refine wp_next_ps _ rfl _ rfl b (w.heap.size + 1) n sz t left cnt rfl hrg ?_ ?_)
    · intro _ hl0
      have e : left = fun _ => false := funext hl0
      subst e
      obtain ⟨wo, hwo⟩ : ∃ wo, wo = wr := ⟨_, rfl⟩
      subst hwo
      have hft : FM psE wo b n t sz := hrg.owns
      have HC := hide (kc_par (unhide hKc))
      have HCN := hide (unhide hKc).nodup
      have HKS : Hid (∀ x y, par t x = some y → x ∈ ks) := hide (fun x y hp => (unhide HK2 x).2 (by
        unfold par at hp
        cases ht : t x with
        | none => rw [ht] at hp; cases hp
        | some p => rfl))
      have HFT := hide hft
      have HGM := hide hgm
      have hbH : b < wo.heap.size := hft.lt
      have hmH : w.heap.size < wo.heap.size := hgm.lt
      have HB := hide hbl2
      clear hrg hft hgm hbl2
      go_wp2_with fail
      refine (clone_21 ra m rs _ (((unhide HRA).below (unhide HB)).below ((Below.refl _ _).alloc (Nat.le_refl _) _)) hm).mono ?_
      rintro e w2 ⟨qv, bq, rfl, hq2, hb2⟩
      have hs2 : wo.heap.size + 1 ≤ w2.heap.size := by have := hb2.size; simpa using this
      have hfs2 : FM boolE w2 wo.heap.size 0 (fun _ => none) 0 := (FM.made boolE wo).below hb2 (by simp)
      have hb2' : Below wo.heap.size wo w2 := ((Below.refl _ _).alloc (Nat.le_refl _) _).trans (hb2.mono (by simp))
      have hq2' : Qv w2 (wo.heap.size + 1) qv rs bq := by simpa using hq2
      clear hq2 hb2
      go_wp2
      go_loopw [8, 10, 11, 12, 13] (fun pv qv _ _ _ ws => ∃ zs ps sf s2 bq bp, Qv ws (wo.heap.size + 1) qv zs bq ∧ Pv ws (wo.heap.size + 1) pv (ps.map (pOf t)) bp ∧ FM boolE ws wo.heap.size ps.length sf s2 ∧ Hid (Sn sf ps) ∧ Hid (Bq (par t) c rs zs ps) ∧ Hid (∀ z, z ∈ zs → I64 z) ∧ Below wo.heap.size wo ws ∧ wo.heap.size + 1 ≤ ws.heap.size ∧ (bq = none ∨ bq ≠ bp))
        (fun pv qv _ _ _ _ => (4096 - slLen pv) * 20000 + slLen qv)
      case atStart => exact ⟨rs, [], _, _, bq, none, hq2', .inl ⟨rfl, rfl, rfl⟩, hfs2, hide (fun y => by simp), hide bq_start, hide (fun z hz => by
        obtain ⟨j, hj, rfl⟩ := List.getElem_of_mem hz
        have := (unhide HRA).ok j (by rw [← (unhide HRA).len]; exact hj)
        simpa [nth, List.getD, List.getElem?_eq_getElem hj] using this), hb2', hs2, by cases bq <;> simp⟩
      case round =>
        obtain ⟨zs, ps, sf, s2, bq, bp, hq, hp, hfs, hsn, hbq, hzi, hbs, hws2, hap⟩ := hrel
        obtain ⟨hql, hpl⟩ := bq_bound (unhide HCN) (unhide HC) (unhide HKS) (unhide hbq)
        have hrl := (unhide HRA).len
        have hms := hp.len
        rw [List.length_map] at hms
        cases zs with
        | nil =>
          have hend := hide (bq_end (unhide HC) (unhide hbq))
          have HPV : Hid (Pv wr w.heap.size u8 (ps.map (pOf t)) bp) := hide (hp.mono (by omega))
          clear hp
          rcases hq with ⟨rfl, _, rfl⟩ | ⟨g, off, cap, rfl, hsl, hbg, rfl⟩
          · go_wp2
            go_ret
            first | exact ⟨u8, ps, bp, rfl, unhide HPV, unhide hend, by omega, below_up (unhide HB) hbs⟩ | exact ⟨u8, rfl, ps, ⟨bp, unhide HPV⟩, unhide hend, by omega, below_up (unhide HB) hbs⟩ | exact ⟨u8, rfl, ps, bp, unhide HPV, unhide hend, by omega, below_up (unhide HB) hbs⟩
          · clear hsl
            go_wp2
            go_ret
            first | exact ⟨u8, ps, bp, rfl, unhide HPV, unhide hend, by omega, below_up (unhide HB) hbs⟩ | exact ⟨u8, rfl, ps, ⟨bp, unhide HPV⟩, unhide hend, by omega, below_up (unhide HB) hbs⟩ | exact ⟨u8, rfl, ps, bp, unhide HPV, unhide hend, by omega, below_up (unhide HB) hbs⟩
        | cons x q =>
          rcases hq with ⟨_, h0, _⟩ | ⟨g, off, cap, hv, hsl, hbg, rfl⟩
          · cases h0
          obtain ⟨N, hN⟩ : ∃ N, N = (x :: q).length := ⟨_, rfl⟩
          rw [← hN] at hv hsl
          subst hv
          have hN1 : N = q.length + 1 := by rw [hN]; simp
          have hcx : wr.cell? ⟨g, off, none⟩ = some (.int .i64 x) := by
            have := hsl.holds 0 (by omega)
            simpa [iv] using this
          have hcl := hsl.le
          have hix : I64 x := unhide hzi x (by simp)
          have hlk := look40ok ((unhide HFT).below hbs hbH) hix
          have HSL := hide hsl
          clear hN hsl
          cases ht : t x with
          | none =>
            simp only [ht, Option.getD_none, PS.val, Option.isSome_none] at hlk
            have hskip : Hid (Bq (par t) c rs q ps) := hide (bq_skip (unhide HC) (unhide hbq) (.inl (by unfold par; rw [ht]; rfl)))
            by_cases hc1 : cap = 1
            · have HT := hide ((unhide HSL).tl.1 hc1)
              go_wp2
              go_roundw
              case rel =>
                exact ⟨q, ps, sf, s2, some g, bp, .inr ⟨g, off, 0, rfl, by have := (unhide HT).alloc (.cells #[.int .i64 0, .int .i64 0, .int .i64 0, .int .u8 0, .int .u64 0] 43); rwa [hN1] at this, hbg, rfl⟩, hp.kept (World.grownBy_alloc _ _ none) (fun k e => by cases e), hfs.alloc _, hsn, hskip, hide (fun z hz => unhide hzi z (List.mem_cons_of_mem _ hz)), hbs.alloc (by omega) _, by simp; omega, hap⟩
              case measure => simp [slLen]; try omega
            · have HT := hide (unhide HSL).tl.2
              go_wp2
              go_roundw
              case rel =>
                exact ⟨q, ps, sf, s2, some g, bp, .inr ⟨g, off + 1, cap - 1, rfl, by have := (unhide HT).alloc (.cells #[.int .i64 0, .int .i64 0, .int .i64 0, .int .u8 0, .int .u64 0] 43); rwa [hN1] at this, hbg, rfl⟩, hp.kept (World.grownBy_alloc _ _ none) (fun k e => by cases e), hfs.alloc _, hsn, hskip, hide (fun z hz => unhide hzi z (List.mem_cons_of_mem _ hz)), hbs.alloc (by omega) _, by simp; omega, hap⟩
              case measure => simp [slLen]; try omega
          | some p =>
            simp only [ht, Option.getD_some, PS.val, Option.isSome_some] at hlk
            obtain ⟨W, hW⟩ : ∃ W, W = wr.alloc (.cells #[.int .i64 p.pid, .int .i64 p.ppid, .int .i64 p.pgid, .int .u8 p.state, .int .u64 p.start] 43) := ⟨_, rfl⟩
            have hfW : FM boolE W wo.heap.size ps.length sf s2 := by rw [hW]; exact hfs.alloc _
            have hlk2 := look26 hfW hix
            rw [unhide hsn x] at hlk2
            by_cases hin : x ∈ ps
            · have hskip : Hid (Bq (par t) c rs q ps) := hide (bq_skip (unhide HC) (unhide hbq) (.inr hin))
              simp only [hin, decide_true] at hlk2
              rw [hW] at hlk2
              clear hW
              by_cases hc1 : cap = 1
              · have HT := hide ((unhide HSL).tl.1 hc1)
                go_wp2
                go_roundw
                case rel =>
                  exact ⟨q, ps, sf, s2, some g, bp, .inr ⟨g, off, 0, rfl, by have := (unhide HT).alloc (.cells #[.int .i64 p.pid, .int .i64 p.ppid, .int .i64 p.pgid, .int .u8 p.state, .int .u64 p.start] 43); rwa [hN1] at this, hbg, rfl⟩, hp.kept (World.grownBy_alloc _ _ none) (fun k e => by cases e), hfs.alloc _, hsn, hskip, hide (fun z hz => unhide hzi z (List.mem_cons_of_mem _ hz)), hbs.alloc (by omega) _, by simp; omega, hap⟩
                case measure => simp [slLen]; try omega
              · have HT := hide (unhide HSL).tl.2
                go_wp2
                go_roundw
                case rel =>
                  exact ⟨q, ps, sf, s2, some g, bp, .inr ⟨g, off + 1, cap - 1, rfl, by have := (unhide HT).alloc (.cells #[.int .i64 p.pid, .int .i64 p.ppid, .int .i64 p.pgid, .int .u8 p.state, .int .u64 p.start] 43); rwa [hN1] at this, hbg, rfl⟩, hp.kept (World.grownBy_alloc _ _ none) (fun k e => by cases e), hfs.alloc _, hsn, hskip, hide (fun z hz => unhide hzi z (List.mem_cons_of_mem _ hz)), hbs.alloc (by omega) _, by simp; omega, hap⟩
                case measure => simp [slLen]; try omega
            · have htake : Hid (Bq (par t) c rs (q ++ c x) (ps ++ [x])) := hide (bq_take (unhide HC) (unhide hbq) (y := p.ppid) (by unfold par; rw [ht]; rfl) hin)
              obtain ⟨hql2, hpl2⟩ := bq_bound (unhide HCN) (unhide HC) (unhide HKS) (unhide htake)
              have hqa : (q ++ c x).length = q.length + (c x).length := by simp
              have hpa : (ps ++ [x]).length = ps.length + 1 := by simp
              simp only [hin, decide_false] at hlk2
              obtain ⟨w3, hput, hf3, hg3⟩ := put26 (a := true) hfW (by unfold maxLen; omega) hix
              have hcW : ∀ j, (W.cell? ⟨wr.heap.size, j, none⟩) = (#[.int .i64 p.pid, .int .i64 p.ppid, .int .i64 p.pgid, .int .u8 p.state, .int .u64 p.start] : Array Value)[j]? := fun j => by rw [hW]; exact World.cell?_alloc_new wr _ _ j
              have hWs : W.heap.size = wr.heap.size + 1 := by rw [hW]; simp
              have hc3 : ∀ j, w3.cell? ⟨wr.heap.size, j, none⟩ = (#[.int .i64 p.pid, .int .i64 p.ppid, .int .i64 p.pgid, .int .u8 p.state, .int .u64 p.start] : Array Value)[j]? := fun j => (World.cell?_of_block (a := ⟨wr.heap.size, j, none⟩) (hg3.block wr.heap.size (by omega) (fun e => by have := Option.some.inj e; omega))).trans (hcW j)
              have d0 : w3.cell? ⟨wr.heap.size, 0, none⟩ = some (.int .i64 p.pid) := hc3 0
              have d1 : w3.cell? ⟨wr.heap.size, 1, none⟩ = some (.int .i64 p.ppid) := hc3 1
              have d2 : w3.cell? ⟨wr.heap.size, 2, none⟩ = some (.int .i64 p.pgid) := hc3 2
              have d3 : w3.cell? ⟨wr.heap.size, 3, none⟩ = some (.int .u8 p.state) := hc3 3
              have d4 : w3.cell? ⟨wr.heap.size, 4, none⟩ = some (.int .u64 p.start) := hc3 4
              have hpW : Pv W (wo.heap.size + 1) u8 (ps.map (pOf t)) bp := by rw [hW]; exact hp.kept (World.grownBy_alloc _ _ none) (fun k e => by cases e)
              have hp3 : Pv w3 (wo.heap.size + 1) u8 (ps.map (pOf t)) bp := hpW.kept hg3 (fun k e e2 => by cases e; have := (hpW.lt e2).1; omega)
              have hs3 := hg3.size
              obtain ⟨v4, w4, bp4, happ4, hp4, hg4, hbp4⟩ := hp3.app (by omega) p (by rw [List.length_map]; omega)
              have hq3 : Sl w3 1 g off N cap (iv (x :: q)) := by
                have : Sl W 1 g off N cap (iv (x :: q)) := by rw [hW]; exact (unhide HSL).alloc _
                exact this.kept hg3 (fun e => by cases e; omega)
              have hq4 : Sl w4 1 g off N cap (iv (x :: q)) := (hq3.alloc _).kept hg4 (hap.elim (fun h => by cases h) id)
              have hf4 : FM boolE w4 wo.heap.size (ps.length + 1) (upd sf x true) (if (sf x).isSome then s2 else s2 + 1) := (hf3.alloc _).kept hg4 (fun e => by have := (hp3.lt e.symm).1; omega)
              have hbW : Below wo.heap.size wo W := by rw [hW]; exact hbs.alloc (by omega) _
              have hb3 : Below wo.heap.size wo w3 := hbW.grown hg3 (by omega) (fun k e => by cases e; exact Nat.le_refl _)
              have hb4 : Below wo.heap.size wo w4 := (hb3.alloc (by omega) _).grown hg4 (by simp; omega) (fun k e => by have := (hp3.lt e).1; omega)
              have hs4 : w3.heap.size + 1 ≤ w4.heap.size := by have := hg4.size; simpa using this
              have hk4 : Kw w4 (w.heap.size + 2) f c := (unhide hKw).same hb4.size (fun k _ hk => hb4.block k hk)
              have hlk4 := look47 ((unhide HGM).below hb4 hmH) hix
              have hsrc := kids_src hk4 x
              obtain ⟨i0, hi0, hz0, hz1, hz2⟩ := info_parts info3
              obtain ⟨g5, off5, cap5, w5, happ5, hq5, hg5, hor5⟩ := hq4.app (t := 22) Try.underlying22 hi0 hz0 hz1 hz2 rfl hsrc (by unfold maxLen; omega) (by omega)
              obtain ⟨vk, hvk⟩ : ∃ vk, vk = ((f x).getD ⟨none, 0, 0⟩).val := ⟨_, rfl⟩
              rw [← hvk] at hlk4 happ5
              have hgl := hq4.lt
              have hp5 : Pv w5 (wo.heap.size + 1) v4 ((ps ++ [x]).map (pOf t)) bp4 := by
                have hpo : pOf t x = p := by unfold pOf; rw [ht]; rfl
                rw [List.map_append, List.map_singleton, hpo]
                refine hp4.kept hg5 (fun k e e2 => ?_)
                cases e
                rcases hbp4 with h | h
                · rcases hap with h' | h'
                  · cases h'
                  · exact h' (by rw [← h, e2])
                · rw [h] at e2
                  have := hq3.lt
                  cases e2
                  omega
              have hf5 : FM boolE w5 wo.heap.size (ps.length + 1) (upd sf x true) (if (sf x).isSome then s2 else s2 + 1) := hf4.kept hg5 (fun e => by cases e; omega)
              have hb5 : Below wo.heap.size wo w5 := hb4.grown hg5 (by omega) (fun k e => by cases e; omega)
              have hs5 := hg5.size
              have hbq5 : bp4 ≠ some g5 := fun e => by
                have hl4 := (hp4.lt e).2
                rcases hor5 with h | h
                · rcases hbp4 with h' | h'
                  · rcases hap with h2 | h2
                    · cases h2
                    · exact h2 (by rw [← h', e, h.1])
                  · rw [h'] at e
                    have := hq3.lt
                    cases e
                    omega
                · omega
              have hg5b : wo.heap.size + 1 ≤ g5 := by rcases hor5 with h | h <;> omega
              have HALL := hide (And.intro hp5 (And.intro hf5 (And.intro hb5 (And.intro hbq5 hg5b))))
              have HN5 : N + (c x).length = (q ++ c x).length + 1 := by omega
              have hq5' : Sl w5 1 g5 off5 (N + (c x).length) cap5 (.int .i64 x :: iv (q ++ c x)) := by
                have e : iv (x :: q) ++ iv (c x) = .int .i64 x :: iv (q ++ c x) := by simp [iv]
                rw [← e]
                exact hq5
              have hle5 := hq5'.le
              have HQ5 := hide hq5'.tl
              have hlen5 := hide (hp5.len)
              rw [hW] at hlk2 hput
              have HKID : Hid (∀ z, z ∈ c x → I64 z) := hide (fun z hz => by
                have := (unhide HC x z).1 hz
                unfold par at this
                cases htz : t z with
                | none => rw [htz] at this; cases this
                | some pz =>
                  rw [← unhide HPID z pz htz]
                  exact ps_pid (unhide HPS z pz htz))
              obtain ⟨M, hM⟩ : ∃ M, M = N + (c x).length := ⟨_, rfl⟩
              rw [← hM] at HN5 hle5 HQ5 happ5
              have HN1 := hide hN1
              have hNp : 0 < N := by omega
              have HM5 := hide HN5
              have hMp : 0 < M := by omega
              have HPA := hide hpa
              have HQL := hide hql2
              have HPL := hide hpl2
              clear hql2 hpl2 hN1 HN5 hqa hpa hWs hs3 hs4
              clear hW hfW hcW hc3 hpW hp3 hp4 hq3 hq4 hf3 hf4 hg3 hg4 hg5 hbW hb3 hb4 hk4 hsrc hq5 hq5' hp5 hf5 hb5 hbq5 hg5b hp hfs hvk hM hor5 hbp4
              by_cases hc1 : cap5 = 1
              · have HT := hide ((unhide HQ5).1 hc1)
                go_wp2_with (at_builtin; first | refine wp_append_run _ rfl _ _ 44 44 rfl _ _ _ w4 rfl rfl happ4 ?_ | refine wp_append_run _ rfl _ _ 22 22 rfl _ _ _ w5 rfl rfl happ5 ?_)
                go_wp2
                obtain ⟨hp5, hf5, hb5, hbq5, hg5b⟩ := unhide HALL
                have hM1 : M - 1 = (q ++ c x).length := by have := unhide HM5; omega
                refine ⟨⟨q ++ c x, ps ++ [x], _, _, some g5, bp4, .inr ⟨g5, off5, 0, by rw [hM1], by have := unhide HT; rwa [hM1] at this, hg5b, rfl⟩, hp5, by rw [unhide HPA]; exact hf5, hide (sn_upd (unhide hsn) x), htake, hide (fun z hz => ?_), hb5, by omega, .inr (fun e => hbq5 e.symm)⟩, ?_⟩
                · rcases List.mem_append.1 hz with h | h
                  · exact unhide hzi z (List.mem_cons_of_mem _ h)
                  · exact unhide HKID z h
                · rw [unhide hlen5, List.length_map, hms]
                  show (4096 - (ps ++ [x]).length) * 20000 + (M - 1) < (4096 - ps.length) * 20000 + N
                  have := unhide HQL
                  have := unhide HPL
                  have := unhide HPA
                  omega
              · have HT := hide (unhide HQ5).2
                go_wp2_with (at_builtin; first | refine wp_append_run _ rfl _ _ 44 44 rfl _ _ _ w4 rfl rfl happ4 ?_ | refine wp_append_run _ rfl _ _ 22 22 rfl _ _ _ w5 rfl rfl happ5 ?_)
                go_wp2
                obtain ⟨hp5, hf5, hb5, hbq5, hg5b⟩ := unhide HALL
                have hM1 : M - 1 = (q ++ c x).length := by have := unhide HM5; omega
                refine ⟨⟨q ++ c x, ps ++ [x], _, _, some g5, bp4, .inr ⟨g5, off5 + 1, cap5 - 1, by rw [hM1], by have := unhide HT; rwa [hM1] at this, hg5b, rfl⟩, hp5, by rw [unhide HPA]; exact hf5, hide (sn_upd (unhide hsn) x), htake, hide (fun z hz => ?_), hb5, by omega, .inr (fun e => hbq5 e.symm)⟩, ?_⟩
                · rcases List.mem_append.1 hz with h | h
                  · exact unhide hzi z (List.mem_cons_of_mem _ h)
                  · exact unhide HKID z h
                · rw [unhide hlen5, List.length_map, hms]
                  show (4096 - (ps ++ [x]).length) * 20000 + (M - 1) < (4096 - ps.length) * 20000 + N
                  have := unhide HQL
                  have := unhide HPL
                  have := unhide HPA
                  omega
    · intro x p w1 cnt1 hx hp hlx hf hrg1 hlt1 hg1 hs1 hen
      have hgm1 : FM svE w1 w.heap.size k f s := hgm.kept hg1 (by simp)
      have hb1 : Below w.heap.size w w1 := hbl2.grown hg1 (by omega) (fun j hj => by cases hj; omega)
      have hms : Hid (wr.rangeLeft b (w.heap.size + 1) = cnt) := hide hrg.left_eq
      have hrgo := hide hrg1
      have HF := hide hf
      have HLX := hide hlx
      have HS1 := hide hs1
      have hr1 := hrg1.lt
      clear hrg hf hlx hrg1 hgm hs1
      have hKw1 : Hid (Kw w1 (w.heap.size + 2) f c) := hide ((unhide hKw).kept hg1 (fun k e => by cases e; omega))
      clear hKw hg1
      go_wp2
      obtain ⟨W, hW⟩ : ∃ W, W = w1.alloc (.cells #[.int .i64 p.pid, .int .i64 p.ppid, .int .i64 p.pgid, .int .u8 p.state, .int .u64 p.start] 43) := ⟨_, rfl⟩
      rw [← hW]
      obtain ⟨H, hH⟩ : ∃ H, H = w1.heap.size := ⟨_, rfl⟩
      rw [← hH]
      have hWs : W.heap.size = H + 1 := by rw [hW, hH]; simp
      have c0 : W.cell? ⟨H, 0, none⟩ = some (.int .i64 p.pid) := by rw [hW, hH]; simp
      have c1 : W.cell? ⟨H, 1, none⟩ = some (.int .i64 p.ppid) := by rw [hW, hH]; simp
      have hgW : FM svE W w.heap.size k f s := by rw [hW]; exact hgm1.alloc _
      have hkW : Kw W (w.heap.size + 2) f c := by rw [hW]; exact (unhide hKw1).alloc _
      have hrW : Hid (FR psE W b (w.heap.size + 1) n t sz (fun y => left y && !decide (y = x)) cnt1) := by rw [hW]; exact hide ((unhide hrgo).alloc _)
      have hbW : Hid (Below w.heap.size w W) := by rw [hW]; exact hide (hb1.alloc (by have := unhide HS1; omega) _)
      have hclen : (c p.ppid).length ≤ 4096 := by
        refine Nat.le_trans (len_le_of_sub ((unhide hKc).nodup p.ppid) (l₂ := ks) (fun z hz => ?_)) (by omega)
        obtain ⟨q, hq, _⟩ := ((unhide hKc).mem p.ppid z).1 hz
        exact (unhide HK2 z).2 (by rw [hq]; rfl)
      have hHs : w.heap.size + 2 ≤ H := by have := unhide HS1; omega
      obtain ⟨v, w2, g, l, cap, w3, hlook1, hlook2, happ, hput, hfm3, hkw3, hfr3, hbl3, hsz3, hfar⟩ := kids_round (w := W.drew) hkW.drew (hgW.drewN 1) (by omega) (by show _ ≤ W.heap.size; omega) (by unfold maxLen; omega) p.ppid p.pid (ps_ppid hp) hclen
      obtain ⟨e2, e3⟩ := hfar H (by show H < W.heap.size; omega) (by omega) (fun z s hz hbk => by
        obtain ⟨g', cap', h1, h2, _⟩ := (unhide hKw1).row z s hz
        have := h2.lt
        rw [h1] at hbk
        cases hbk
        omega)
      have c02 : w2.cell? ⟨H, 0, none⟩ = some (.int .i64 p.pid) := (World.cell?_of_block (a := ⟨H, 0, none⟩) e2).trans c0
      have c12 : w2.cell? ⟨H, 1, none⟩ = some (.int .i64 p.ppid) := (World.cell?_of_block (a := ⟨H, 1, none⟩) e2).trans c1
      have c03 : w3.cell? ⟨H, 0, none⟩ = some (.int .i64 p.pid) := (World.cell?_of_block (a := ⟨H, 0, none⟩) e3).trans c0
      have c13 : w3.cell? ⟨H, 1, none⟩ = some (.int .i64 p.ppid) := (World.cell?_of_block (a := ⟨H, 1, none⟩) e3).trans c1
      have c0d : W.drew.cell? ⟨H, 0, none⟩ = some (.int .i64 p.pid) := c0
      have c1d : W.drew.cell? ⟨H, 1, none⟩ = some (.int .i64 p.ppid) := c1
      have c0a : (W.alloc (.cells #[.int .i64 p.pid] 3)).drew.cell? ⟨H, 0, none⟩ = some (.int .i64 p.pid) := (World.cell?_alloc_past (w := W) (.cells #[.int .i64 p.pid] 3) H 0 (by omega)).trans c0
      have c1a : (W.alloc (.cells #[.int .i64 p.pid] 3)).drew.cell? ⟨H, 1, none⟩ = some (.int .i64 p.ppid) := (World.cell?_alloc_past (w := W) (.cells #[.int .i64 p.pid] 3) H 1 (by omega)).trans c1
      have hlook2' : (Instr.lookup 47 (.map (some w.heap.size)) (.int .i64 p.ppid) false).run Try.prog (W.alloc (.cells #[.int .i64 p.pid] 3)).drew = .ok v (W.alloc (.cells #[.int .i64 p.pid] 3)).drew := hlook2
      have happ' : ∀ ty, (Builtin.append_ #[22, 22] ty #[v, .slice (some ⟨H + 1, 0, none⟩) 1 1]).run Try.prog (W.alloc (.cells #[.int .i64 p.pid] 3)).drew = .ok (.slice (some ⟨g, 0, none⟩) l cap) w2 := by
        rw [← hWs]
        exact happ
      have HP := hide (And.intro hfm3 (And.intro hkw3 (And.intro hfr3 (And.intro hbl3 hsz3))))
      have HA := hide happ'
      clear hfm3 hkw3 hfr3 hbl3 hsz3 hfar e2 e3 hW hH hgW hkW hb1 hgm1 happ happ' hlook2
      go_region_held3 (fun w' => w'.cell? ⟨H, 0, none⟩ = some (.int .i64 p.pid) ∧ w'.cell? ⟨H, 1, none⟩ = some (.int .i64 p.ppid)) (first | exact ⟨c0, c1⟩ | exact ⟨c0d, c1d⟩ | exact ⟨c0a, c1a⟩ | exact ⟨c02, c12⟩ | exact ⟨c03, c13⟩) ((refine step_append_run (by rfl) _ _ _ _ (by rfl) v _ _ w2 (by rfl) (by rfl) (unhide HA) ?_))
      all_goals
        go_wp2
        go_roundw
        case rel =>
          obtain ⟨hfm3, hkw3, hfr3, hbl3, hsz3⟩ := unhide HP
          have hsz3' : W.heap.size < w3.heap.size := hsz3
          refine ⟨_, cnt1, _, _, _, k + 1, (unhide hrW).same (hfr3 b (by show b < W.heap.size; omega) (by omega) (by omega)) (hfr3 _ (by show _ < W.heap.size; omega) (by omega) (by omega)), hfm3, by omega, ?_, hide hkw3, (unhide hbW).drew.trans (hbl3.mono (by omega)), by omega⟩
          rw [unhide HPID x p (unhide HF)]
          exact hide (kc_add (unhide hKc) (unhide HF) (unhide HLX))
        case measure =>
          obtain ⟨hfm3, hkw3, hfr3, hbl3, hsz3⟩ := unhide HP
          rw [((unhide hrW).same (hfr3 b (by show b < W.heap.size; omega) (by omega) (by omega)) (hfr3 _ (by show _ < W.heap.size; omega) (by omega) (by omega))).left_eq, unhide hms]
          exact hlt1
end Go.Proofs.Qxb6600948a
