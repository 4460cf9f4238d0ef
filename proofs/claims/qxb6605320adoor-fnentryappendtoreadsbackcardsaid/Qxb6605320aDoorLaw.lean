import Derived.Test.Qxb6605320aDoorRead
namespace Go.Proofs.Qxb6605320aDoor
open Go.ChangeShapes Go.WideShapes Go.ChangeAt Go.RowKit Go.Lib Go.Sort
set_option linter.unusedVariables false

theorem add_any (s x : Int) (h0 : 0 ≤ s) (h1 : s ≤ 1048577) (h2 : 0 ≤ x) (h3 : x ≤ 9223372036854775807) (w : World) :
    Calls Tryd.prog 12 #[.int .i64 s, .int .i64 x] w fun e w' => ∃ r : Int, e = .returned (.int .i64 r) ∧ 0 ≤ r ∧ r ≤ 1048577 ∧ w = w' := by
  by_cases h : 1048576 - s < x
  · go_enter Tryd.func12, Tryd.ntmps12
    go_wp2
    go_ret
    exact ⟨_, rfl, by omega, by omega, rfl⟩
  · go_enter Tryd.func12, Tryd.ntmps12
    go_wp2
    go_ret
    exact ⟨_, rfl, by omega, by omega, rfl⟩

theorem bytes5 (a : Option Addr) (n c : Nat) (s1 s2 s3 s4 : ByteArray) (hn : n ≤ maxLen) (h1 : s1.size ≤ maxLen) (h2 : s2.size ≤ maxLen) (h3 : s3.size ≤ maxLen) (h4 : s4.size ≤ maxLen) (w : World) :
    Calls Tryd.prog 5 #[.slice a n c, .string s1, .string s2, .string s3, .string s4] w fun e w' => ∃ r : Int, e = .returned (.int .i64 r) ∧ w = w' := by
  unfold maxLen at hn h1 h2 h3 h4
  go_enter Tryd.func5, Tryd.ntmps5
  go_wp2_with fail
  refine (add_any _ _ (by omega) (by omega) (by omega) (by omega) _).mono ?_
  rintro e w' ⟨r1, rfl, l1, u1, rfl⟩
  go_wp2_with fail
  refine (add_any _ _ l1 u1 (by omega) (by omega) _).mono ?_
  rintro e w' ⟨r2, rfl, l2, u2, rfl⟩
  go_wp2_with fail
  refine (add_any _ _ l2 u2 (by omega) (by omega) _).mono ?_
  rintro e w' ⟨r3, rfl, l3, u3, rfl⟩
  go_wp2_with fail
  refine (add_any _ _ l3 u3 (by omega) (by omega) _).mono ?_
  rintro e w' ⟨r4, rfl, l4, u4, rfl⟩
  go_wp2_with fail
  refine (add_any _ _ l4 u4 (by omega) (by omega) _).mono ?_
  rintro e w' ⟨r5, rfl, l5, u5, rfl⟩
  go_wp2
  go_ret
  exact ⟨_, rfl, rfl⟩

set_option maxHeartbeats 1000000 in
theorem bytes4 (a : Option Addr) (n c : Nat) (slot seq until_ tm : Int) (s1 s2 s3 s4 : ByteArray) (isMain : Bool) (hn : n ≤ maxLen) (h1 : s1.size ≤ maxLen) (h2 : s2.size ≤ maxLen) (h3 : s3.size ≤ maxLen) (h4 : s4.size ≤ maxLen) (w : World) :
    Calls Tryd.prog 4 #[.slice a n c, .int .u64 slot, .string s1, .int .u64 seq, .string s2, .int .u64 until_, .int .u64 tm, .string s3, .string s4, .bool isMain] w fun e w' => ∃ r : Bool, e = .returned (.bool r) ∧ (r = true → n ≤ 1048576 ∧ s1.size ≤ 1048576 ∧ s2.size ≤ 1048576) ∧ w = w' := by
  unfold maxLen at hn h1 h2 h3 h4
  go_enter Tryd.func4, Tryd.ntmps4
  go_wp2
  all_goals
    go_ret
    refine ⟨_, rfl, fun h => ?_, rfl⟩
    first | (cases h; done) | (refine ⟨?_, ?_, ?_⟩ <;> omega)

theorem at_of {L A D E : List Int} {i : Nat} (h : L = A ++ D ++ E) (hi : A.length = i) : At L i D := by
  subst h hi
  exact at_mid A D E

theorem rd_at {w : World} {g i : Nat} {L D : List Int} (h : Rd w g 0 L) (ha : At L i D) : Rd w g i D := fun k hk => by
  have := h (i + k) (by have := ha.1; omega)
  rw [Nat.zero_add, ha.2 k hk] at this
  exact this

theorem below_up {a b c : World} (h : Below a.heap.size a b) (k : Below b.heap.size b c) : Below a.heap.size a c := h.trans (k.mono h.size)

/-- What is owned and not empty is a slice at a row's head. -/
theorem own_shape {w : World} {B : Nat} {v : Value} {L : List Int} (h : Own w B v L) (h0 : 0 < L.length) : ∃ g cap, v = .slice (some ⟨g, 0, none⟩) L.length cap ∧ L.length ≤ cap ∧ B ≤ g ∧ g < w.heap.size ∧ Rd w g 0 L := by
  rcases h.2 with ⟨_, hn⟩ | ⟨g, cap, cur, hv, hg, hh, hc, _⟩
  · omega
  · subst hv
    refine ⟨g, cap, rfl, hc, hg, (Array.getElem?_eq_some_iff.1 hh).1, fun i hi => ?_⟩
    have h' : w.ownsRow B 5 1 (.slice (some ⟨g, 0, none⟩) L.length cap) L.length (Cz L) := h
    rw [Nat.zero_add, h'.cellAt i (by omega)]
    exact Cz_get hi

set_option maxHeartbeats 4000000 in
theorem law (a : Option Addr) (n c : Nat) (zs : List Int) (slot seq : Nat) (until_ tm : Int) (client op s3 s4 : ByteArray) (isMain : Bool) (w : World)
    (hzn : zs.length = n) (hnone : a = none → n = 0 ∧ c = 0) (hc : ∀ x, a = some x → ∀ j v, (Cz zs)[j]? = some v → w.cell? (x.add j) = some v) (hx : ∀ x, a = some x → 0 < n → x.block < w.heap.size)
    (hn : n ≤ maxLen) (h1 : client.size ≤ maxLen) (h2 : op.size ≤ maxLen) (h3 : s3.size ≤ maxLen) (h4 : s4.size ≤ maxLen) (hu1 : slot < 18446744073709551616) (hu2 : seq < 18446744073709551616)
    (htab : Lib.TabIs Tryd.prog w "internal/strconv.uint64pow10" .u64 Lib.pow10Tab) :
    Calls Tryd.prog 3 #[.slice a n c, .int .u64 slot, .string client, .int .u64 seq, .string op, .int .u64 until_, .int .u64 tm, .string s3, .string s4, .bool isMain] w fun e w' => e = .returned (.bool true) ∧ Below w.heap.size w w' := by
  have HT : Hid (Lib.TabBelow Tryd.prog w.heap.size w "internal/strconv.uint64pow10" .u64 Lib.pow10Tab) := hide (tabBelow_of_tabIs htab)
  have HN := hide hnone
  have HC := hide hc
  have HX := hide hx
  have HZ := hide hzn
  clear hnone hc hx hzn htab
  go_enter Tryd.func3, Tryd.ntmps3
  go_wp2_with fail
  refine (bytes4 a n c _ _ _ _ _ _ _ _ _ hn h1 h2 h3 h4 w).mono ?_
  rintro e w' ⟨r, rfl, hr, rfl⟩
  cases r with
  | false =>
    go_wp2
    go_ret
    exact ⟨rfl, Below.refl _ _⟩
  | true =>
    obtain ⟨l1, l2, l3⟩ := hr rfl
    go_wp2_with fail
    refine (bytes5 a n c _ _ _ _ hn h1 h2 h3 h4 w).mono ?_
    rintro e w' ⟨r, rfl, rfl⟩
    by_cases hb : 1048576 < r
    · go_wp2
      go_ret
      exact ⟨rfl, Below.refl _ _⟩
    · have hb' : r ≤ 1048576 := by omega
      clear hb
      go_wp2_with fail
      -- the clone: nil stays nil
      have hclone : Calls Tryd.prog 6 #[.slice a n c] w fun e w' => ∃ ao, e = .returned (.slice ao n n) ∧ (ao = none → zs = []) ∧ (∀ x, ao = some x → x = ⟨w.heap.size, 0, none⟩ ∧ Rd w' w.heap.size 0 zs ∧ w.heap.size < w'.heap.size) ∧ Below w.heap.size w w' := by
        cases a with
        | none =>
          obtain ⟨e1, e2⟩ := unhide HN rfl
          subst e1 e2
          refine (clone_nil w).mono ?_
          rintro e w' ⟨rfl, rfl⟩
          exact ⟨none, rfl, fun _ => List.eq_nil_of_length_eq_zero (unhide HZ), (fun x h => by cases h), Below.refl _ _⟩
        | some x =>
          refine (clone_some x n c zs w (unhide HZ) (fun _ => unhide HC x rfl) (unhide HX x rfl) l1).mono ?_
          rintro e w' ⟨rfl, hrd, hbl, hs⟩
          exact ⟨_, rfl, (fun h => by cases h), fun y h => ⟨(Option.some.inj h).symm, hrd, hs⟩, hbl⟩
      refine hclone.mono ?_
      rintro e w1 ⟨ao, rfl, hao, haos, hb1⟩
      have HAO := hide hao
      have HAS := hide haos
      clear hao haos hclone
      go_wp2_with fail
      refine (entry_any _ _ _ _ _ _ _ _ _ w1).mono ?_
      rintro e w2 ⟨rfl, hb2⟩
      go_wp2_with fail
      obtain rfl := unhide HZ
      refine (appendTo_any slot seq _ _ client op _ _ _ ao zs w2 hu1 hu2 l2 l3 (unhide HAO) (fun x h j v hj => ?_) (fun x h h0 => ?_) l1 (((unhide HT).on (hb1.trans (hb2.mono hb1.size))).here)).mono ?_
      · obtain ⟨rfl, hrd, hs⟩ := unhide HAS x h
        have hj' := (List.getElem?_eq_some_iff.1 hj).1
        rw [Cz_length] at hj'
        have hce := (hrd.below hb2 hs) j hj'
        rw [Cz_get hj'] at hj
        rw [Lib.add_plain, hce]
        exact hj
      · obtain ⟨rfl, hrd, hs⟩ := unhide HAS x h
        exact Nat.lt_of_lt_of_le hs hb2.size
      rintro e w3 ⟨v, L, rfl, hL, hown, hb3⟩
      have hlen : L.length = zs.length + (rec slot client seq op).length := by rw [hL, List.length_append]
      have hrl : (rec slot client seq op).length = nDigits slot + 1 + nDigits client.size + 1 + client.size + 1 + nDigits seq + 1 + nDigits op.size + 1 + op.size + 1 := by
        simp [rec, digI_length, strI_length]; omega
      have d1 := nDigits_20 slot hu1
      have d2 := nDigits_20 client.size (by omega)
      have d3 := nDigits_20 seq hu2
      have d4 := nDigits_20 op.size (by omega)
      obtain ⟨g, cap, rfl, hcap, hgB, hgs, hrd⟩ := own_shape hown (by omega)
      have hL0 : L.length ≤ 10000000 := by omega
      obtain ⟨N, hN⟩ : ∃ N, N = L.length := ⟨_, rfl⟩
      rw [← hN] at hcap ⊢
      have hN0 : N ≤ 10000000 := by omega
      have HLN := hide hN
      have HL := hide hL
      have HLEN := hide (hlen.trans (by rw [hrl]))
      have HR := hide hrd
      have HO := hide hown
      clear hown hL hlen hrl hN hrd
      go_wp2_with fail
      refine (prefix_yes ao zs.length w.heap.size g 0 N cap zs L w3 l1 (fun h => ?_) ?_ (unhide HR) (unhide HLN) (by have := unhide HLEN; omega) (by omega) (fun i hi => ?_)).mono ?_
      · cases ao with
        | none => have := unhide HAO rfl; rw [this] at h; simp at h
        | some x => rw [(unhide HAS x rfl).1]
      · cases ao with
        | none => rw [unhide HAO rfl]; exact fun i hi => absurd hi (Nat.not_lt_zero _)
        | some x =>
          obtain ⟨_, hrd, hs⟩ := unhide HAS x rfl
          exact (hrd.below hb2 hs).below hb3 (Nat.lt_of_lt_of_le hs hb2.size)
      · rw [unhide HL]
        simp only [List.getD_eq_getElem?_getD]
        rw [List.getElem?_append_left hi]
      rintro e w4 ⟨rfl, hb4⟩
      go_wp2_with fail
      have hrd4 : Rd w4 g 0 L := (unhide HR).below hb4 hgs
      have m1 := nDigits_pos slot
      obtain ⟨j, hj⟩ : ∃ j, j = zs.length + nDigits slot := ⟨_, rfl⟩
      obtain ⟨k, hk⟩ : ∃ k, k = j + 1 + nDigits client.size := ⟨_, rfl⟩
      obtain ⟨p, hp⟩ : ∃ p, p = k + 1 + client.size + 1 + nDigits seq := ⟨_, rfl⟩
      obtain ⟨q, hq⟩ : ∃ q, q = p + 1 + nDigits op.size := ⟨_, rfl⟩
      have hend : q + 1 + op.size + 1 = N := by have := unhide HLEN; have := unhide HLN; omega
      have f1 : At L zs.length (digI slot) := at_of (A := zs) (E := [32] ++ digI client.size ++ [32] ++ strI client ++ [32] ++ digI seq ++ [32] ++ digI op.size ++ [32] ++ strI op ++ [10]) (by rw [unhide HL]; simp [rec]) rfl
      have f2 : At L j [32] := at_of (A := zs ++ digI slot) (E := digI client.size ++ [32] ++ strI client ++ [32] ++ digI seq ++ [32] ++ digI op.size ++ [32] ++ strI op ++ [10]) (by rw [unhide HL]; simp [rec]) (by simp [digI_length]; omega)
      have f3 : At L (j + 1) (digI client.size) := at_of (A := zs ++ digI slot ++ [32]) (E := [32] ++ strI client ++ [32] ++ digI seq ++ [32] ++ digI op.size ++ [32] ++ strI op ++ [10]) (by rw [unhide HL]; simp [rec]) (by simp [digI_length]; omega)
      have f4 : At L k [32] := at_of (A := zs ++ digI slot ++ [32] ++ digI client.size) (E := strI client ++ [32] ++ digI seq ++ [32] ++ digI op.size ++ [32] ++ strI op ++ [10]) (by rw [unhide HL]; simp [rec]) (by simp [digI_length]; omega)
      have f5 : At L (k + 1) (strI client) := at_of (A := zs ++ digI slot ++ [32] ++ digI client.size ++ [32]) (E := [32] ++ digI seq ++ [32] ++ digI op.size ++ [32] ++ strI op ++ [10]) (by rw [unhide HL]; simp [rec]) (by simp [digI_length]; omega)
      have f6 : At L (k + 1 + client.size) [32] := at_of (A := zs ++ digI slot ++ [32] ++ digI client.size ++ [32] ++ strI client) (E := digI seq ++ [32] ++ digI op.size ++ [32] ++ strI op ++ [10]) (by rw [unhide HL]; simp [rec]) (by simp [digI_length, strI_length]; omega)
      have f7 : At L (k + 1 + client.size + 1) (digI seq) := at_of (A := zs ++ digI slot ++ [32] ++ digI client.size ++ [32] ++ strI client ++ [32]) (E := [32] ++ digI op.size ++ [32] ++ strI op ++ [10]) (by rw [unhide HL]; simp [rec]) (by simp [digI_length, strI_length]; omega)
      have f8 : At L p [32] := at_of (A := zs ++ digI slot ++ [32] ++ digI client.size ++ [32] ++ strI client ++ [32] ++ digI seq) (E := digI op.size ++ [32] ++ strI op ++ [10]) (by rw [unhide HL]; simp [rec]) (by simp [digI_length, strI_length]; omega)
      have f9 : At L (p + 1) (digI op.size) := at_of (A := zs ++ digI slot ++ [32] ++ digI client.size ++ [32] ++ strI client ++ [32] ++ digI seq ++ [32]) (E := [32] ++ strI op ++ [10]) (by rw [unhide HL]; simp [rec]) (by simp [digI_length, strI_length]; omega)
      have f10 : At L q [32] := at_of (A := zs ++ digI slot ++ [32] ++ digI client.size ++ [32] ++ strI client ++ [32] ++ digI seq ++ [32] ++ digI op.size) (E := strI op ++ [10]) (by rw [unhide HL]; simp [rec]) (by simp [digI_length, strI_length]; omega)
      have f11 : At L (q + 1) (strI op) := at_of (A := zs ++ digI slot ++ [32] ++ digI client.size ++ [32] ++ strI client ++ [32] ++ digI seq ++ [32] ++ digI op.size ++ [32]) (E := [10]) (by rw [unhide HL]; simp [rec]) (by simp [digI_length, strI_length]; omega)
      have f12 : At L (q + 1 + op.size) [10] := at_of (A := zs ++ digI slot ++ [32] ++ digI client.size ++ [32] ++ strI client ++ [32] ++ digI seq ++ [32] ++ digI op.size ++ [32] ++ strI op) (E := []) (by rw [unhide HL]; simp [rec]) (by simp [digI_length, strI_length]; omega)
      refine (record_any g cap N L zs.length j k p q slot seq client.size op.size w4 (unhide HLN) hrd4 hN0 hcap hu1 hu2 f1 hj f2 f3 hk f4 f6 f7 hp f8 f9 hq f10 f12).mono ?_
      rintro e w' ⟨r1, n1, c1, r2, n2, c2, en, rfl, q1, q2, q3, q4, q5, rfl⟩
      have HC5 : Hid (Rd w4 g (k + 1) (strI client)) := hide (rd_at hrd4 f5)
      have HC11 : Hid (Rd w4 g (q + 1) (strI op)) := hide (rd_at hrd4 f11)
      have q3' : (en == (N : Int)) = true := by simp; omega
      have Q1 := hide q1
      have Q2 := hide q2
      have Q4 := hide q4
      have Q5 := hide q5
      clear f1 f2 f3 f4 f5 f6 f7 f8 f9 f10 f11 f12 hj hk hp hq hend q1 q2 q3 q4 q5 HR HO HL HLEN
      go_wp2_with fail
      refine (bytesAre_yes r1 n1 c1 g (k + 1) client w4 (unhide Q1) l2 (fun h => unhide Q4 (by rw [← unhide Q1]; exact h)) (unhide HC5)).mono ?_
      rintro e w5 ⟨rfl, hb5⟩
      go_wp2_with fail
      refine (bytesAre_yes r2 n2 c2 g (q + 1) op w5 (unhide Q2) l3 (fun h => unhide Q5 (by rw [← unhide Q2]; exact h)) ((unhide HC11).below hb5 (Nat.lt_of_lt_of_le hgs hb4.size))).mono ?_
      rintro e w6 ⟨rfl, hb6⟩
      go_wp2
      go_ret
      exact ⟨rfl, below_up (below_up (below_up (below_up (below_up hb1 hb2) hb3) hb4) hb5) hb6⟩
end Go.Proofs.Qxb6605320aDoor
